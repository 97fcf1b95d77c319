import JvmDerived
import JvmDerived.Pilot.@@N@@Statement
import JvmDerived.Pilot.@@N@@Code
set_option linter.unusedVariables false
set_option linter.unusedSimpArgs false
namespace Jvm.RoadKit
open Sem ClassFile Op Lib Jvm.Stand Jvm.Free Jvm.LawKit
section New
variable {p : Program} {l : Launch} {e : Env} {R : Room} {s : State} {m : MethodId} {args : Array Value} {below : List Frame} {meth : Method} {c : Code} {T : State} {locs : List Loc} {cells slots : Nat}
theorem retI (X : Stand p l e R s m args below meth c T locs cells slots) (hx : p.tables.exec = Jvm.exec) {pc : Nat} {Ls : Array Slot} {z : Int32} {rest : List Value} (hret : meth.sig.returnType = some .int) (hd : decode c.code pc = .ok (.ireturn, 1)) {fs : List Frame}
    (hl : ∀ (f : JFrame) (acts : List Action), f.method = m → f.locked = none → f.entered = [] → (doReturn e (T.setTop f) acts (some (.int z))).1 = T.setFrames fs) : Steps p.tables e below (T.setTop (mkF m pc Ls (.int z :: rest))) (T.setFrames fs) := by
  have hm' : T.vm.method? m = some meth := X.method'
  have hn : narrow .int (.int z) = .int z := rfl
  show Steps p.tables e below (T.setTop { method := m, pc := pc, locals := Ls, stack := _ :: rest, locked := none }) _
  jvm_step X.here [X.here.top, hx, hd, hm', hret, hn]
  first | (intro acts; rw [hl _ acts rfl rfl rfl]) | rw [hl _ _ rfl rfl rfl]
  exact Steps.refl _
end New
end Jvm.RoadKit
namespace Jvm.Pilot.@@N@@
open Jvm Jvm.ClassFile Sem Op Lib Jvm.Free Jvm.Stand Jvm.LawKit Jvm.RoadKit Bundle Jvm.Pilot.@@N@@.Jvm.D
def own_A (Z : State) (h : Heap) (a : Addr) (n : Nat) (f : Nat → Int32) : Prop := ∃ c : Cell, Arr Z h a c .int ∧ c.slots.size = n ∧ ∀ j, j < n → c.slots[j]? = some (.int (f j))
def own_upd (f : Nat → Int32) (i : Nat) (x : Int32) : Nat → Int32 := fun j => if j = i then x else f j
section OwnA
variable {Z : State} {h h' : Heap} {a b : Addr} {n : Nat} {f g : Nat → Int32} {sl : Nat} {v : Value} {ws : List Addr} {c : Cell} {j x z : Int32}
theorem own_A.lt (F : own_A Z h a n f) : a < h.size := by obtain ⟨c, A, -⟩ := F; exact A.lt
theorem own_A.ext (F : own_A Z h a n f) (E : Ext h h') : own_A Z h' a n f := by obtain ⟨c, A, r⟩ := F; exact ⟨c, A.ext E, r⟩
theorem own_A.other (F : own_A Z h b n f) (W : Wr h h' a sl v) (q : b ≠ a) : own_A Z h' b n f := by obtain ⟨c, A, r⟩ := F; exact ⟨c, A.other W q, r⟩
theorem own_A.keep (F : own_A Z h a n f) (K : Keep h h' ws) (q : a ∉ ws) : own_A Z h' a n f := by obtain ⟨c, A, r⟩ := F; exact ⟨c, ⟨K.2.1 a c A.1 q, A.2⟩, r⟩
theorem own_A.set {i : Nat} (F : own_A Z h a n f) (W : Wr h h' a i (.int x)) : own_A Z h' a n (own_upd f i x) := by
  obtain ⟨c, A, S, H⟩ := F
  have hi : i < c.slots.size := by obtain ⟨c2, e1, -, e3, -⟩ := W; cases A.1.symm.trans e1; exact e3
  refine ⟨_, A.same W, by rw [sz_set]; exact S, fun k hk => ?_⟩
  by_cases u : k = i
  · subst u; simp [Cell.setSlot, own_upd, hi]
  · simp only [Cell.setSlot, own_upd, if_neg u]; rw [Array.getElem?_setIfInBounds_ne (Ne.symm u)]; exact H k hk
theorem own_A.congr (F : own_A Z h a n f) (q : ∀ j, j < n → f j = g j) : own_A Z h a n g := by obtain ⟨c, A, S, H⟩ := F; exact ⟨c, A, S, fun j hj => by rw [← q j hj]; exact H j hj⟩
theorem own_A.new {k : ClassId} (A : Arr Z h a (newA k .int z) .int) (e : z.toNatClampNeg = n) : own_A Z h a n (fun _ => 0) := ⟨_, A, by rw [sz_new]; exact e, fun i hi => by simp [newA, e, hi, defaultValue]⟩
theorem own_inb (S : c.slots.size = n) (q1 : ¬ j < 0) (q2 : j.toNatClampNeg < n) : ¬ (j < 0 ∨ c.slots.size ≤ j.toNatClampNeg) := by rw [S]; intro y; rcases y with y | y; exact q1 y; omega
theorem own_len (S : c.slots.size = n) (q : n.toInt32 = z) : c.slots.size.toInt32 = z := by rw [S]; exact q
theorem own_A.arv (F : own_A Z h a n f) (hn : n < 2 ^ 31) : ∃ k, Arv Z h a k .int (Int32.ofNat n) ((List.range n).map fun j => .int (f j)) (.int 0) := by
  obtain ⟨c, A, S, H⟩ := F
  have e : (Int32.ofNat n).toInt = n := Int32.toInt_ofNat_of_lt (by omega)
  have gt : ∀ i, i < n → ((List.range n).map fun j => Value.int (f j)).getD i (.int 0) = .int (f i) := fun i hi => by simp [List.getD_eq_getElem?_getD, hi]
  refine ⟨c.cls, c, A, rfl, by simp only [Int32.toNatClampNeg, e]; omega, by rw [Int32.lt_iff_toInt_lt, e]; show ¬ (n : Int) < 0; omega, fun i hi => ?_, fun i hi => ?_⟩
  · rw [gt i (by omega)]; exact H i (by omega)
  · rw [gt i (by omega)]; rfl
end OwnA
theorem own_ofI {m : Nat} (h : m ≤ 32) : (Int32.ofNat m).toInt = m := Int32.toInt_ofNat_of_lt (by omega)
theorem own_ofN {m : Nat} (h : m ≤ 32) : (Int32.ofNat m).toNatClampNeg = m := by simp only [Int32.toNatClampNeg, own_ofI h]; omega
theorem own_of0 {m : Nat} (h : m ≤ 32) : ¬ Int32.ofNat m < 0 := by rw [Int32.lt_iff_toInt_lt, own_ofI h]; show ¬ (m : Int) < 0; omega
theorem own_inj {m n : Nat} (hm : m ≤ 32) (hn : n ≤ 32) (e : Int32.ofNat m = Int32.ofNat n) : m = n := by
  have := congrArg Int32.toInt e; rw [own_ofI hm, own_ofI hn] at this; omega
theorem own_back {x : Int32} (h : ¬ x < 0) : Int32.ofNat x.toNatClampNeg = x := (back32 h).1
theorem own_nn {n : Int32} (h : 0 ≤ n.toInt) : ¬ n < 0 := by rw [Int32.lt_iff_toInt_lt]; have : (0 : Int32).toInt = 0 := rfl; omega
theorem own_tn {n : Int32} {k : Nat} (h : n.toInt < k) (hk : 0 < k) : n.toNatClampNeg < k := by simp only [Int32.toNatClampNeg]; omega
theorem own_gt {x y : Int32} : x < y ↔ x.toInt < y.toInt := Int32.lt_iff_toInt_lt
theorem own_z : (0 : Int32).toInt = 0 := rfl
/-- a tree of K nodes: each node's parent is smaller and has a smaller round -/
def own_tree (K : Nat) (fP fR : Nat → Int32) : Prop := fR 0 = 0 ∧ fP 0 = 0 ∧ (∀ x, x < K → ¬ fP x < 0) ∧ ∀ x, 0 < x → x < K → (fP x).toNatClampNeg < x ∧ (fR (fP x).toNatClampNeg).toInt < (fR x).toInt ∧ 0 < (fR x).toInt
theorem own_tree.lt {K : Nat} {fP fR : Nat → Int32} (T : own_tree K fP fR) (hK : 0 < K) {x : Nat} (h : x < K) : (fP x).toNatClampNeg < K := by
  by_cases u : x = 0
  · subst u; rw [T.2.1]; exact hK
  · have := (T.2.2.2 x (by omega) h).1; omega
theorem own_tree.r0 {K : Nat} {fP fR : Nat → Int32} (T : own_tree K fP fR) {x : Nat} (h : x < K) : 0 ≤ (fR x).toInt := by
  by_cases u : x = 0
  · subst u; rw [T.1]; decide
  · have := (T.2.2.2 x (by omega) h).2.2; omega
theorem own_d_prog_132_method_1_0 : decode prog_132_method_1_code 0 = .ok (.aload_n 0, 1) := by decide +kernel
theorem own_d_prog_132_method_1_1 : decode prog_132_method_1_code 1 = .ok (.invokespecial 1, 3) := by decide +kernel
theorem own_d_prog_132_method_1_4 : decode prog_132_method_1_code 4 = .ok (.aload_n 0, 1) := by decide +kernel
theorem own_d_prog_132_method_1_5 : decode prog_132_method_1_code 5 = .ok (.aload_n 1, 1) := by decide +kernel
theorem own_d_prog_132_method_1_6 : decode prog_132_method_1_code 6 = .ok (.putfield 7, 3) := by decide +kernel
theorem own_d_prog_132_method_1_9 : decode prog_132_method_1_code 9 = .ok (.aload_n 0, 1) := by decide +kernel
theorem own_d_prog_132_method_1_10 : decode prog_132_method_1_code 10 = .ok (.aload_n 2, 1) := by decide +kernel
theorem own_d_prog_132_method_1_11 : decode prog_132_method_1_code 11 = .ok (.putfield 13, 3) := by decide +kernel
theorem own_d_prog_132_method_1_14 : decode prog_132_method_1_code 14 = .ok (.aload_n 0, 1) := by decide +kernel
theorem own_d_prog_132_method_1_15 : decode prog_132_method_1_code 15 = .ok (.aload_n 3, 1) := by decide +kernel
theorem own_d_prog_132_method_1_16 : decode prog_132_method_1_code 16 = .ok (.putfield 16, 3) := by decide +kernel
theorem own_d_prog_132_method_1_19 : decode prog_132_method_1_code 19 = .ok (.return_, 1) := by decide +kernel
theorem own_pn0 : plainName "com/example/unfold/unfold/reduction/Splitting" = true := by first | (simp [plainName, overriddenIn]; done) | decide +kernel
theorem own_ef_ctor (m : MethodId) (a1 : Addr) (a2 : Addr) (a3 : Addr) (a4 : Addr) : entryFrame m #[(.ref a1), (.ref a2), (.ref a3), (.ref a4)] 4 = mkF m 0 #[.val (.ref a1), .val (.ref a2), .val (.ref a3), .val (.ref a4)] [] := by first | (simp [entryFrame, mkF, argsToLocals, Value.category]; done) | rfl
def own_Q_ctor (Z : State) (a1 : Addr) (a2 : Addr) (a3 : Addr) (a4 : Addr) (h0 : Heap) (n0 : Nat) (v : Option Value) (h : Heap) (L : List Loc) : Prop := v = none ∧ Fr n0 L ∧ Keep h0 h [a1] ∧ Fld Z h a1 "com/example/unfold/unfold/reduction/Splitting" "blocks" "[I" (.ref a2) ∧ Fld Z h a1 "com/example/unfold/unfold/reduction/Splitting" "parents" "[I" (.ref a3) ∧ Fld Z h a1 "com/example/unfold/unfold/reduction/Splitting" "rounds" "[I" (.ref a4)
set_option maxRecDepth 65536 in
set_option maxHeartbeats 40000000 in
theorem own_rm_ctor (l : Launch) (Z : State) (a0 : Array Value) (hw : ∀ d ∈ tables_1, d.before a0 Z = true) (ws : List Jvm.Cond) (a1 : Addr) (a2 : Addr) (a3 : Addr) (a4 : Addr) (h0 : Heap) (n0 : Nat) (Z0 : n0 ≤ h0.size) (E1 : Exa Z h0 a1 "com/example/unfold/unfold/reduction/Splitting") (F_blocks : Fld Z h0 a1 "com/example/unfold/unfold/reduction/Splitting" "blocks" "[I" .null) (F_parents : Fld Z h0 a1 "com/example/unfold/unfold/reduction/Splitting" "parents" "[I" .null) (F_rounds : Fld Z h0 a1 "com/example/unfold/unfold/reduction/Splitting" "rounds" "[I" .null) (g1 : n0 ≤ a1) :
    MetFree l (⟨"com/example/unfold/unfold/reduction/Splitting", "<init>", "([I[I[I)V"⟩ : MethodName) (head1 (Jvm.Cond.code (⟨"com/example/unfold/unfold/reduction/Splitting", "<init>", "([I[I[I)V"⟩ : MethodName) prog_132_method_1_code 4 none :: ws) ({ frames := 1, cells := 0, slots := 0, locals := 12 } : Room)) (fun a U => a = #[(.ref a1), (.ref a2), (.ref a3), (.ref a4)] ∧ Z.Warmed39 U.vm ∧ U.heap = h0) (fun _ _ _ _ _ => True) (fun _ U o U' => ∃ v L, o = .returned v ∧ own_Q_ctor Z a1 a2 a3 a4 h0 n0 v U'.heap L ∧ FrameEnd U o U' L ({ frames := 1, cells := 0, slots := 0, locals := 12 } : Room).cells ({ frames := 1, cells := 0, slots := 0, locals := 12 } : Room).slots) := by
  refine MetFree.of_bodySF (plainFor_of_name own_pn0) hisR ?_
  intro p e s m args below meth c s₁ Bd hml0 hP hK
  obtain ⟨rfl, hZ, hh⟩ := hP
  have hx := Bd.exec
  have hby := Bd.bytes
  have hml : c.maxLocals = 4 := hml0
  have hown : s.vm.findClass "com/example/unfold/unfold/reduction/Splitting" = some m.cls := findClass_of_methodNamed Bd.named
  have hnm := (name_of_methodNamed Bd.named Bd.method).1
  have X0 : Stand p l e ({ frames := 1, cells := 0, slots := 0, locals := 12 } : Room) s m #[(.ref a1), (.ref a2), (.ref a3), (.ref a4)] below meth c s₁ [] 0 0 := Stand.of_body Bd
  have e0 : s₁.heap = h0 := by rw [← hh, Bd.state]; rfl
  have N0 := Fr.nil n0
  have K0 : Keep h0 h0 [a1] := Keep.refl _ _
  have pre0 : ∀ t, Steps p.tables e below (s₁.setTop (mkF m 0 #[.val (.ref a1), .val (.ref a2), .val (.ref a3), .val (.ref a4)] [])) t → Steps p.tables e below (s₁.setTop (entryFrame m #[(.ref a1), (.ref a2), (.ref a3), (.ref a4)] 4)) t := fun t k => castTop (own_ef_ctor m a1 a2 a3 a4) k
  obtain ⟨T1, X1, e1, st1⟩ := initO X0 hx hZ hown (hw _ (List.mem_of_getElem? (i := 8) rfl)) (hw _ (List.mem_of_getElem? (i := 9) rfl)) (hw _ (List.mem_of_getElem? (i := 10) rfl)) e0 (g := (mkF m 1 #[.val (.ref a1), .val (.ref a2), .val (.ref a3), .val (.ref a4)] [(.ref a1)])) rfl (by rw [hml]; rfl) rfl (hb hby own_d_prog_132_method_1_1) (by decide) (W := 0) (by show 2 * 0 + _ ≤ _; exact Nat.le_of_eq rfl) (by decide)
  obtain ⟨T2, h2, X2, e2, W2, st2⟩ := putF X1 hx hZ hown (host := "") (Or.inl (hw _ (List.mem_of_getElem? (i := 11) rfl))) Via.refl e1 F_blocks E1 (Or.inr ⟨(hw _ (List.mem_of_getElem? (i := 12) rfl)), rfl, hnm⟩) (hw _ (List.mem_of_getElem? (i := 3) rfl)) (ty := (.array .int)) (by decide) rfl rfl (g := (mkF m 6 #[.val (.ref a1), .val (.ref a2), .val (.ref a3), .val (.ref a4)] [(.ref a2), (.ref a1)])) rfl rfl (hb hby own_d_prog_132_method_1_6)
  have f3 := E1.wr W2
  have f5 := F_parents.other W2 (Or.inr (slot_ne (Or.inr (hw _ (List.mem_of_getElem? (i := 14) rfl))) (Or.inr (hw _ (List.mem_of_getElem? (i := 12) rfl))) (by decide) (t := (.array .int)) (t' := (.array .int)) (by decide) (by decide)))
  have f6 := F_rounds.other W2 (Or.inr (slot_ne (Or.inr (hw _ (List.mem_of_getElem? (i := 16) rfl))) (Or.inr (hw _ (List.mem_of_getElem? (i := 12) rfl))) (by decide) (t := (.array .int)) (t' := (.array .int)) (by decide) (by decide)))
  have k7 := K0.wr W2 (Or.inl (List.mem_of_getElem? (i := 0) rfl))
  have nf8 := Fr.snoc X2 N0 g1
  have f9 := F_blocks.same W2
  obtain ⟨T10, h10, X10, e10, W10, st10⟩ := putF X2 hx hZ hown (host := "") (Or.inl (hw _ (List.mem_of_getElem? (i := 13) rfl))) Via.refl e2 f5 f3 (Or.inr ⟨(hw _ (List.mem_of_getElem? (i := 14) rfl)), rfl, hnm⟩) (hw _ (List.mem_of_getElem? (i := 3) rfl)) (ty := (.array .int)) (by decide) rfl rfl (g := (mkF m 11 #[.val (.ref a1), .val (.ref a2), .val (.ref a3), .val (.ref a4)] [(.ref a3), (.ref a1)])) rfl rfl (hb hby own_d_prog_132_method_1_11)
  have f11 := f3.wr W10
  have f12 := f9.other W10 (Or.inr (slot_ne (Or.inr (hw _ (List.mem_of_getElem? (i := 12) rfl))) (Or.inr (hw _ (List.mem_of_getElem? (i := 14) rfl))) (by decide) (t := (.array .int)) (t' := (.array .int)) (by decide) (by decide)))
  have f14 := f6.other W10 (Or.inr (slot_ne (Or.inr (hw _ (List.mem_of_getElem? (i := 16) rfl))) (Or.inr (hw _ (List.mem_of_getElem? (i := 14) rfl))) (by decide) (t := (.array .int)) (t' := (.array .int)) (by decide) (by decide)))
  have k15 := k7.wr W10 (Or.inl (List.mem_of_getElem? (i := 0) rfl))
  have nf16 := Fr.snoc X10 nf8 g1
  have f17 := f5.same W10
  obtain ⟨T18, h18, X18, e18, W18, st18⟩ := putF X10 hx hZ hown (host := "") (Or.inl (hw _ (List.mem_of_getElem? (i := 15) rfl))) Via.refl e10 f14 f11 (Or.inr ⟨(hw _ (List.mem_of_getElem? (i := 16) rfl)), rfl, hnm⟩) (hw _ (List.mem_of_getElem? (i := 3) rfl)) (ty := (.array .int)) (by decide) rfl rfl (g := (mkF m 16 #[.val (.ref a1), .val (.ref a2), .val (.ref a3), .val (.ref a4)] [(.ref a4), (.ref a1)])) rfl rfl (hb hby own_d_prog_132_method_1_16)
  have f19 := f11.wr W18
  have f20 := f12.other W18 (Or.inr (slot_ne (Or.inr (hw _ (List.mem_of_getElem? (i := 12) rfl))) (Or.inr (hw _ (List.mem_of_getElem? (i := 16) rfl))) (by decide) (t := (.array .int)) (t' := (.array .int)) (by decide) (by decide)))
  have f21 := f17.other W18 (Or.inr (slot_ne (Or.inr (hw _ (List.mem_of_getElem? (i := 14) rfl))) (Or.inr (hw _ (List.mem_of_getElem? (i := 16) rfl))) (by decide) (t := (.array .int)) (t' := (.array .int)) (by decide) (by decide)))
  have k23 := k15.wr W18 (Or.inl (List.mem_of_getElem? (i := 0) rfl))
  have nf24 := Fr.snoc X18 nf16 g1
  have f25 := f14.same W18
  have pre26 : ∀ t, Steps p.tables e below (T18.setTop (mkF m 19 #[.val (.ref a1), .val (.ref a2), .val (.ref a3), .val (.ref a4)] [])) t → Steps p.tables e below (s₁.setTop (entryFrame m #[(.ref a1), (.ref a2), (.ref a3), (.ref a4)] 4)) t := by
    intro t kt
    refine pre0 t ?_
    show Steps p.tables e below (s₁.setTop (mkF m 0 #[.val (.ref a1), .val (.ref a2), .val (.ref a3), .val (.ref a4)] [])) _
    refine XS.aloadN X0.here hx rfl (hb hby own_d_prog_132_method_1_0) rfl rfl ?_
    show Steps p.tables e below (s₁.setTop (mkF m 1 #[.val (.ref a1), .val (.ref a2), .val (.ref a3), .val (.ref a4)] [(.ref a1)])) _
    refine st1 _ ?_
    show Steps p.tables e below (T1.setTop (mkF m 4 #[.val (.ref a1), .val (.ref a2), .val (.ref a3), .val (.ref a4)] [])) _
    refine XS.aloadN X1.here hx rfl (hb hby own_d_prog_132_method_1_4) rfl rfl ?_
    show Steps p.tables e below (T1.setTop (mkF m 5 #[.val (.ref a1), .val (.ref a2), .val (.ref a3), .val (.ref a4)] [(.ref a1)])) _
    refine XS.aloadN X1.here hx rfl (hb hby own_d_prog_132_method_1_5) rfl rfl ?_
    show Steps p.tables e below (T1.setTop (mkF m 6 #[.val (.ref a1), .val (.ref a2), .val (.ref a3), .val (.ref a4)] [(.ref a2), (.ref a1)])) _
    refine st2 _ ?_
    show Steps p.tables e below (T2.setTop (mkF m 9 #[.val (.ref a1), .val (.ref a2), .val (.ref a3), .val (.ref a4)] [])) _
    refine XS.aloadN X2.here hx rfl (hb hby own_d_prog_132_method_1_9) rfl rfl ?_
    show Steps p.tables e below (T2.setTop (mkF m 10 #[.val (.ref a1), .val (.ref a2), .val (.ref a3), .val (.ref a4)] [(.ref a1)])) _
    refine XS.aloadN X2.here hx rfl (hb hby own_d_prog_132_method_1_10) rfl rfl ?_
    show Steps p.tables e below (T2.setTop (mkF m 11 #[.val (.ref a1), .val (.ref a2), .val (.ref a3), .val (.ref a4)] [(.ref a3), (.ref a1)])) _
    refine st10 _ ?_
    show Steps p.tables e below (T10.setTop (mkF m 14 #[.val (.ref a1), .val (.ref a2), .val (.ref a3), .val (.ref a4)] [])) _
    refine XS.aloadN X10.here hx rfl (hb hby own_d_prog_132_method_1_14) rfl rfl ?_
    show Steps p.tables e below (T10.setTop (mkF m 15 #[.val (.ref a1), .val (.ref a2), .val (.ref a3), .val (.ref a4)] [(.ref a1)])) _
    refine XS.aloadN X10.here hx rfl (hb hby own_d_prog_132_method_1_15) rfl rfl ?_
    show Steps p.tables e below (T10.setTop (mkF m 16 #[.val (.ref a1), .val (.ref a2), .val (.ref a3), .val (.ref a4)] [(.ref a4), (.ref a1)])) _
    refine st18 _ ?_
    exact kt
  obtain ⟨fs, hr, hrun, hended, hW, hsame⟩ := X18.leave (v := none) (fun _ => rfl)
  refine ⟨_, _, pre26 _ ?_, hrun, hended, _, _, rfl, ?_, ⟨_, rfl⟩, hW, hsame.mono (by decide) (by decide)⟩
  · show Steps p.tables e below (T18.setTop (mkF m 19 #[.val (.ref a1), .val (.ref a2), .val (.ref a3), .val (.ref a4)] [])) _
    exact X18.returnOut hx Bd.returns (hb hby own_d_prog_132_method_1_19) hr
  · show own_Q_ctor Z a1 a2 a3 a4 h0 n0 (none) T18.heap _
    rw [e18]
    exact ⟨rfl, nf24, k23, f20, f21, f25⟩
def own_v2 (x0 x1 : Int32) : Nat → Int32
  | 0 => x0
  | _ => x1
def own_v5 (x0 x1 x2 x3 x4 : Int32) : Nat → Int32
  | 0 => x0
  | 1 => x1
  | 2 => x2
  | 3 => x3
  | _ => x4
def own_min (x y : Int32) : Int32 := if y < x then y else x
def own_sep (fP fR : Nat → Int32) : Nat → Nat → Nat → Int32 → Int32
  | 0, _, _, r => r
  | k + 1, x, y, r => if x = y then r else if fR x < fR y then own_sep fP fR k x (fP y).toNatClampNeg (fR y) else own_sep fP fR k (fP x).toNatClampNeg y (fR x)
def own_anc (fP : Nat → Int32) (c : Int32) (s : Nat) : Int32 := if c = Int32.ofNat s ∨ c = fP s ∨ c = fP (fP s).toNatClampNeg ∨ c = fP (fP (fP s).toNatClampNeg).toNatClampNeg then 1 else 0
def own_con (fP fR : Nat → Int32) (best c : Int32) (cn x y : Nat) : Int32 := if own_anc fP c x = own_anc fP c y then best else if best = 0 then fR cn else own_min best (fR cn)
def own_nx (fP : Nat → Int32) (x : Nat) : Nat := (fP x).toNatClampNeg
def own_Anc (fP : Nat → Int32) (c x : Nat) : Prop := c = x ∨ c = own_nx fP x ∨ c = own_nx fP (own_nx fP x) ∨ c = own_nx fP (own_nx fP (own_nx fP x))
def own_D (fP : Nat → Int32) (c x y : Nat) : Prop := ¬ (own_Anc fP c x ↔ own_Anc fP c y)
section Plain
variable {fP fR : Nat → Int32}
theorem own_nxl (T : own_tree 5 fP fR) {x : Nat} (hx : x < 5) : own_nx fP x < 5 ∧ (own_nx fP x < x ∨ (x = 0 ∧ own_nx fP x = 0)) := by
  refine ⟨T.lt (by decide) hx, ?_⟩
  by_cases u : x = 0
  · right; refine ⟨u, ?_⟩; subst u; show (fP 0).toNatClampNeg = 0; rw [T.2.1]; rfl
  · left; exact (T.2.2.2 x (by omega) hx).1
theorem own_ancS (T : own_tree 5 fP fR) {c x : Nat} (hx : x < 5) (h0 : 0 < x) (hc : c ≠ 0) : own_Anc fP c x ↔ c = x ∨ own_Anc fP c (own_nx fP x) := by
  have a1 := own_nxl T hx
  have a2 := own_nxl T a1.1
  have a3 := own_nxl T a2.1
  have a4 := own_nxl T a3.1
  unfold own_Anc
  constructor
  · intro h; rcases h with h | h | h | h
    · exact Or.inl h
    · exact Or.inr (Or.inl h)
    · exact Or.inr (Or.inr (Or.inl h))
    · exact Or.inr (Or.inr (Or.inr (Or.inl h)))
  · intro h; rcases h with h | h | h | h | h
    · exact Or.inl h
    · exact Or.inr (Or.inl h)
    · exact Or.inr (Or.inr (Or.inl h))
    · exact Or.inr (Or.inr (Or.inr h))
    · exact absurd (show c = 0 by omega) hc
theorem own_nxR (T : own_tree 5 fP fR) {x : Nat} (hx : x < 5) : own_nx fP x = x ∨ (fR (own_nx fP x)).toInt < (fR x).toInt := by
  by_cases u : x = 0
  · left; have := (own_nxl T hx).2; omega
  · right; exact (T.2.2.2 x (by omega) hx).2.1
theorem own_ancR (T : own_tree 5 fP fR) {c x : Nat} (hx : x < 5) (h : own_Anc fP c x) : c = x ∨ (fR c).toInt < (fR x).toInt := by
  have a1 := own_nxl T hx
  have a2 := own_nxl T a1.1
  have b1 := own_nxR T hx
  have b2 := own_nxR T a1.1
  have b3 := own_nxR T a2.1
  rcases h with h | h | h | h
  · exact Or.inl h
  · rw [h]; exact b1
  · rw [h]; rcases b2 with e | e
    · rw [e]; exact b1
    · rcases b1 with e' | e'
      · rw [e'] at e ⊢; exact Or.inr e
      · right; omega
  · rw [h]
    have q : own_nx fP (own_nx fP x) = x ∨ (fR (own_nx fP (own_nx fP x))).toInt < (fR x).toInt := by
      rcases b2 with e | e
      · rw [e]; exact b1
      · rcases b1 with e' | e'
        · rw [e'] at e ⊢; exact Or.inr e
        · right; omega
    rcases b3 with e | e
    · rw [e]; exact q
    · rcases q with e' | e'
      · rw [e'] at e ⊢; exact Or.inr e
      · right; omega
/-- what is known of a candidate for the least round that parts x and y, among the nodes 1 to m -/
def own_Bst (fP fR : Nat → Int32) (m x y : Nat) (v : Int32) : Prop := (v = 0 ∧ ∀ c, 1 ≤ c → c ≤ m → ¬ own_D fP c x y) ∨ ∃ c, 1 ≤ c ∧ c ≤ m ∧ own_D fP c x y ∧ v = fR c ∧ ∀ c', 1 ≤ c' → c' ≤ m → own_D fP c' x y → (fR c).toInt ≤ (fR c').toInt
theorem own_mv (T : own_tree 5 fP fR) {x y : Nat} {v : Int32} (hx : x < 5) (hy : y < 5) (h0 : 0 < x) (ne : x ≠ y) (hR : (fR y).toInt ≤ (fR x).toInt)
    (H : (own_nx fP x = y ∧ v = fR x) ∨ ∃ c, 1 ≤ c ∧ c ≤ 4 ∧ own_D fP c (own_nx fP x) y ∧ v = fR c ∧ ∀ c', 1 ≤ c' → c' ≤ 4 → own_D fP c' (own_nx fP x) y → (fR c).toInt ≤ (fR c').toInt) :
    ∃ c, 1 ≤ c ∧ c ≤ 4 ∧ own_D fP c x y ∧ v = fR c ∧ ∀ c', 1 ≤ c' → c' ≤ 4 → own_D fP c' x y → (fR c).toInt ≤ (fR c').toInt := by
  have nxl := own_nxl T hx
  have nxR := (T.2.2.2 x h0 hx).2.1
  have nxy : ¬ own_Anc fP x y := fun h => by
    rcases own_ancR T hy h with e | e
    · exact ne e
    · omega
  have nxx : ¬ own_Anc fP x (own_nx fP x) := fun h => by
    rcases own_ancR T nxl.1 h with e | e
    · omega
    · change (fR (own_nx fP x)).toInt < _ at nxR; omega
  have AS : ∀ c, 1 ≤ c → (own_Anc fP c x ↔ c = x ∨ own_Anc fP c (own_nx fP x)) := fun c hc => own_ancS T hx h0 (by omega)
  rcases H with ⟨e, hv⟩ | ⟨c, h1, h2, hD, hv, hm⟩
  · refine ⟨x, h0, by omega, fun h => nxy (h.mp (Or.inl rfl)), hv, fun c' g1 g2 gD => ?_⟩
    by_cases u : c' = x
    · subst u; exact Int.le_refl _
    · exfalso; apply gD; rw [AS c' g1, e]; exact ⟨fun h => h.resolve_left u, Or.inr⟩
  · have cx : c ≠ x := fun e => by subst e; exact hD ⟨fun h => absurd h nxx, fun h => absurd h nxy⟩
    refine ⟨c, h1, h2, fun h => hD ⟨fun q => h.mp ((AS c h1).mpr (Or.inr q)), fun q => ((AS c h1).mp (h.mpr q)).resolve_left cx⟩, hv, fun c' g1 g2 gD => ?_⟩
    by_cases u : c' = x
    · subst u
      by_cases w : own_Anc fP c (own_nx fP c')
      · change (fR (own_nx fP c')).toInt < _ at nxR
        rcases own_ancR T nxl.1 w with e | e
        · rw [e]; omega
        · omega
      · by_cases w' : own_Anc fP c y
        · rcases own_ancR T hy w' with e | e
          · rw [e]; exact hR
          · omega
        · exact absurd ⟨fun h => absurd h w, fun h => absurd h w'⟩ hD
    · exact hm c' g1 g2 fun h => gD ⟨fun q => h.mp (((AS c' g1).mp q).resolve_left u), fun q => (AS c' g1).mpr (Or.inr (h.mpr q))⟩
theorem own_Dsym {c x y : Nat} (h : own_D fP c x y) : own_D fP c y x := fun q => h q.symm
theorem own_y0 (T : own_tree 5 fP fR) {x y : Nat} (hx : x < 5) (h : fR x < fR y) : 0 < y := by
  rw [own_gt] at h; have := T.r0 hx
  by_cases u : y = 0
  · subst u; rw [T.1, own_z] at h; omega
  · omega
theorem own_x0 (T : own_tree 5 fP fR) {x y : Nat} (hy : y < 5) (ne : x ≠ y) (h : ¬ fR x < fR y) : 0 < x := by
  rw [own_gt] at h
  by_cases u : x = 0
  · subst u; rw [T.1, own_z] at h; have := (T.2.2.2 y (by omega) hy).2.2; omega
  · omega
theorem own_spec (T : own_tree 5 fP fR) : ∀ (k x y : Nat) (r : Int32), x < 5 → y < 5 → x + y < k → (x = y ∧ own_sep fP fR k x y r = r) ∨ ∃ c, 1 ≤ c ∧ c ≤ 4 ∧ own_D fP c x y ∧ own_sep fP fR k x y r = fR c ∧ ∀ c', 1 ≤ c' → c' ≤ 4 → own_D fP c' x y → (fR c).toInt ≤ (fR c').toInt := by
  intro k
  induction k with
  | zero => intro x y r hx hy hk; omega
  | succ k ih =>
    intro x y r hx hy hk
    by_cases e : x = y
    · left; refine ⟨e, ?_⟩; simp [own_sep, e]
    · right
      by_cases g : fR x < fR y
      · have y0 := own_y0 T hx g
        have ly := own_nxl T hy
        have E : own_sep fP fR (k + 1) x y r = own_sep fP fR k x (own_nx fP y) (fR y) := by simp [own_sep, e, g, own_nx]
        rw [E]
        have q := own_mv T hy hx y0 (Ne.symm e) (by rw [own_gt] at g; omega) (v := own_sep fP fR k x (own_nx fP y) (fR y)) (by
          rcases ih x (own_nx fP y) (fR y) hx ly.1 (by omega) with ⟨h1, h2⟩ | ⟨c, h1, h2, h3, h4, h5⟩
          · exact Or.inl ⟨h1.symm, h2⟩
          · exact Or.inr ⟨c, h1, h2, own_Dsym h3, h4, fun c' g1 g2 g3 => h5 c' g1 g2 (own_Dsym g3)⟩)
        obtain ⟨c, h1, h2, h3, h4, h5⟩ := q
        exact ⟨c, h1, h2, own_Dsym h3, h4, fun c' g1 g2 g3 => h5 c' g1 g2 (own_Dsym g3)⟩
      · have x0 := own_x0 T hy e g
        have lx := own_nxl T hx
        have E : own_sep fP fR (k + 1) x y r = own_sep fP fR k (own_nx fP x) y (fR x) := by simp [own_sep, e, g, own_nx]
        rw [E]
        exact own_mv T hx hy x0 e (by rw [own_gt] at g; omega) (ih (own_nx fP x) y (fR x) lx.1 hy (by omega))
theorem own_ancV (T : own_tree 5 fP fR) {c x : Nat} (hx : x < 5) (hc : c ≤ 4) : (own_Anc fP c x → own_anc fP (Int32.ofNat c) x = 1) ∧ (¬ own_Anc fP c x → own_anc fP (Int32.ofNat c) x = 0) := by
  have a1 := own_nxl T hx
  have a2 := own_nxl T a1.1
  have a3 := own_nxl T a2.1
  have e1 : Int32.ofNat (own_nx fP x) = fP x := own_back (T.2.2.1 x hx)
  have e2 : Int32.ofNat (own_nx fP (own_nx fP x)) = fP (own_nx fP x) := own_back (T.2.2.1 _ a1.1)
  have e3 : Int32.ofNat (own_nx fP (own_nx fP (own_nx fP x))) = fP (own_nx fP (own_nx fP x)) := own_back (T.2.2.1 _ a2.1)
  constructor
  · intro h
    refine if_pos ?_
    rcases h with h | h | h | h
    · left; rw [h]
    · right; left; rw [h]; exact e1
    · right; right; left; rw [h]; exact e2
    · right; right; right; rw [h]; exact e3
  · intro h
    refine if_neg fun q => h ?_
    rcases q with q | q | q | q
    · left; exact own_inj (by omega) (by omega) q
    · right; left; exact own_inj (by omega) (by omega) (q.trans e1.symm)
    · right; right; left; exact own_inj (by omega) (by omega) (q.trans e2.symm)
    · right; right; right; exact own_inj (by omega) (by omega) (q.trans e3.symm)
theorem own_conD (T : own_tree 5 fP fR) {c x y : Nat} {best : Int32} (hx : x < 5) (hy : y < 5) (hc : c ≤ 4) : (own_D fP c x y → own_con fP fR best (Int32.ofNat c) c x y = if best = 0 then fR c else own_min best (fR c)) ∧ (¬ own_D fP c x y → own_con fP fR best (Int32.ofNat c) c x y = best) := by
  have v1 := own_ancV T hx hc
  have v2 := own_ancV T hy hc
  constructor
  · intro h
    refine if_neg fun q => h ?_
    by_cases u : own_Anc fP c x <;> by_cases w : own_Anc fP c y
    · exact ⟨fun _ => w, fun _ => u⟩
    · rw [v1.1 u, v2.2 w] at q; exact absurd q (by decide)
    · rw [v1.2 u, v2.1 w] at q; exact absurd q (by decide)
    · exact ⟨fun h => absurd h u, fun h => absurd h w⟩
  · intro h
    refine if_pos ?_
    by_cases u : own_Anc fP c x <;> by_cases w : own_Anc fP c y
    · rw [v1.1 u, v2.1 w]
    · exact absurd (fun q : own_Anc fP c x ↔ own_Anc fP c y => w (q.mp u)) h
    · exact absurd (fun q : own_Anc fP c x ↔ own_Anc fP c y => u (q.mpr w)) h
    · rw [v1.2 u, v2.2 w]
theorem own_bstS (T : own_tree 5 fP fR) {m x y : Nat} {best : Int32} (hx : x < 5) (hy : y < 5) (hm : m + 1 ≤ 4) (B : own_Bst fP fR m x y best) : own_Bst fP fR (m + 1) x y (own_con fP fR best (Int32.ofNat (m + 1)) (m + 1) x y) := by
  have cd := own_conD (best := best) T hx hy hm
  by_cases d : own_D fP (m + 1) x y
  · rw [cd.1 d]
    rcases B with ⟨rfl, h⟩ | ⟨c, h1, h2, h3, rfl, h5⟩
    · rw [if_pos rfl]
      refine Or.inr ⟨m + 1, by omega, Nat.le_refl _, d, rfl, fun c' g1 g2 g3 => ?_⟩
      by_cases u : c' = m + 1
      · subst u; exact Int.le_refl _
      · exact absurd g3 (h c' g1 (by omega))
    · have pc := (T.2.2.2 c (by omega) (by omega)).2.2
      rw [if_neg (fun e => by rw [e, own_z] at pc; omega)]
      unfold own_min
      by_cases u : fR (m + 1) < fR c
      · rw [if_pos u]; rw [own_gt] at u
        refine Or.inr ⟨m + 1, by omega, Nat.le_refl _, d, rfl, fun c' g1 g2 g3 => ?_⟩
        by_cases w : c' = m + 1
        · subst w; exact Int.le_refl _
        · have := h5 c' g1 (by omega) g3; omega
      · rw [if_neg u]; rw [own_gt] at u
        refine Or.inr ⟨c, h1, by omega, h3, rfl, fun c' g1 g2 g3 => ?_⟩
        by_cases w : c' = m + 1
        · subst w; omega
        · exact h5 c' g1 (by omega) g3
  · rw [cd.2 d]
    rcases B with ⟨rfl, h⟩ | ⟨c, h1, h2, h3, h4, h5⟩
    · refine Or.inl ⟨rfl, fun c g1 g2 => ?_⟩
      by_cases u : c = m + 1
      · subst u; exact d
      · exact h c g1 (by omega)
    · refine Or.inr ⟨c, h1, by omega, h3, h4, fun c' g1 g2 g3 => ?_⟩
      by_cases u : c' = m + 1
      · subst u; exact absurd g3 d
      · exact h5 c' g1 (by omega) g3
theorem own_bstU {m x y : Nat} {v w : Int32} (A : own_Bst fP fR m x y v) (B : own_Bst fP fR m x y w) : v = w := by
  rcases A with ⟨rfl, h⟩ | ⟨c, h1, h2, h3, rfl, h5⟩ <;> rcases B with ⟨rfl, g⟩ | ⟨d, g1, g2, g3, rfl, g5⟩
  · rfl
  · exact absurd g3 (h d g1 g2)
  · exact absurd h3 (g c h1 h2)
  · have := h5 d g1 g2 g3; have := g5 c h1 h2 h3
    exact Int32.toInt_inj.mp (by omega)
theorem own_fin (T : own_tree 5 fP fR) {x y : Nat} (hx : x < 5) (hy : y < 5) : own_sep fP fR 9 x y 0 = own_con fP fR (own_con fP fR (own_con fP fR (own_con fP fR 0 1 1 x y) 2 2 x y) 3 3 x y) 4 4 x y := by
  have B0 : own_Bst fP fR 0 x y 0 := Or.inl ⟨rfl, fun c h1 h2 => by omega⟩
  have B4 := own_bstS T hx hy (by decide) (own_bstS T hx hy (by decide) (own_bstS T hx hy (by decide) (own_bstS T hx hy (by decide) B0)))
  refine own_bstU (m := 4) ?_ B4
  rcases own_spec T 9 x y 0 hx hy (by omega) with ⟨h1, h2⟩ | h
  · refine Or.inl ⟨h2, fun c _ _ h => h ?_⟩
    rw [h1]
  · exact Or.inr h
end Plain
theorem own_d_jdk_29_method_69_0 : decode jdk_29_method_69_code 0 = .ok (.iload_n 0, 1) := by decide +kernel
theorem own_d_jdk_29_method_69_1 : decode jdk_29_method_69_code 1 = .ok (.iload_n 1, 1) := by decide +kernel
theorem own_d_jdk_29_method_69_2 : decode jdk_29_method_69_code 2 = .ok (.if_icmp .gt 7, 3) := by decide +kernel
theorem own_d_jdk_29_method_69_5 : decode jdk_29_method_69_code 5 = .ok (.iload_n 0, 1) := by decide +kernel
theorem own_d_jdk_29_method_69_6 : decode jdk_29_method_69_code 6 = .ok (.goto 4, 3) := by decide +kernel
theorem own_d_jdk_29_method_69_9 : decode jdk_29_method_69_code 9 = .ok (.iload_n 1, 1) := by decide +kernel
theorem own_d_jdk_29_method_69_10 : decode jdk_29_method_69_code 10 = .ok (.ireturn, 1) := by decide +kernel
theorem own_ef_min (m : MethodId) (p1 : Int32) (p2 : Int32) : entryFrame m #[(.int p1), (.int p2)] 2 = mkF m 0 #[.val (.int p1), .val (.int p2)] [] := by first | (simp [entryFrame, mkF, argsToLocals, Value.category]; done) | rfl
def own_Q_min (Z : State) (p1 : Int32) (p2 : Int32) (h0 : Heap) (n0 : Nat) (v : Option Value) (h : Heap) (L : List Loc) : Prop := v = some (.int (own_min p1 p2)) ∧ Fr n0 L ∧ h = h0
set_option maxRecDepth 65536 in
set_option maxHeartbeats 40000000 in
theorem own_rm_min (l : Launch) (Z : State) (a0 : Array Value) (hw : ∀ d ∈ tables_1, d.before a0 Z = true) (ws : List Jvm.Cond) (p1 : Int32) (p2 : Int32) (h0 : Heap) (n0 : Nat) (Z0 : n0 ≤ h0.size) :
    MetFree l (⟨"java/lang/Math", "min", "(II)I"⟩ : MethodName) (head1 (Jvm.Cond.code (⟨"java/lang/Math", "min", "(II)I"⟩ : MethodName) jdk_29_method_69_code 2 (some .int) :: ws) ({ frames := 0, cells := 0, slots := 0, locals := 0 } : Room)) (fun a U => a = #[(.int p1), (.int p2)] ∧ Z.Warmed39 U.vm ∧ U.heap = h0) (fun _ _ _ _ _ => True) (fun _ U o U' => ∃ v L, o = .returned v ∧ own_Q_min Z p1 p2 h0 n0 v U'.heap L ∧ FrameEnd U o U' L ({ frames := 0, cells := 0, slots := 0, locals := 0 } : Room).cells ({ frames := 0, cells := 0, slots := 0, locals := 0 } : Room).slots) := by
  refine MetFree.of_bodySF (Jvm.Free.JP.mathPlain rfl (by decide +kernel)) hisR ?_
  intro p e s m args below meth c s₁ Bd hml0 hP hK
  obtain ⟨rfl, hZ, hh⟩ := hP
  have hx := Bd.exec
  have hby := Bd.bytes
  have hml : c.maxLocals = 2 := hml0
  have hown : s.vm.findClass "java/lang/Math" = some m.cls := findClass_of_methodNamed Bd.named
  have hnm := (name_of_methodNamed Bd.named Bd.method).1
  have X0 : Stand p l e ({ frames := 0, cells := 0, slots := 0, locals := 0 } : Room) s m #[(.int p1), (.int p2)] below meth c s₁ [] 0 0 := Stand.of_body Bd
  have e0 : s₁.heap = h0 := by rw [← hh, Bd.state]; rfl
  have N0 := Fr.nil n0
  have K0 : Keep h0 h0 [] := Keep.refl _ _
  have pre0 : ∀ t, Steps p.tables e below (s₁.setTop (mkF m 0 #[.val (.int p1), .val (.int p2)] [])) t → Steps p.tables e below (s₁.setTop (entryFrame m #[(.int p1), (.int p2)] 2)) t := fun t k => castTop (own_ef_min m p1 p2) k
  have pre1 : ∀ t, Steps p.tables e below (s₁.setTop (mkF m 2 #[.val (.int p1), .val (.int p2)] [(.int p2), (.int p1)])) t → Steps p.tables e below (s₁.setTop (entryFrame m #[(.int p1), (.int p2)] 2)) t := by
    intro t kt
    refine pre0 t ?_
    show Steps p.tables e below (s₁.setTop (mkF m 0 #[.val (.int p1), .val (.int p2)] [])) _
    refine XS.iloadN X0.here hx rfl (hb hby own_d_jdk_29_method_69_0) rfl ?_
    show Steps p.tables e below (s₁.setTop (mkF m 1 #[.val (.int p1), .val (.int p2)] [(.int p1)])) _
    refine XS.iloadN X0.here hx rfl (hb hby own_d_jdk_29_method_69_1) rfl ?_
    exact kt
  by_cases hc2 : p2 < p1
  · have pre3 : ∀ t, Steps p.tables e below (s₁.setTop (mkF m 10 #[.val (.int p1), .val (.int p2)] [(.int p2)])) t → Steps p.tables e below (s₁.setTop (entryFrame m #[(.int p1), (.int p2)] 2)) t := by
      intro t kt
      refine pre1 t ?_
      show Steps p.tables e below (s₁.setTop (mkF m 2 #[.val (.int p1), .val (.int p2)] [(.int p2), (.int p1)])) _
      refine XS.icmpYes X0.here hx rfl (pc0 := 2) (pc' := 9) rfl (hb hby own_d_jdk_29_method_69_2) rfl (tlt hc2).2.2.1 (by decide) (by decide) ?_
      show Steps p.tables e below (s₁.setTop (mkF m 9 #[.val (.int p1), .val (.int p2)] [])) _
      refine XS.iloadN X0.here hx rfl (hb hby own_d_jdk_29_method_69_9) rfl ?_
      exact kt
    obtain ⟨fs, hr, hrun, hended, hW, hsame⟩ := X0.leave (v := some (.int p2)) (fun h => by rw [Bd.returns] at h; cases h)
    refine ⟨_, _, pre3 _ ?_, hrun, hended, _, _, rfl, ?_, ⟨_, rfl⟩, hW, hsame.mono (by decide) (by decide)⟩
    · show Steps p.tables e below (s₁.setTop (mkF m 10 #[.val (.int p1), .val (.int p2)] [(.int p2)])) _
      exact retI X0 hx Bd.returns (hb hby own_d_jdk_29_method_69_10) hr
    · show own_Q_min Z p1 p2 h0 n0 (some (.int p2)) s₁.heap _
      rw [e0]
      exact ⟨by simp [own_min, hc2], N0, rfl⟩
  · have pre4 : ∀ t, Steps p.tables e below (s₁.setTop (mkF m 10 #[.val (.int p1), .val (.int p2)] [(.int p1)])) t → Steps p.tables e below (s₁.setTop (entryFrame m #[(.int p1), (.int p2)] 2)) t := by
      intro t kt
      refine pre1 t ?_
      show Steps p.tables e below (s₁.setTop (mkF m 2 #[.val (.int p1), .val (.int p2)] [(.int p2), (.int p1)])) _
      refine XS.icmpNo X0.here hx rfl (hb hby own_d_jdk_29_method_69_2) rfl (flt hc2).2.2.1 ?_
      show Steps p.tables e below (s₁.setTop (mkF m 5 #[.val (.int p1), .val (.int p2)] [])) _
      refine XS.iloadN X0.here hx rfl (hb hby own_d_jdk_29_method_69_5) rfl ?_
      show Steps p.tables e below (s₁.setTop (mkF m 6 #[.val (.int p1), .val (.int p2)] [(.int p1)])) _
      refine XS.goto X0.here hx rfl (pc0 := 6) (pc' := 10) rfl (hb hby own_d_jdk_29_method_69_6) (by decide) (by decide) ?_
      exact kt
    obtain ⟨fs, hr, hrun, hended, hW, hsame⟩ := X0.leave (v := some (.int p1)) (fun h => by rw [Bd.returns] at h; cases h)
    refine ⟨_, _, pre4 _ ?_, hrun, hended, _, _, rfl, ?_, ⟨_, rfl⟩, hW, hsame.mono (by decide) (by decide)⟩
    · show Steps p.tables e below (s₁.setTop (mkF m 10 #[.val (.int p1), .val (.int p2)] [(.int p1)])) _
      exact retI X0 hx Bd.returns (hb hby own_d_jdk_29_method_69_10) hr
    · show own_Q_min Z p1 p2 h0 n0 (some (.int p1)) s₁.heap _
      rw [e0]
      exact ⟨by simp [own_min, hc2], N0, rfl⟩
theorem own_d_method_3_0 : decode method_3_code 0 = .ok (.aload_n 2, 1) := by decide +kernel
theorem own_d_method_3_1 : decode method_3_code 1 = .ok (.iload_n 1, 1) := by decide +kernel
theorem own_d_method_3_2 : decode method_3_code 2 = .ok (.iaload, 1) := by decide +kernel
theorem own_d_method_3_3 : decode method_3_code 3 = .ok (.istore_n 3, 1) := by decide +kernel
theorem own_d_method_3_4 : decode method_3_code 4 = .ok (.aload_n 2, 1) := by decide +kernel
theorem own_d_method_3_5 : decode method_3_code 5 = .ok (.iload_n 3, 1) := by decide +kernel
theorem own_d_method_3_6 : decode method_3_code 6 = .ok (.iaload, 1) := by decide +kernel
theorem own_d_method_3_7 : decode method_3_code 7 = .ok (.istore 4, 2) := by decide +kernel
theorem own_d_method_3_9 : decode method_3_code 9 = .ok (.aload_n 2, 1) := by decide +kernel
theorem own_d_method_3_10 : decode method_3_code 10 = .ok (.iload 4, 2) := by decide +kernel
theorem own_d_method_3_12 : decode method_3_code 12 = .ok (.iaload, 1) := by decide +kernel
theorem own_d_method_3_13 : decode method_3_code 13 = .ok (.istore 5, 2) := by decide +kernel
theorem own_d_method_3_15 : decode method_3_code 15 = .ok (.iload_n 0, 1) := by decide +kernel
theorem own_d_method_3_16 : decode method_3_code 16 = .ok (.iload_n 1, 1) := by decide +kernel
theorem own_d_method_3_17 : decode method_3_code 17 = .ok (.if_icmp .eq 20, 3) := by decide +kernel
theorem own_d_method_3_20 : decode method_3_code 20 = .ok (.iload_n 0, 1) := by decide +kernel
theorem own_d_method_3_21 : decode method_3_code 21 = .ok (.iload_n 3, 1) := by decide +kernel
theorem own_d_method_3_22 : decode method_3_code 22 = .ok (.if_icmp .eq 15, 3) := by decide +kernel
theorem own_d_method_3_25 : decode method_3_code 25 = .ok (.iload_n 0, 1) := by decide +kernel
theorem own_d_method_3_26 : decode method_3_code 26 = .ok (.iload 4, 2) := by decide +kernel
theorem own_d_method_3_28 : decode method_3_code 28 = .ok (.if_icmp .eq 9, 3) := by decide +kernel
theorem own_d_method_3_31 : decode method_3_code 31 = .ok (.iload_n 0, 1) := by decide +kernel
theorem own_d_method_3_32 : decode method_3_code 32 = .ok (.iload 5, 2) := by decide +kernel
theorem own_d_method_3_34 : decode method_3_code 34 = .ok (.if_icmp .ne 7, 3) := by decide +kernel
theorem own_d_method_3_37 : decode method_3_code 37 = .ok (.iconst 1, 1) := by decide +kernel
theorem own_d_method_3_38 : decode method_3_code 38 = .ok (.goto 4, 3) := by decide +kernel
theorem own_d_method_3_41 : decode method_3_code 41 = .ok (.iconst 0, 1) := by decide +kernel
theorem own_d_method_3_42 : decode method_3_code 42 = .ok (.ireturn, 1) := by decide +kernel
theorem own_pn1 : plainName "com/example/unfold/unfold/reduction/SplittingSeparationPinLaw" = true := by first | (simp [plainName, overriddenIn]; done) | decide +kernel
theorem own_ef_anc (m : MethodId) (p0 : Int32) (p1 : Int32) (a2 : Addr) : entryFrame m #[(.int p0), (.int p1), (.ref a2)] 6 = mkF m 0 #[.val (.int p0), .val (.int p1), .val (.ref a2), .unset, .unset, .unset] [] := by first | (simp [entryFrame, mkF, argsToLocals, Value.category]; done) | rfl
def own_Q_anc (Z : State) (p0 : Int32) (p1 : Int32) (a2 : Addr) (s_ : Nat) (fP : Nat → Int32) (fR : Nat → Int32) (h0 : Heap) (n0 : Nat) (v : Option Value) (h : Heap) (L : List Loc) : Prop := v = some (.int (own_anc fP p0 s_)) ∧ Fr n0 L ∧ h = h0
set_option maxRecDepth 65536 in
set_option maxHeartbeats 40000000 in
theorem own_rm_anc (l : Launch) (Z : State) (a0 : Array Value) (hw : ∀ d ∈ tables_1, d.before a0 Z = true) (ws : List Jvm.Cond) (p0 : Int32) (p1 : Int32) (a2 : Addr) (s_ : Nat) (fP : Nat → Int32) (fR : Nat → Int32) (h0 : Heap) (n0 : Nat) (Z0 : n0 ≤ h0.size) (AP : own_A Z h0 a2 5 fP) (hs : p1 = Int32.ofNat s_) (hs4 : s_ < 5) (hT : own_tree 5 fP fR) :
    MetFree l (⟨"com/example/unfold/unfold/reduction/SplittingSeparationPinLaw", "isAnc", "(II[I)Z"⟩ : MethodName) (head1 (Jvm.Cond.code (⟨"com/example/unfold/unfold/reduction/SplittingSeparationPinLaw", "isAnc", "(II[I)Z"⟩ : MethodName) method_3_code 6 (some .boolean) :: ws) ({ frames := 0, cells := 0, slots := 0, locals := 0 } : Room)) (fun a U => a = #[(.int p0), (.int p1), (.ref a2)] ∧ Z.Warmed39 U.vm ∧ U.heap = h0) (fun _ _ _ _ _ => True) (fun _ U o U' => ∃ v L, o = .returned v ∧ own_Q_anc Z p0 p1 a2 s_ fP fR h0 n0 v U'.heap L ∧ FrameEnd U o U' L ({ frames := 0, cells := 0, slots := 0, locals := 0 } : Room).cells ({ frames := 0, cells := 0, slots := 0, locals := 0 } : Room).slots) := by
  refine MetFree.of_bodySF (plainFor_of_name own_pn1) hisR ?_
  intro p e s m args below meth c s₁ Bd hml0 hP hK
  obtain ⟨rfl, hZ, hh⟩ := hP
  have hx := Bd.exec
  have hby := Bd.bytes
  have hml : c.maxLocals = 6 := hml0
  have hown : s.vm.findClass "com/example/unfold/unfold/reduction/SplittingSeparationPinLaw" = some m.cls := findClass_of_methodNamed Bd.named
  have hnm := (name_of_methodNamed Bd.named Bd.method).1
  have X0 : Stand p l e ({ frames := 0, cells := 0, slots := 0, locals := 0 } : Room) s m #[(.int p0), (.int p1), (.ref a2)] below meth c s₁ [] 0 0 := Stand.of_body Bd
  have e0 : s₁.heap = h0 := by rw [← hh, Bd.state]; rfl
  have N0 := Fr.nil n0
  have K0 : Keep h0 h0 [] := Keep.refl _ _
  have pre0 : ∀ t, Steps p.tables e below (s₁.setTop (mkF m 0 #[.val (.int p0), .val (.int p1), .val (.ref a2), .unset, .unset, .unset] [])) t → Steps p.tables e below (s₁.setTop (entryFrame m #[(.int p0), (.int p1), (.ref a2)] 6)) t := fun t k => castTop (own_ef_anc m p0 p1 a2) k
  obtain ⟨cl1, Ar1, S1, H1⟩ := id AP
  have hin1 : ¬ (p1 < 0 ∨ cl1.slots.size ≤ (p1).toNatClampNeg) := own_inb S1 (by rw [hs]; exact own_of0 (by omega)) (by rw [hs, own_ofN (by omega)]; exact hs4)
  have hat1 : cl1.slots[(p1).toNatClampNeg]? = some (.int (fP s_)) := (by rw [hs, own_ofN (by omega)]; exact H1 s_ hs4)
  obtain ⟨cl2, Ar2, S2, H2⟩ := id AP
  have hin2 : ¬ ((fP s_) < 0 ∨ cl2.slots.size ≤ ((fP s_)).toNatClampNeg) := own_inb S2 (hT.2.2.1 _ hs4) (hT.lt (by decide) hs4)
  have hat2 : cl2.slots[((fP s_)).toNatClampNeg]? = some (.int (fP (fP s_).toNatClampNeg)) := H2 _ (hT.lt (by decide) hs4)
  obtain ⟨cl3, Ar3, S3, H3⟩ := id AP
  have hin3 : ¬ ((fP (fP s_).toNatClampNeg) < 0 ∨ cl3.slots.size ≤ ((fP (fP s_).toNatClampNeg)).toNatClampNeg) := own_inb S3 (hT.2.2.1 _ (hT.lt (by decide) hs4)) (hT.lt (by decide) (hT.lt (by decide) hs4))
  have hat3 : cl3.slots[((fP (fP s_).toNatClampNeg)).toNatClampNeg]? = some (.int (fP (fP (fP s_).toNatClampNeg).toNatClampNeg)) := H3 _ (hT.lt (by decide) (hT.lt (by decide) hs4))
  have pre4 : ∀ t, Steps p.tables e below (s₁.setTop (mkF m 15 #[.val (.int p0), .val (.int p1), .val (.ref a2), .val (.int (fP s_)), .val (.int (fP (fP s_).toNatClampNeg)), .val (.int (fP (fP (fP s_).toNatClampNeg).toNatClampNeg))] [])) t → Steps p.tables e below (s₁.setTop (entryFrame m #[(.int p0), (.int p1), (.ref a2)] 6)) t := by
    intro t kt
    refine pre0 t ?_
    show Steps p.tables e below (s₁.setTop (mkF m 0 #[.val (.int p0), .val (.int p1), .val (.ref a2), .unset, .unset, .unset] [])) _
    refine XS.aloadN X0.here hx rfl (hb hby own_d_method_3_0) rfl rfl ?_
    show Steps p.tables e below (s₁.setTop (mkF m 1 #[.val (.int p0), .val (.int p1), .val (.ref a2), .unset, .unset, .unset] [(.ref a2)])) _
    refine XS.iloadN X0.here hx rfl (hb hby own_d_method_3_1) rfl ?_
    show Steps p.tables e below (s₁.setTop (mkF m 2 #[.val (.int p0), .val (.int p1), .val (.ref a2), .unset, .unset, .unset] [(.int p1), (.ref a2)])) _
    refine X0.iaload hx (j := p1) (v := (.int (fP s_))) (by rw [e0]; exact Ar1.1) (State.isArrayOf_alike hZ.alike Ar1.2.1) Ar1.2.2 hin1 hat1 (g := (mkF m 2 #[.val (.int p0), .val (.int p1), .val (.ref a2), .unset, .unset, .unset] [(.int p1), (.ref a2)])) rfl rfl (hb hby own_d_method_3_2) _ ?_
    show Steps p.tables e below (s₁.setTop (mkF m 3 #[.val (.int p0), .val (.int p1), .val (.ref a2), .unset, .unset, .unset] [(.int (fP s_))])) _
    refine XS.istoreN X0.here hx rfl (hb hby own_d_method_3_3) rfl (l' := #[.val (.int p0), .val (.int p1), .val (.ref a2), .val (.int (fP s_)), .unset, .unset]) rfl ?_
    show Steps p.tables e below (s₁.setTop (mkF m 4 #[.val (.int p0), .val (.int p1), .val (.ref a2), .val (.int (fP s_)), .unset, .unset] [])) _
    refine XS.aloadN X0.here hx rfl (hb hby own_d_method_3_4) rfl rfl ?_
    show Steps p.tables e below (s₁.setTop (mkF m 5 #[.val (.int p0), .val (.int p1), .val (.ref a2), .val (.int (fP s_)), .unset, .unset] [(.ref a2)])) _
    refine XS.iloadN X0.here hx rfl (hb hby own_d_method_3_5) rfl ?_
    show Steps p.tables e below (s₁.setTop (mkF m 6 #[.val (.int p0), .val (.int p1), .val (.ref a2), .val (.int (fP s_)), .unset, .unset] [(.int (fP s_)), (.ref a2)])) _
    refine X0.iaload hx (j := (fP s_)) (v := (.int (fP (fP s_).toNatClampNeg))) (by rw [e0]; exact Ar2.1) (State.isArrayOf_alike hZ.alike Ar2.2.1) Ar2.2.2 hin2 hat2 (g := (mkF m 6 #[.val (.int p0), .val (.int p1), .val (.ref a2), .val (.int (fP s_)), .unset, .unset] [(.int (fP s_)), (.ref a2)])) rfl rfl (hb hby own_d_method_3_6) _ ?_
    show Steps p.tables e below (s₁.setTop (mkF m 7 #[.val (.int p0), .val (.int p1), .val (.ref a2), .val (.int (fP s_)), .unset, .unset] [(.int (fP (fP s_).toNatClampNeg))])) _
    refine XS.istore X0.here hx rfl (hb hby own_d_method_3_7) rfl (l' := #[.val (.int p0), .val (.int p1), .val (.ref a2), .val (.int (fP s_)), .val (.int (fP (fP s_).toNatClampNeg)), .unset]) rfl ?_
    show Steps p.tables e below (s₁.setTop (mkF m 9 #[.val (.int p0), .val (.int p1), .val (.ref a2), .val (.int (fP s_)), .val (.int (fP (fP s_).toNatClampNeg)), .unset] [])) _
    refine XS.aloadN X0.here hx rfl (hb hby own_d_method_3_9) rfl rfl ?_
    show Steps p.tables e below (s₁.setTop (mkF m 10 #[.val (.int p0), .val (.int p1), .val (.ref a2), .val (.int (fP s_)), .val (.int (fP (fP s_).toNatClampNeg)), .unset] [(.ref a2)])) _
    refine XS.iload X0.here hx rfl (hb hby own_d_method_3_10) rfl ?_
    show Steps p.tables e below (s₁.setTop (mkF m 12 #[.val (.int p0), .val (.int p1), .val (.ref a2), .val (.int (fP s_)), .val (.int (fP (fP s_).toNatClampNeg)), .unset] [(.int (fP (fP s_).toNatClampNeg)), (.ref a2)])) _
    refine X0.iaload hx (j := (fP (fP s_).toNatClampNeg)) (v := (.int (fP (fP (fP s_).toNatClampNeg).toNatClampNeg))) (by rw [e0]; exact Ar3.1) (State.isArrayOf_alike hZ.alike Ar3.2.1) Ar3.2.2 hin3 hat3 (g := (mkF m 12 #[.val (.int p0), .val (.int p1), .val (.ref a2), .val (.int (fP s_)), .val (.int (fP (fP s_).toNatClampNeg)), .unset] [(.int (fP (fP s_).toNatClampNeg)), (.ref a2)])) rfl rfl (hb hby own_d_method_3_12) _ ?_
    show Steps p.tables e below (s₁.setTop (mkF m 13 #[.val (.int p0), .val (.int p1), .val (.ref a2), .val (.int (fP s_)), .val (.int (fP (fP s_).toNatClampNeg)), .unset] [(.int (fP (fP (fP s_).toNatClampNeg).toNatClampNeg))])) _
    refine XS.istore X0.here hx rfl (hb hby own_d_method_3_13) rfl (l' := #[.val (.int p0), .val (.int p1), .val (.ref a2), .val (.int (fP s_)), .val (.int (fP (fP s_).toNatClampNeg)), .val (.int (fP (fP (fP s_).toNatClampNeg).toNatClampNeg))]) rfl ?_
    exact kt
  have pre5 : ∀ t, Steps p.tables e below (s₁.setTop (mkF m 17 #[.val (.int p0), .val (.int p1), .val (.ref a2), .val (.int (fP s_)), .val (.int (fP (fP s_).toNatClampNeg)), .val (.int (fP (fP (fP s_).toNatClampNeg).toNatClampNeg))] [(.int p1), (.int p0)])) t → Steps p.tables e below (s₁.setTop (entryFrame m #[(.int p0), (.int p1), (.ref a2)] 6)) t := by
    intro t kt
    refine pre4 t ?_
    show Steps p.tables e below (s₁.setTop (mkF m 15 #[.val (.int p0), .val (.int p1), .val (.ref a2), .val (.int (fP s_)), .val (.int (fP (fP s_).toNatClampNeg)), .val (.int (fP (fP (fP s_).toNatClampNeg).toNatClampNeg))] [])) _
    refine XS.iloadN X0.here hx rfl (hb hby own_d_method_3_15) rfl ?_
    show Steps p.tables e below (s₁.setTop (mkF m 16 #[.val (.int p0), .val (.int p1), .val (.ref a2), .val (.int (fP s_)), .val (.int (fP (fP s_).toNatClampNeg)), .val (.int (fP (fP (fP s_).toNatClampNeg).toNatClampNeg))] [(.int p0)])) _
    refine XS.iloadN X0.here hx rfl (hb hby own_d_method_3_16) rfl ?_
    exact kt
  by_cases hc6 : p0 = p1
  · have pre7 : ∀ t, Steps p.tables e below (s₁.setTop (mkF m 42 #[.val (.int p0), .val (.int p1), .val (.ref a2), .val (.int (fP s_)), .val (.int (fP (fP s_).toNatClampNeg)), .val (.int (fP (fP (fP s_).toNatClampNeg).toNatClampNeg))] [(.int (1 : Int32))])) t → Steps p.tables e below (s₁.setTop (entryFrame m #[(.int p0), (.int p1), (.ref a2)] 6)) t := by
      intro t kt
      refine pre5 t ?_
      show Steps p.tables e below (s₁.setTop (mkF m 17 #[.val (.int p0), .val (.int p1), .val (.ref a2), .val (.int (fP s_)), .val (.int (fP (fP s_).toNatClampNeg)), .val (.int (fP (fP (fP s_).toNatClampNeg).toNatClampNeg))] [(.int p1), (.int p0)])) _
      refine XS.icmpYes X0.here hx rfl (pc0 := 17) (pc' := 37) rfl (hb hby own_d_method_3_17) rfl (teq hc6).1 (by decide) (by decide) ?_
      show Steps p.tables e below (s₁.setTop (mkF m 37 #[.val (.int p0), .val (.int p1), .val (.ref a2), .val (.int (fP s_)), .val (.int (fP (fP s_).toNatClampNeg)), .val (.int (fP (fP (fP s_).toNatClampNeg).toNatClampNeg))] [])) _
      refine XS.iconst X0.here hx rfl (hb hby own_d_method_3_37) ?_
      show Steps p.tables e below (s₁.setTop (mkF m 38 #[.val (.int p0), .val (.int p1), .val (.ref a2), .val (.int (fP s_)), .val (.int (fP (fP s_).toNatClampNeg)), .val (.int (fP (fP (fP s_).toNatClampNeg).toNatClampNeg))] [(.int (1 : Int32))])) _
      refine XS.goto X0.here hx rfl (pc0 := 38) (pc' := 42) rfl (hb hby own_d_method_3_38) (by decide) (by decide) ?_
      exact kt
    obtain ⟨fs, hr, hrun, hended, hW, hsame⟩ := X0.leave (v := some (.int (1 : Int32))) (fun h => by rw [Bd.returns] at h; cases h)
    refine ⟨_, _, pre7 _ ?_, hrun, hended, _, _, rfl, ?_, ⟨_, rfl⟩, hW, hsame.mono (by decide) (by decide)⟩
    · show Steps p.tables e below (s₁.setTop (mkF m 42 #[.val (.int p0), .val (.int p1), .val (.ref a2), .val (.int (fP s_)), .val (.int (fP (fP s_).toNatClampNeg)), .val (.int (fP (fP (fP s_).toNatClampNeg).toNatClampNeg))] [(.int (1 : Int32))])) _
      exact retN X0 hx (t := .boolean) Bd.returns (by simp) (hb hby own_d_method_3_42) hr
    · show own_Q_anc Z p0 p1 a2 s_ fP fR h0 n0 (some (.int (1 : Int32))) s₁.heap _
      rw [e0]
      exact ⟨by simp [own_anc, ← hs, hc6], N0, rfl⟩
  · have pre8 : ∀ t, Steps p.tables e below (s₁.setTop (mkF m 22 #[.val (.int p0), .val (.int p1), .val (.ref a2), .val (.int (fP s_)), .val (.int (fP (fP s_).toNatClampNeg)), .val (.int (fP (fP (fP s_).toNatClampNeg).toNatClampNeg))] [(.int (fP s_)), (.int p0)])) t → Steps p.tables e below (s₁.setTop (entryFrame m #[(.int p0), (.int p1), (.ref a2)] 6)) t := by
      intro t kt
      refine pre5 t ?_
      show Steps p.tables e below (s₁.setTop (mkF m 17 #[.val (.int p0), .val (.int p1), .val (.ref a2), .val (.int (fP s_)), .val (.int (fP (fP s_).toNatClampNeg)), .val (.int (fP (fP (fP s_).toNatClampNeg).toNatClampNeg))] [(.int p1), (.int p0)])) _
      refine XS.icmpNo X0.here hx rfl (hb hby own_d_method_3_17) rfl (feq hc6).1 ?_
      show Steps p.tables e below (s₁.setTop (mkF m 20 #[.val (.int p0), .val (.int p1), .val (.ref a2), .val (.int (fP s_)), .val (.int (fP (fP s_).toNatClampNeg)), .val (.int (fP (fP (fP s_).toNatClampNeg).toNatClampNeg))] [])) _
      refine XS.iloadN X0.here hx rfl (hb hby own_d_method_3_20) rfl ?_
      show Steps p.tables e below (s₁.setTop (mkF m 21 #[.val (.int p0), .val (.int p1), .val (.ref a2), .val (.int (fP s_)), .val (.int (fP (fP s_).toNatClampNeg)), .val (.int (fP (fP (fP s_).toNatClampNeg).toNatClampNeg))] [(.int p0)])) _
      refine XS.iloadN X0.here hx rfl (hb hby own_d_method_3_21) rfl ?_
      exact kt
    by_cases hc9 : p0 = (fP s_)
    · have pre10 : ∀ t, Steps p.tables e below (s₁.setTop (mkF m 42 #[.val (.int p0), .val (.int p1), .val (.ref a2), .val (.int (fP s_)), .val (.int (fP (fP s_).toNatClampNeg)), .val (.int (fP (fP (fP s_).toNatClampNeg).toNatClampNeg))] [(.int (1 : Int32))])) t → Steps p.tables e below (s₁.setTop (entryFrame m #[(.int p0), (.int p1), (.ref a2)] 6)) t := by
        intro t kt
        refine pre8 t ?_
        show Steps p.tables e below (s₁.setTop (mkF m 22 #[.val (.int p0), .val (.int p1), .val (.ref a2), .val (.int (fP s_)), .val (.int (fP (fP s_).toNatClampNeg)), .val (.int (fP (fP (fP s_).toNatClampNeg).toNatClampNeg))] [(.int (fP s_)), (.int p0)])) _
        refine XS.icmpYes X0.here hx rfl (pc0 := 22) (pc' := 37) rfl (hb hby own_d_method_3_22) rfl (teq hc9).1 (by decide) (by decide) ?_
        show Steps p.tables e below (s₁.setTop (mkF m 37 #[.val (.int p0), .val (.int p1), .val (.ref a2), .val (.int (fP s_)), .val (.int (fP (fP s_).toNatClampNeg)), .val (.int (fP (fP (fP s_).toNatClampNeg).toNatClampNeg))] [])) _
        refine XS.iconst X0.here hx rfl (hb hby own_d_method_3_37) ?_
        show Steps p.tables e below (s₁.setTop (mkF m 38 #[.val (.int p0), .val (.int p1), .val (.ref a2), .val (.int (fP s_)), .val (.int (fP (fP s_).toNatClampNeg)), .val (.int (fP (fP (fP s_).toNatClampNeg).toNatClampNeg))] [(.int (1 : Int32))])) _
        refine XS.goto X0.here hx rfl (pc0 := 38) (pc' := 42) rfl (hb hby own_d_method_3_38) (by decide) (by decide) ?_
        exact kt
      obtain ⟨fs, hr, hrun, hended, hW, hsame⟩ := X0.leave (v := some (.int (1 : Int32))) (fun h => by rw [Bd.returns] at h; cases h)
      refine ⟨_, _, pre10 _ ?_, hrun, hended, _, _, rfl, ?_, ⟨_, rfl⟩, hW, hsame.mono (by decide) (by decide)⟩
      · show Steps p.tables e below (s₁.setTop (mkF m 42 #[.val (.int p0), .val (.int p1), .val (.ref a2), .val (.int (fP s_)), .val (.int (fP (fP s_).toNatClampNeg)), .val (.int (fP (fP (fP s_).toNatClampNeg).toNatClampNeg))] [(.int (1 : Int32))])) _
        exact retN X0 hx (t := .boolean) Bd.returns (by simp) (hb hby own_d_method_3_42) hr
      · show own_Q_anc Z p0 p1 a2 s_ fP fR h0 n0 (some (.int (1 : Int32))) s₁.heap _
        rw [e0]
        exact ⟨by simp [own_anc, ← hs, hc6, hc9], N0, rfl⟩
    · have pre11 : ∀ t, Steps p.tables e below (s₁.setTop (mkF m 28 #[.val (.int p0), .val (.int p1), .val (.ref a2), .val (.int (fP s_)), .val (.int (fP (fP s_).toNatClampNeg)), .val (.int (fP (fP (fP s_).toNatClampNeg).toNatClampNeg))] [(.int (fP (fP s_).toNatClampNeg)), (.int p0)])) t → Steps p.tables e below (s₁.setTop (entryFrame m #[(.int p0), (.int p1), (.ref a2)] 6)) t := by
        intro t kt
        refine pre8 t ?_
        show Steps p.tables e below (s₁.setTop (mkF m 22 #[.val (.int p0), .val (.int p1), .val (.ref a2), .val (.int (fP s_)), .val (.int (fP (fP s_).toNatClampNeg)), .val (.int (fP (fP (fP s_).toNatClampNeg).toNatClampNeg))] [(.int (fP s_)), (.int p0)])) _
        refine XS.icmpNo X0.here hx rfl (hb hby own_d_method_3_22) rfl (feq hc9).1 ?_
        show Steps p.tables e below (s₁.setTop (mkF m 25 #[.val (.int p0), .val (.int p1), .val (.ref a2), .val (.int (fP s_)), .val (.int (fP (fP s_).toNatClampNeg)), .val (.int (fP (fP (fP s_).toNatClampNeg).toNatClampNeg))] [])) _
        refine XS.iloadN X0.here hx rfl (hb hby own_d_method_3_25) rfl ?_
        show Steps p.tables e below (s₁.setTop (mkF m 26 #[.val (.int p0), .val (.int p1), .val (.ref a2), .val (.int (fP s_)), .val (.int (fP (fP s_).toNatClampNeg)), .val (.int (fP (fP (fP s_).toNatClampNeg).toNatClampNeg))] [(.int p0)])) _
        refine XS.iload X0.here hx rfl (hb hby own_d_method_3_26) rfl ?_
        exact kt
      by_cases hc12 : p0 = (fP (fP s_).toNatClampNeg)
      · have pre13 : ∀ t, Steps p.tables e below (s₁.setTop (mkF m 42 #[.val (.int p0), .val (.int p1), .val (.ref a2), .val (.int (fP s_)), .val (.int (fP (fP s_).toNatClampNeg)), .val (.int (fP (fP (fP s_).toNatClampNeg).toNatClampNeg))] [(.int (1 : Int32))])) t → Steps p.tables e below (s₁.setTop (entryFrame m #[(.int p0), (.int p1), (.ref a2)] 6)) t := by
          intro t kt
          refine pre11 t ?_
          show Steps p.tables e below (s₁.setTop (mkF m 28 #[.val (.int p0), .val (.int p1), .val (.ref a2), .val (.int (fP s_)), .val (.int (fP (fP s_).toNatClampNeg)), .val (.int (fP (fP (fP s_).toNatClampNeg).toNatClampNeg))] [(.int (fP (fP s_).toNatClampNeg)), (.int p0)])) _
          refine XS.icmpYes X0.here hx rfl (pc0 := 28) (pc' := 37) rfl (hb hby own_d_method_3_28) rfl (teq hc12).1 (by decide) (by decide) ?_
          show Steps p.tables e below (s₁.setTop (mkF m 37 #[.val (.int p0), .val (.int p1), .val (.ref a2), .val (.int (fP s_)), .val (.int (fP (fP s_).toNatClampNeg)), .val (.int (fP (fP (fP s_).toNatClampNeg).toNatClampNeg))] [])) _
          refine XS.iconst X0.here hx rfl (hb hby own_d_method_3_37) ?_
          show Steps p.tables e below (s₁.setTop (mkF m 38 #[.val (.int p0), .val (.int p1), .val (.ref a2), .val (.int (fP s_)), .val (.int (fP (fP s_).toNatClampNeg)), .val (.int (fP (fP (fP s_).toNatClampNeg).toNatClampNeg))] [(.int (1 : Int32))])) _
          refine XS.goto X0.here hx rfl (pc0 := 38) (pc' := 42) rfl (hb hby own_d_method_3_38) (by decide) (by decide) ?_
          exact kt
        obtain ⟨fs, hr, hrun, hended, hW, hsame⟩ := X0.leave (v := some (.int (1 : Int32))) (fun h => by rw [Bd.returns] at h; cases h)
        refine ⟨_, _, pre13 _ ?_, hrun, hended, _, _, rfl, ?_, ⟨_, rfl⟩, hW, hsame.mono (by decide) (by decide)⟩
        · show Steps p.tables e below (s₁.setTop (mkF m 42 #[.val (.int p0), .val (.int p1), .val (.ref a2), .val (.int (fP s_)), .val (.int (fP (fP s_).toNatClampNeg)), .val (.int (fP (fP (fP s_).toNatClampNeg).toNatClampNeg))] [(.int (1 : Int32))])) _
          exact retN X0 hx (t := .boolean) Bd.returns (by simp) (hb hby own_d_method_3_42) hr
        · show own_Q_anc Z p0 p1 a2 s_ fP fR h0 n0 (some (.int (1 : Int32))) s₁.heap _
          rw [e0]
          exact ⟨by simp [own_anc, ← hs, hc6, hc9, hc12], N0, rfl⟩
      · have pre14 : ∀ t, Steps p.tables e below (s₁.setTop (mkF m 34 #[.val (.int p0), .val (.int p1), .val (.ref a2), .val (.int (fP s_)), .val (.int (fP (fP s_).toNatClampNeg)), .val (.int (fP (fP (fP s_).toNatClampNeg).toNatClampNeg))] [(.int (fP (fP (fP s_).toNatClampNeg).toNatClampNeg)), (.int p0)])) t → Steps p.tables e below (s₁.setTop (entryFrame m #[(.int p0), (.int p1), (.ref a2)] 6)) t := by
          intro t kt
          refine pre11 t ?_
          show Steps p.tables e below (s₁.setTop (mkF m 28 #[.val (.int p0), .val (.int p1), .val (.ref a2), .val (.int (fP s_)), .val (.int (fP (fP s_).toNatClampNeg)), .val (.int (fP (fP (fP s_).toNatClampNeg).toNatClampNeg))] [(.int (fP (fP s_).toNatClampNeg)), (.int p0)])) _
          refine XS.icmpNo X0.here hx rfl (hb hby own_d_method_3_28) rfl (feq hc12).1 ?_
          show Steps p.tables e below (s₁.setTop (mkF m 31 #[.val (.int p0), .val (.int p1), .val (.ref a2), .val (.int (fP s_)), .val (.int (fP (fP s_).toNatClampNeg)), .val (.int (fP (fP (fP s_).toNatClampNeg).toNatClampNeg))] [])) _
          refine XS.iloadN X0.here hx rfl (hb hby own_d_method_3_31) rfl ?_
          show Steps p.tables e below (s₁.setTop (mkF m 32 #[.val (.int p0), .val (.int p1), .val (.ref a2), .val (.int (fP s_)), .val (.int (fP (fP s_).toNatClampNeg)), .val (.int (fP (fP (fP s_).toNatClampNeg).toNatClampNeg))] [(.int p0)])) _
          refine XS.iload X0.here hx rfl (hb hby own_d_method_3_32) rfl ?_
          exact kt
        by_cases hc15 : p0 = (fP (fP (fP s_).toNatClampNeg).toNatClampNeg)
        · have pre16 : ∀ t, Steps p.tables e below (s₁.setTop (mkF m 42 #[.val (.int p0), .val (.int p1), .val (.ref a2), .val (.int (fP s_)), .val (.int (fP (fP s_).toNatClampNeg)), .val (.int (fP (fP (fP s_).toNatClampNeg).toNatClampNeg))] [(.int (1 : Int32))])) t → Steps p.tables e below (s₁.setTop (entryFrame m #[(.int p0), (.int p1), (.ref a2)] 6)) t := by
            intro t kt
            refine pre14 t ?_
            show Steps p.tables e below (s₁.setTop (mkF m 34 #[.val (.int p0), .val (.int p1), .val (.ref a2), .val (.int (fP s_)), .val (.int (fP (fP s_).toNatClampNeg)), .val (.int (fP (fP (fP s_).toNatClampNeg).toNatClampNeg))] [(.int (fP (fP (fP s_).toNatClampNeg).toNatClampNeg)), (.int p0)])) _
            refine XS.icmpNo X0.here hx rfl (hb hby own_d_method_3_34) rfl (teq hc15).2 ?_
            show Steps p.tables e below (s₁.setTop (mkF m 37 #[.val (.int p0), .val (.int p1), .val (.ref a2), .val (.int (fP s_)), .val (.int (fP (fP s_).toNatClampNeg)), .val (.int (fP (fP (fP s_).toNatClampNeg).toNatClampNeg))] [])) _
            refine XS.iconst X0.here hx rfl (hb hby own_d_method_3_37) ?_
            show Steps p.tables e below (s₁.setTop (mkF m 38 #[.val (.int p0), .val (.int p1), .val (.ref a2), .val (.int (fP s_)), .val (.int (fP (fP s_).toNatClampNeg)), .val (.int (fP (fP (fP s_).toNatClampNeg).toNatClampNeg))] [(.int (1 : Int32))])) _
            refine XS.goto X0.here hx rfl (pc0 := 38) (pc' := 42) rfl (hb hby own_d_method_3_38) (by decide) (by decide) ?_
            exact kt
          obtain ⟨fs, hr, hrun, hended, hW, hsame⟩ := X0.leave (v := some (.int (1 : Int32))) (fun h => by rw [Bd.returns] at h; cases h)
          refine ⟨_, _, pre16 _ ?_, hrun, hended, _, _, rfl, ?_, ⟨_, rfl⟩, hW, hsame.mono (by decide) (by decide)⟩
          · show Steps p.tables e below (s₁.setTop (mkF m 42 #[.val (.int p0), .val (.int p1), .val (.ref a2), .val (.int (fP s_)), .val (.int (fP (fP s_).toNatClampNeg)), .val (.int (fP (fP (fP s_).toNatClampNeg).toNatClampNeg))] [(.int (1 : Int32))])) _
            exact retN X0 hx (t := .boolean) Bd.returns (by simp) (hb hby own_d_method_3_42) hr
          · show own_Q_anc Z p0 p1 a2 s_ fP fR h0 n0 (some (.int (1 : Int32))) s₁.heap _
            rw [e0]
            exact ⟨by simp [own_anc, ← hs, hc6, hc9, hc12, hc15], N0, rfl⟩
        · have pre17 : ∀ t, Steps p.tables e below (s₁.setTop (mkF m 42 #[.val (.int p0), .val (.int p1), .val (.ref a2), .val (.int (fP s_)), .val (.int (fP (fP s_).toNatClampNeg)), .val (.int (fP (fP (fP s_).toNatClampNeg).toNatClampNeg))] [(.int (0 : Int32))])) t → Steps p.tables e below (s₁.setTop (entryFrame m #[(.int p0), (.int p1), (.ref a2)] 6)) t := by
            intro t kt
            refine pre14 t ?_
            show Steps p.tables e below (s₁.setTop (mkF m 34 #[.val (.int p0), .val (.int p1), .val (.ref a2), .val (.int (fP s_)), .val (.int (fP (fP s_).toNatClampNeg)), .val (.int (fP (fP (fP s_).toNatClampNeg).toNatClampNeg))] [(.int (fP (fP (fP s_).toNatClampNeg).toNatClampNeg)), (.int p0)])) _
            refine XS.icmpYes X0.here hx rfl (pc0 := 34) (pc' := 41) rfl (hb hby own_d_method_3_34) rfl (feq hc15).2 (by decide) (by decide) ?_
            show Steps p.tables e below (s₁.setTop (mkF m 41 #[.val (.int p0), .val (.int p1), .val (.ref a2), .val (.int (fP s_)), .val (.int (fP (fP s_).toNatClampNeg)), .val (.int (fP (fP (fP s_).toNatClampNeg).toNatClampNeg))] [])) _
            refine XS.iconst X0.here hx rfl (hb hby own_d_method_3_41) ?_
            exact kt
          obtain ⟨fs, hr, hrun, hended, hW, hsame⟩ := X0.leave (v := some (.int (0 : Int32))) (fun h => by rw [Bd.returns] at h; cases h)
          refine ⟨_, _, pre17 _ ?_, hrun, hended, _, _, rfl, ?_, ⟨_, rfl⟩, hW, hsame.mono (by decide) (by decide)⟩
          · show Steps p.tables e below (s₁.setTop (mkF m 42 #[.val (.int p0), .val (.int p1), .val (.ref a2), .val (.int (fP s_)), .val (.int (fP (fP s_).toNatClampNeg)), .val (.int (fP (fP (fP s_).toNatClampNeg).toNatClampNeg))] [(.int (0 : Int32))])) _
            exact retN X0 hx (t := .boolean) Bd.returns (by simp) (hb hby own_d_method_3_42) hr
          · show own_Q_anc Z p0 p1 a2 s_ fP fR h0 n0 (some (.int (0 : Int32))) s₁.heap _
            rw [e0]
            exact ⟨by simp [own_anc, ← hs, hc6, hc9, hc12, hc15], N0, rfl⟩
theorem own_d_method_4_0 : decode method_4_code 0 = .ok (.iload_n 1, 1) := by decide +kernel
theorem own_d_method_4_1 : decode method_4_code 1 = .ok (.iload_n 2, 1) := by decide +kernel
theorem own_d_method_4_2 : decode method_4_code 2 = .ok (.aload 4, 2) := by decide +kernel
theorem own_d_method_4_4 : decode method_4_code 4 = .ok (.invokestatic 23, 3) := by decide +kernel
theorem own_d_method_4_7 : decode method_4_code 7 = .ok (.iload_n 1, 1) := by decide +kernel
theorem own_d_method_4_8 : decode method_4_code 8 = .ok (.iload_n 3, 1) := by decide +kernel
theorem own_d_method_4_9 : decode method_4_code 9 = .ok (.aload 4, 2) := by decide +kernel
theorem own_d_method_4_11 : decode method_4_code 11 = .ok (.invokestatic 23, 3) := by decide +kernel
theorem own_d_method_4_14 : decode method_4_code 14 = .ok (.if_icmp .eq 23, 3) := by decide +kernel
theorem own_d_method_4_17 : decode method_4_code 17 = .ok (.aload 5, 2) := by decide +kernel
theorem own_d_method_4_19 : decode method_4_code 19 = .ok (.iload_n 1, 1) := by decide +kernel
theorem own_d_method_4_20 : decode method_4_code 20 = .ok (.iaload, 1) := by decide +kernel
theorem own_d_method_4_21 : decode method_4_code 21 = .ok (.istore 6, 2) := by decide +kernel
theorem own_d_method_4_23 : decode method_4_code 23 = .ok (.iload_n 0, 1) := by decide +kernel
theorem own_d_method_4_24 : decode method_4_code 24 = .ok (.ifCond .ne 6, 3) := by decide +kernel
theorem own_d_method_4_27 : decode method_4_code 27 = .ok (.iload 6, 2) := by decide +kernel
theorem own_d_method_4_29 : decode method_4_code 29 = .ok (.ireturn, 1) := by decide +kernel
theorem own_d_method_4_30 : decode method_4_code 30 = .ok (.iload_n 0, 1) := by decide +kernel
theorem own_d_method_4_31 : decode method_4_code 31 = .ok (.iload 6, 2) := by decide +kernel
theorem own_d_method_4_33 : decode method_4_code 33 = .ok (.invokestatic 27, 3) := by decide +kernel
theorem own_d_method_4_36 : decode method_4_code 36 = .ok (.ireturn, 1) := by decide +kernel
theorem own_d_method_4_37 : decode method_4_code 37 = .ok (.iload_n 0, 1) := by decide +kernel
theorem own_d_method_4_38 : decode method_4_code 38 = .ok (.ireturn, 1) := by decide +kernel
theorem own_pd0 : parseMethodDescriptor "(II[I)Z" = some ⟨[.int, .int, (.array .int)], some .boolean⟩ := by decide +kernel
theorem own_pd1 : parseMethodDescriptor "(II)I" = some ⟨[.int, .int], some .int⟩ := by decide +kernel
theorem own_ef_con (m : MethodId) (p0 : Int32) (p1 : Int32) (p2 : Int32) (p3 : Int32) (a4 : Addr) (a5 : Addr) : entryFrame m #[(.int p0), (.int p1), (.int p2), (.int p3), (.ref a4), (.ref a5)] 7 = mkF m 0 #[.val (.int p0), .val (.int p1), .val (.int p2), .val (.int p3), .val (.ref a4), .val (.ref a5), .unset] [] := by first | (simp [entryFrame, mkF, argsToLocals, Value.category]; done) | rfl
def own_Q_con (Z : State) (p0 : Int32) (p1 : Int32) (p2 : Int32) (p3 : Int32) (a4 : Addr) (a5 : Addr) (c_ : Nat) (x_ : Nat) (y_ : Nat) (fP : Nat → Int32) (fR : Nat → Int32) (h0 : Heap) (n0 : Nat) (v : Option Value) (h : Heap) (L : List Loc) : Prop := v = some (.int (own_con fP fR p0 p1 c_ x_ y_)) ∧ Fr n0 L ∧ h = h0
set_option maxRecDepth 65536 in
set_option maxHeartbeats 40000000 in
theorem own_rm_con (l : Launch) (Z : State) (a0 : Array Value) (hw : ∀ d ∈ tables_1, d.before a0 Z = true) (ws : List Jvm.Cond) (p0 : Int32) (p1 : Int32) (p2 : Int32) (p3 : Int32) (a4 : Addr) (a5 : Addr) (c_ : Nat) (x_ : Nat) (y_ : Nat) (fP : Nat → Int32) (fR : Nat → Int32) (h0 : Heap) (n0 : Nat) (Z0 : n0 ≤ h0.size) (AP : own_A Z h0 a4 5 fP) (AR : own_A Z h0 a5 5 fR) (hc : p1 = Int32.ofNat c_) (hc5 : c_ < 5) (hxe : p2 = Int32.ofNat x_) (hx5 : x_ < 5) (hye : p3 = Int32.ofNat y_) (hy5 : y_ < 5) (hT : own_tree 5 fP fR) :
    MetFree l (⟨"com/example/unfold/unfold/reduction/SplittingSeparationPinLaw", "consider", "(IIII[I[I)I"⟩ : MethodName) (head1 (Jvm.Cond.code (⟨"com/example/unfold/unfold/reduction/SplittingSeparationPinLaw", "consider", "(IIII[I[I)I"⟩ : MethodName) method_4_code 7 (some .int) :: ws) ({ frames := 1, cells := 0, slots := 0, locals := 18 } : Room)) (fun a U => a = #[(.int p0), (.int p1), (.int p2), (.int p3), (.ref a4), (.ref a5)] ∧ Z.Warmed39 U.vm ∧ U.heap = h0) (fun _ _ _ _ _ => True) (fun _ U o U' => ∃ v L, o = .returned v ∧ own_Q_con Z p0 p1 p2 p3 a4 a5 c_ x_ y_ fP fR h0 n0 v U'.heap L ∧ FrameEnd U o U' L ({ frames := 1, cells := 0, slots := 0, locals := 18 } : Room).cells ({ frames := 1, cells := 0, slots := 0, locals := 18 } : Room).slots) := by
  refine MetFree.of_bodySF (plainFor_of_name own_pn1) hisR ?_
  intro p e s m args below meth c s₁ Bd hml0 hP hK
  obtain ⟨rfl, hZ, hh⟩ := hP
  have hx := Bd.exec
  have hby := Bd.bytes
  have hml : c.maxLocals = 7 := hml0
  have hown : s.vm.findClass "com/example/unfold/unfold/reduction/SplittingSeparationPinLaw" = some m.cls := findClass_of_methodNamed Bd.named
  have hnm := (name_of_methodNamed Bd.named Bd.method).1
  have X0 : Stand p l e ({ frames := 1, cells := 0, slots := 0, locals := 18 } : Room) s m #[(.int p0), (.int p1), (.int p2), (.int p3), (.ref a4), (.ref a5)] below meth c s₁ [] 0 0 := Stand.of_body Bd
  have e0 : s₁.heap = h0 := by rw [← hh, Bd.state]; rfl
  have N0 := Fr.nil n0
  have K0 : Keep h0 h0 [] := Keep.refl _ _
  have pre0 : ∀ t, Steps p.tables e below (s₁.setTop (mkF m 0 #[.val (.int p0), .val (.int p1), .val (.int p2), .val (.int p3), .val (.ref a4), .val (.ref a5), .unset] [])) t → Steps p.tables e below (s₁.setTop (entryFrame m #[(.int p0), (.int p1), (.int p2), (.int p3), (.ref a4), (.ref a5)] 7)) t := fun t k => castTop (own_ef_con m p0 p1 p2 p3 a4 a5) k
  have zs1 : n0 ≤ h0.size := Nat.le_trans Z0 K0.1
  obtain ⟨_, _, ⟨T2, L2, k2, n2⟩, -, X2, ⟨Lc2, hQ2, l2, y2, z2⟩, st2⟩ := Jvm.LawKit.callS X0 hx (y := (⟨"com/example/unfold/unfold/reduction/SplittingSeparationPinLaw", "isAnc", "(II[I)Z"⟩ : MethodName)) hown (mvT hZ (hw _ (List.mem_of_getElem? (i := 26) rfl))) (mvT hZ (hw _ (List.mem_of_getElem? (i := 27) rfl))) (mvT hZ (hw _ (List.mem_of_getElem? (i := 24) rfl))) (mvT hZ (hw _ (List.mem_of_getElem? (i := 28) rfl))) (by decide) (backOf (W := 0) (own_rm_anc l Z a0 hw [] p1 p2 a4 x_ fP fR h0 n0 zs1 AP hxe hx5 hT) hZ (hw _ (List.mem_of_getElem? (i := 28) rfl)) (hw _ (List.mem_of_getElem? (i := 24) rfl)) (by decide) (by decide)) (g := (mkF m 4 #[.val (.int p0), .val (.int p1), .val (.int p2), .val (.int p3), .val (.ref a4), .val (.ref a5), .unset] [(.ref a4), (.int p2), (.int p1)])) rfl (by rw [hml]; rfl) (argsL := [(.int p1), (.int p2), (.ref a4)]) (rest := []) (lenOf own_pd0 rfl) rfl (by show 2 * 0 + _ ≤ _; exact Nat.le_of_eq rfl) (hb hby own_d_method_4_4) (fun _ _ => ⟨rfl, e0, (by decide : 0 + 0 ≤ _), (by decide : 0 + 0 ≤ _)⟩)
  dsimp only [Pt.U, Pt.locs, Pt.cells, Pt.slots] at X2 l2 y2 z2 st2 hQ2
  rw [l2, (y2 : k2 = 0), (z2 : n2 = 0)] at X2
  clear l2 y2 z2
  obtain ⟨rfl, N3, eq3⟩ := hQ2
  have nf4 := Fr.app N0 N3
  have zs5 : n0 ≤ h0.size := Nat.le_trans Z0 K0.1
  obtain ⟨_, _, ⟨T6, L6, k6, n6⟩, -, X6, ⟨Lc6, hQ6, l6, y6, z6⟩, st6⟩ := Jvm.LawKit.callS X2 hx (y := (⟨"com/example/unfold/unfold/reduction/SplittingSeparationPinLaw", "isAnc", "(II[I)Z"⟩ : MethodName)) hown (mvT hZ (hw _ (List.mem_of_getElem? (i := 26) rfl))) (mvT hZ (hw _ (List.mem_of_getElem? (i := 27) rfl))) (mvT hZ (hw _ (List.mem_of_getElem? (i := 24) rfl))) (mvT hZ (hw _ (List.mem_of_getElem? (i := 28) rfl))) (by decide) (backOf (W := 1) (own_rm_anc l Z a0 hw [] p1 p3 a4 y_ fP fR h0 n0 zs5 AP hye hy5 hT) hZ (hw _ (List.mem_of_getElem? (i := 28) rfl)) (hw _ (List.mem_of_getElem? (i := 24) rfl)) (by decide) (by decide)) (g := (mkF m 11 #[.val (.int p0), .val (.int p1), .val (.int p2), .val (.int p3), .val (.ref a4), .val (.ref a5), .unset] [(.ref a4), (.int p3), (.int p1), (.int (own_anc fP p1 x_))])) rfl (by rw [hml]; rfl) (argsL := [(.int p1), (.int p3), (.ref a4)]) (rest := [(.int (own_anc fP p1 x_))]) (lenOf own_pd0 rfl) rfl (by show 2 * 0 + _ ≤ _; exact Nat.le_of_eq rfl) (hb hby own_d_method_4_11) (fun _ _ => ⟨rfl, eq3, (by decide : 0 + 0 ≤ _), (by decide : 0 + 0 ≤ _)⟩)
  dsimp only [Pt.U, Pt.locs, Pt.cells, Pt.slots] at X6 l6 y6 z6 st6 hQ6
  rw [l6, (y6 : k6 = 0), (z6 : n6 = 0)] at X6
  clear l6 y6 z6
  obtain ⟨rfl, N7, eq7⟩ := hQ6
  have nf8 := Fr.app nf4 N7
  have pre9 : ∀ t, Steps p.tables e below (T6.setTop (mkF m 14 #[.val (.int p0), .val (.int p1), .val (.int p2), .val (.int p3), .val (.ref a4), .val (.ref a5), .unset] [(.int (own_anc fP p1 y_)), (.int (own_anc fP p1 x_))])) t → Steps p.tables e below (s₁.setTop (entryFrame m #[(.int p0), (.int p1), (.int p2), (.int p3), (.ref a4), (.ref a5)] 7)) t := by
    intro t kt
    refine pre0 t ?_
    show Steps p.tables e below (s₁.setTop (mkF m 0 #[.val (.int p0), .val (.int p1), .val (.int p2), .val (.int p3), .val (.ref a4), .val (.ref a5), .unset] [])) _
    refine XS.iloadN X0.here hx rfl (hb hby own_d_method_4_0) rfl ?_
    show Steps p.tables e below (s₁.setTop (mkF m 1 #[.val (.int p0), .val (.int p1), .val (.int p2), .val (.int p3), .val (.ref a4), .val (.ref a5), .unset] [(.int p1)])) _
    refine XS.iloadN X0.here hx rfl (hb hby own_d_method_4_1) rfl ?_
    show Steps p.tables e below (s₁.setTop (mkF m 2 #[.val (.int p0), .val (.int p1), .val (.int p2), .val (.int p3), .val (.ref a4), .val (.ref a5), .unset] [(.int p2), (.int p1)])) _
    refine XS.aload X0.here hx rfl (hb hby own_d_method_4_2) rfl rfl ?_
    show Steps p.tables e below (s₁.setTop (mkF m 4 #[.val (.int p0), .val (.int p1), .val (.int p2), .val (.int p3), .val (.ref a4), .val (.ref a5), .unset] [(.ref a4), (.int p2), (.int p1)])) _
    refine st2 _ ?_
    show Steps p.tables e below (T2.setTop (mkF m 7 #[.val (.int p0), .val (.int p1), .val (.int p2), .val (.int p3), .val (.ref a4), .val (.ref a5), .unset] [(.int (own_anc fP p1 x_))])) _
    refine XS.iloadN X2.here hx rfl (hb hby own_d_method_4_7) rfl ?_
    show Steps p.tables e below (T2.setTop (mkF m 8 #[.val (.int p0), .val (.int p1), .val (.int p2), .val (.int p3), .val (.ref a4), .val (.ref a5), .unset] [(.int p1), (.int (own_anc fP p1 x_))])) _
    refine XS.iloadN X2.here hx rfl (hb hby own_d_method_4_8) rfl ?_
    show Steps p.tables e below (T2.setTop (mkF m 9 #[.val (.int p0), .val (.int p1), .val (.int p2), .val (.int p3), .val (.ref a4), .val (.ref a5), .unset] [(.int p3), (.int p1), (.int (own_anc fP p1 x_))])) _
    refine XS.aload X2.here hx rfl (hb hby own_d_method_4_9) rfl rfl ?_
    show Steps p.tables e below (T2.setTop (mkF m 11 #[.val (.int p0), .val (.int p1), .val (.int p2), .val (.int p3), .val (.ref a4), .val (.ref a5), .unset] [(.ref a4), (.int p3), (.int p1), (.int (own_anc fP p1 x_))])) _
    refine st6 _ ?_
    exact kt
  by_cases hc10 : (own_anc fP p1 x_) = (own_anc fP p1 y_)
  · have pre11 : ∀ t, Steps p.tables e below (T6.setTop (mkF m 38 #[.val (.int p0), .val (.int p1), .val (.int p2), .val (.int p3), .val (.ref a4), .val (.ref a5), .unset] [(.int p0)])) t → Steps p.tables e below (s₁.setTop (entryFrame m #[(.int p0), (.int p1), (.int p2), (.int p3), (.ref a4), (.ref a5)] 7)) t := by
      intro t kt
      refine pre9 t ?_
      show Steps p.tables e below (T6.setTop (mkF m 14 #[.val (.int p0), .val (.int p1), .val (.int p2), .val (.int p3), .val (.ref a4), .val (.ref a5), .unset] [(.int (own_anc fP p1 y_)), (.int (own_anc fP p1 x_))])) _
      refine XS.icmpYes X6.here hx rfl (pc0 := 14) (pc' := 37) rfl (hb hby own_d_method_4_14) rfl (teq hc10).1 (by decide) (by decide) ?_
      show Steps p.tables e below (T6.setTop (mkF m 37 #[.val (.int p0), .val (.int p1), .val (.int p2), .val (.int p3), .val (.ref a4), .val (.ref a5), .unset] [])) _
      refine XS.iloadN X6.here hx rfl (hb hby own_d_method_4_37) rfl ?_
      exact kt
    obtain ⟨fs, hr, hrun, hended, hW, hsame⟩ := X6.leave (v := some (.int p0)) (fun h => by rw [Bd.returns] at h; cases h)
    refine ⟨_, _, pre11 _ ?_, hrun, hended, _, _, rfl, ?_, ⟨_, rfl⟩, hW, hsame.mono (by decide) (by decide)⟩
    · show Steps p.tables e below (T6.setTop (mkF m 38 #[.val (.int p0), .val (.int p1), .val (.int p2), .val (.int p3), .val (.ref a4), .val (.ref a5), .unset] [(.int p0)])) _
      exact retI X6 hx Bd.returns (hb hby own_d_method_4_38) hr
    · show own_Q_con Z p0 p1 p2 p3 a4 a5 c_ x_ y_ fP fR h0 n0 (some (.int p0)) T6.heap _
      rw [eq7]
      exact ⟨by simp [own_con, hc10], nf8, rfl⟩
  · obtain ⟨cl12, Ar12, S12, H12⟩ := id AR
    have hin12 : ¬ (p1 < 0 ∨ cl12.slots.size ≤ (p1).toNatClampNeg) := own_inb S12 (by rw [hc]; exact own_of0 (by omega)) (by rw [hc, own_ofN (by omega)]; exact hc5)
    have hat12 : cl12.slots[(p1).toNatClampNeg]? = some (.int (fR c_)) := (by rw [hc, own_ofN (by omega)]; exact H12 c_ hc5)
    have pre13 : ∀ t, Steps p.tables e below (T6.setTop (mkF m 24 #[.val (.int p0), .val (.int p1), .val (.int p2), .val (.int p3), .val (.ref a4), .val (.ref a5), .val (.int (fR c_))] [(.int p0)])) t → Steps p.tables e below (s₁.setTop (entryFrame m #[(.int p0), (.int p1), (.int p2), (.int p3), (.ref a4), (.ref a5)] 7)) t := by
      intro t kt
      refine pre9 t ?_
      show Steps p.tables e below (T6.setTop (mkF m 14 #[.val (.int p0), .val (.int p1), .val (.int p2), .val (.int p3), .val (.ref a4), .val (.ref a5), .unset] [(.int (own_anc fP p1 y_)), (.int (own_anc fP p1 x_))])) _
      refine XS.icmpNo X6.here hx rfl (hb hby own_d_method_4_14) rfl (feq hc10).1 ?_
      show Steps p.tables e below (T6.setTop (mkF m 17 #[.val (.int p0), .val (.int p1), .val (.int p2), .val (.int p3), .val (.ref a4), .val (.ref a5), .unset] [])) _
      refine XS.aload X6.here hx rfl (hb hby own_d_method_4_17) rfl rfl ?_
      show Steps p.tables e below (T6.setTop (mkF m 19 #[.val (.int p0), .val (.int p1), .val (.int p2), .val (.int p3), .val (.ref a4), .val (.ref a5), .unset] [(.ref a5)])) _
      refine XS.iloadN X6.here hx rfl (hb hby own_d_method_4_19) rfl ?_
      show Steps p.tables e below (T6.setTop (mkF m 20 #[.val (.int p0), .val (.int p1), .val (.int p2), .val (.int p3), .val (.ref a4), .val (.ref a5), .unset] [(.int p1), (.ref a5)])) _
      refine X6.iaload hx (j := p1) (v := (.int (fR c_))) (by rw [eq7]; exact Ar12.1) (State.isArrayOf_alike hZ.alike Ar12.2.1) Ar12.2.2 hin12 hat12 (g := (mkF m 20 #[.val (.int p0), .val (.int p1), .val (.int p2), .val (.int p3), .val (.ref a4), .val (.ref a5), .unset] [(.int p1), (.ref a5)])) rfl rfl (hb hby own_d_method_4_20) _ ?_
      show Steps p.tables e below (T6.setTop (mkF m 21 #[.val (.int p0), .val (.int p1), .val (.int p2), .val (.int p3), .val (.ref a4), .val (.ref a5), .unset] [(.int (fR c_))])) _
      refine XS.istore X6.here hx rfl (hb hby own_d_method_4_21) rfl (l' := #[.val (.int p0), .val (.int p1), .val (.int p2), .val (.int p3), .val (.ref a4), .val (.ref a5), .val (.int (fR c_))]) rfl ?_
      show Steps p.tables e below (T6.setTop (mkF m 23 #[.val (.int p0), .val (.int p1), .val (.int p2), .val (.int p3), .val (.ref a4), .val (.ref a5), .val (.int (fR c_))] [])) _
      refine XS.iloadN X6.here hx rfl (hb hby own_d_method_4_23) rfl ?_
      exact kt
    by_cases hc14 : p0 = (0 : Int32)
    · have pre15 : ∀ t, Steps p.tables e below (T6.setTop (mkF m 29 #[.val (.int p0), .val (.int p1), .val (.int p2), .val (.int p3), .val (.ref a4), .val (.ref a5), .val (.int (fR c_))] [(.int (fR c_))])) t → Steps p.tables e below (s₁.setTop (entryFrame m #[(.int p0), (.int p1), (.int p2), (.int p3), (.ref a4), (.ref a5)] 7)) t := by
        intro t kt
        refine pre13 t ?_
        show Steps p.tables e below (T6.setTop (mkF m 24 #[.val (.int p0), .val (.int p1), .val (.int p2), .val (.int p3), .val (.ref a4), .val (.ref a5), .val (.int (fR c_))] [(.int p0)])) _
        refine XS.ifNo X6.here hx rfl (hb hby own_d_method_4_24) rfl ((if0 _ _).trans (teq hc14).2) ?_
        show Steps p.tables e below (T6.setTop (mkF m 27 #[.val (.int p0), .val (.int p1), .val (.int p2), .val (.int p3), .val (.ref a4), .val (.ref a5), .val (.int (fR c_))] [])) _
        refine XS.iload X6.here hx rfl (hb hby own_d_method_4_27) rfl ?_
        exact kt
      obtain ⟨fs, hr, hrun, hended, hW, hsame⟩ := X6.leave (v := some (.int (fR c_))) (fun h => by rw [Bd.returns] at h; cases h)
      refine ⟨_, _, pre15 _ ?_, hrun, hended, _, _, rfl, ?_, ⟨_, rfl⟩, hW, hsame.mono (by decide) (by decide)⟩
      · show Steps p.tables e below (T6.setTop (mkF m 29 #[.val (.int p0), .val (.int p1), .val (.int p2), .val (.int p3), .val (.ref a4), .val (.ref a5), .val (.int (fR c_))] [(.int (fR c_))])) _
        exact retI X6 hx Bd.returns (hb hby own_d_method_4_29) hr
      · show own_Q_con Z p0 p1 p2 p3 a4 a5 c_ x_ y_ fP fR h0 n0 (some (.int (fR c_))) T6.heap _
        rw [eq7]
        exact ⟨by simp [own_con, hc10, hc14], nf8, rfl⟩
    · have zs16 : n0 ≤ h0.size := Nat.le_trans Z0 K0.1
      obtain ⟨_, _, ⟨T17, L17, k17, n17⟩, -, X17, ⟨Lc17, hQ17, l17, y17, z17⟩, st17⟩ := Jvm.LawKit.callS X6 hx (y := (⟨"java/lang/Math", "min", "(II)I"⟩ : MethodName)) hown (mvT hZ (hw _ (List.mem_of_getElem? (i := 29) rfl))) (mvT hZ (hw _ (List.mem_of_getElem? (i := 30) rfl))) (mvT hZ (hw _ (List.mem_of_getElem? (i := 31) rfl))) (mvT hZ (hw _ (List.mem_of_getElem? (i := 32) rfl))) (by decide) (backOf (W := 0) (own_rm_min l Z a0 hw [] p0 (fR c_) h0 n0 zs16 ) hZ (hw _ (List.mem_of_getElem? (i := 32) rfl)) (hw _ (List.mem_of_getElem? (i := 31) rfl)) (by decide) (by decide)) (g := (mkF m 33 #[.val (.int p0), .val (.int p1), .val (.int p2), .val (.int p3), .val (.ref a4), .val (.ref a5), .val (.int (fR c_))] [(.int (fR c_)), (.int p0)])) rfl (by rw [hml]; rfl) (argsL := [(.int p0), (.int (fR c_))]) (rest := []) (lenOf own_pd1 rfl) rfl (by show 2 * 0 + _ ≤ _; exact Nat.le_of_eq rfl) (hb hby own_d_method_4_33) (fun _ _ => ⟨rfl, eq7, (by decide : 0 + 0 ≤ _), (by decide : 0 + 0 ≤ _)⟩)
      dsimp only [Pt.U, Pt.locs, Pt.cells, Pt.slots] at X17 l17 y17 z17 st17 hQ17
      rw [l17, (y17 : k17 = 0), (z17 : n17 = 0)] at X17
      clear l17 y17 z17
      obtain ⟨rfl, N18, eq18⟩ := hQ17
      have nf19 := Fr.app nf8 N18
      have pre20 : ∀ t, Steps p.tables e below (T17.setTop (mkF m 36 #[.val (.int p0), .val (.int p1), .val (.int p2), .val (.int p3), .val (.ref a4), .val (.ref a5), .val (.int (fR c_))] [(.int (own_min p0 (fR c_)))])) t → Steps p.tables e below (s₁.setTop (entryFrame m #[(.int p0), (.int p1), (.int p2), (.int p3), (.ref a4), (.ref a5)] 7)) t := by
        intro t kt
        refine pre13 t ?_
        show Steps p.tables e below (T6.setTop (mkF m 24 #[.val (.int p0), .val (.int p1), .val (.int p2), .val (.int p3), .val (.ref a4), .val (.ref a5), .val (.int (fR c_))] [(.int p0)])) _
        refine XS.ifYes X6.here hx rfl (pc0 := 24) (pc' := 30) rfl (hb hby own_d_method_4_24) rfl ((if0 _ _).trans (feq hc14).2) (by decide) (by decide) ?_
        show Steps p.tables e below (T6.setTop (mkF m 30 #[.val (.int p0), .val (.int p1), .val (.int p2), .val (.int p3), .val (.ref a4), .val (.ref a5), .val (.int (fR c_))] [])) _
        refine XS.iloadN X6.here hx rfl (hb hby own_d_method_4_30) rfl ?_
        show Steps p.tables e below (T6.setTop (mkF m 31 #[.val (.int p0), .val (.int p1), .val (.int p2), .val (.int p3), .val (.ref a4), .val (.ref a5), .val (.int (fR c_))] [(.int p0)])) _
        refine XS.iload X6.here hx rfl (hb hby own_d_method_4_31) rfl ?_
        show Steps p.tables e below (T6.setTop (mkF m 33 #[.val (.int p0), .val (.int p1), .val (.int p2), .val (.int p3), .val (.ref a4), .val (.ref a5), .val (.int (fR c_))] [(.int (fR c_)), (.int p0)])) _
        refine st17 _ ?_
        exact kt
      obtain ⟨fs, hr, hrun, hended, hW, hsame⟩ := X17.leave (v := some (.int (own_min p0 (fR c_)))) (fun h => by rw [Bd.returns] at h; cases h)
      refine ⟨_, _, pre20 _ ?_, hrun, hended, _, _, rfl, ?_, ⟨_, rfl⟩, hW, hsame.mono (by decide) (by decide)⟩
      · show Steps p.tables e below (T17.setTop (mkF m 36 #[.val (.int p0), .val (.int p1), .val (.int p2), .val (.int p3), .val (.ref a4), .val (.ref a5), .val (.int (fR c_))] [(.int (own_min p0 (fR c_)))])) _
        exact retI X17 hx Bd.returns (hb hby own_d_method_4_36) hr
      · show own_Q_con Z p0 p1 p2 p3 a4 a5 c_ x_ y_ fP fR h0 n0 (some (.int (own_min p0 (fR c_)))) T17.heap _
        rw [eq18]
        exact ⟨by simp [own_con, hc10, hc14], nf19, rfl⟩
theorem own_d_prog_132_method_3_0 : decode prog_132_method_3_code 0 = .ok (.aload_n 0, 1) := by decide +kernel
theorem own_d_prog_132_method_3_1 : decode prog_132_method_3_code 1 = .ok (.getfield 7, 3) := by decide +kernel
theorem own_d_prog_132_method_3_4 : decode prog_132_method_3_code 4 = .ok (.iload_n 1, 1) := by decide +kernel
theorem own_d_prog_132_method_3_5 : decode prog_132_method_3_code 5 = .ok (.iaload, 1) := by decide +kernel
theorem own_d_prog_132_method_3_6 : decode prog_132_method_3_code 6 = .ok (.istore_n 3, 1) := by decide +kernel
theorem own_d_prog_132_method_3_7 : decode prog_132_method_3_code 7 = .ok (.aload_n 0, 1) := by decide +kernel
theorem own_d_prog_132_method_3_8 : decode prog_132_method_3_code 8 = .ok (.getfield 7, 3) := by decide +kernel
theorem own_d_prog_132_method_3_11 : decode prog_132_method_3_code 11 = .ok (.iload_n 2, 1) := by decide +kernel
theorem own_d_prog_132_method_3_12 : decode prog_132_method_3_code 12 = .ok (.iaload, 1) := by decide +kernel
theorem own_d_prog_132_method_3_13 : decode prog_132_method_3_code 13 = .ok (.istore 4, 2) := by decide +kernel
theorem own_d_prog_132_method_3_15 : decode prog_132_method_3_code 15 = .ok (.iconst 0, 1) := by decide +kernel
theorem own_d_prog_132_method_3_16 : decode prog_132_method_3_code 16 = .ok (.istore 5, 2) := by decide +kernel
theorem own_d_prog_132_method_3_18 : decode prog_132_method_3_code 18 = .ok (.iload_n 3, 1) := by decide +kernel
theorem own_d_prog_132_method_3_19 : decode prog_132_method_3_code 19 = .ok (.iload 4, 2) := by decide +kernel
theorem own_d_prog_132_method_3_21 : decode prog_132_method_3_code 21 = .ok (.if_icmp .eq 58, 3) := by decide +kernel
theorem own_d_prog_132_method_3_24 : decode prog_132_method_3_code 24 = .ok (.aload_n 0, 1) := by decide +kernel
theorem own_d_prog_132_method_3_25 : decode prog_132_method_3_code 25 = .ok (.getfield 16, 3) := by decide +kernel
theorem own_d_prog_132_method_3_28 : decode prog_132_method_3_code 28 = .ok (.iload_n 3, 1) := by decide +kernel
theorem own_d_prog_132_method_3_29 : decode prog_132_method_3_code 29 = .ok (.iaload, 1) := by decide +kernel
theorem own_d_prog_132_method_3_30 : decode prog_132_method_3_code 30 = .ok (.aload_n 0, 1) := by decide +kernel
theorem own_d_prog_132_method_3_31 : decode prog_132_method_3_code 31 = .ok (.getfield 16, 3) := by decide +kernel
theorem own_d_prog_132_method_3_34 : decode prog_132_method_3_code 34 = .ok (.iload 4, 2) := by decide +kernel
theorem own_d_prog_132_method_3_36 : decode prog_132_method_3_code 36 = .ok (.iaload, 1) := by decide +kernel
theorem own_d_prog_132_method_3_37 : decode prog_132_method_3_code 37 = .ok (.if_icmp .lt 21, 3) := by decide +kernel
theorem own_d_prog_132_method_3_40 : decode prog_132_method_3_code 40 = .ok (.aload_n 0, 1) := by decide +kernel
theorem own_d_prog_132_method_3_41 : decode prog_132_method_3_code 41 = .ok (.getfield 16, 3) := by decide +kernel
theorem own_d_prog_132_method_3_44 : decode prog_132_method_3_code 44 = .ok (.iload_n 3, 1) := by decide +kernel
theorem own_d_prog_132_method_3_45 : decode prog_132_method_3_code 45 = .ok (.iaload, 1) := by decide +kernel
theorem own_d_prog_132_method_3_46 : decode prog_132_method_3_code 46 = .ok (.istore 5, 2) := by decide +kernel
theorem own_d_prog_132_method_3_48 : decode prog_132_method_3_code 48 = .ok (.aload_n 0, 1) := by decide +kernel
theorem own_d_prog_132_method_3_49 : decode prog_132_method_3_code 49 = .ok (.getfield 13, 3) := by decide +kernel
theorem own_d_prog_132_method_3_52 : decode prog_132_method_3_code 52 = .ok (.iload_n 3, 1) := by decide +kernel
theorem own_d_prog_132_method_3_53 : decode prog_132_method_3_code 53 = .ok (.iaload, 1) := by decide +kernel
theorem own_d_prog_132_method_3_54 : decode prog_132_method_3_code 54 = .ok (.istore_n 3, 1) := by decide +kernel
theorem own_d_prog_132_method_3_55 : decode prog_132_method_3_code 55 = .ok (.goto (-37), 3) := by decide +kernel
theorem own_d_prog_132_method_3_58 : decode prog_132_method_3_code 58 = .ok (.aload_n 0, 1) := by decide +kernel
theorem own_d_prog_132_method_3_59 : decode prog_132_method_3_code 59 = .ok (.getfield 16, 3) := by decide +kernel
theorem own_d_prog_132_method_3_62 : decode prog_132_method_3_code 62 = .ok (.iload 4, 2) := by decide +kernel
theorem own_d_prog_132_method_3_64 : decode prog_132_method_3_code 64 = .ok (.iaload, 1) := by decide +kernel
theorem own_d_prog_132_method_3_65 : decode prog_132_method_3_code 65 = .ok (.istore 5, 2) := by decide +kernel
theorem own_d_prog_132_method_3_67 : decode prog_132_method_3_code 67 = .ok (.aload_n 0, 1) := by decide +kernel
theorem own_d_prog_132_method_3_68 : decode prog_132_method_3_code 68 = .ok (.getfield 13, 3) := by decide +kernel
theorem own_d_prog_132_method_3_71 : decode prog_132_method_3_code 71 = .ok (.iload 4, 2) := by decide +kernel
theorem own_d_prog_132_method_3_73 : decode prog_132_method_3_code 73 = .ok (.iaload, 1) := by decide +kernel
theorem own_d_prog_132_method_3_74 : decode prog_132_method_3_code 74 = .ok (.istore 4, 2) := by decide +kernel
theorem own_d_prog_132_method_3_76 : decode prog_132_method_3_code 76 = .ok (.goto (-58), 3) := by decide +kernel
theorem own_d_prog_132_method_3_79 : decode prog_132_method_3_code 79 = .ok (.iload 5, 2) := by decide +kernel
theorem own_d_prog_132_method_3_81 : decode prog_132_method_3_code 81 = .ok (.ireturn, 1) := by decide +kernel
theorem own_ef_sep (m : MethodId) (a1 : Addr) : entryFrame m #[(.ref a1), (.int (0 : Int32)), (.int (1 : Int32))] 6 = mkF m 0 #[.val (.ref a1), .val (.int (0 : Int32)), .val (.int (1 : Int32)), .unset, .unset, .unset] [] := by first | (simp [entryFrame, mkF, argsToLocals, Value.category]; done) | rfl
def own_Q_sep (Z : State) (a1 : Addr) (bB : Addr) (bP : Addr) (bR : Addr) (fB : Nat → Int32) (fP : Nat → Int32) (fR : Nat → Int32) (x_ : Nat) (y_ : Nat) (h0 : Heap) (n0 : Nat) (v : Option Value) (h : Heap) (L : List Loc) : Prop := v = some (.int (own_sep fP fR 9 x_ y_ 0)) ∧ Fr n0 L ∧ h = h0
set_option maxRecDepth 65536 in
set_option maxHeartbeats 40000000 in
theorem own_rm_sep (l : Launch) (Z : State) (a0 : Array Value) (hw : ∀ d ∈ tables_1, d.before a0 Z = true) (ws : List Jvm.Cond) (a1 : Addr) (bB : Addr) (bP : Addr) (bR : Addr) (fB : Nat → Int32) (fP : Nat → Int32) (fR : Nat → Int32) (x_ : Nat) (y_ : Nat) (h0 : Heap) (n0 : Nat) (Z0 : n0 ≤ h0.size) (F1 : Fld Z h0 a1 "com/example/unfold/unfold/reduction/Splitting" "blocks" "[I" (.ref bB)) (F2 : Fld Z h0 a1 "com/example/unfold/unfold/reduction/Splitting" "parents" "[I" (.ref bP)) (F3 : Fld Z h0 a1 "com/example/unfold/unfold/reduction/Splitting" "rounds" "[I" (.ref bR)) (AB : own_A Z h0 bB 2 fB) (AP : own_A Z h0 bP 5 fP) (AR : own_A Z h0 bR 5 fR) (hxe : fB 0 = Int32.ofNat x_) (hx5 : x_ < 5) (hye : fB 1 = Int32.ofNat y_) (hy5 : y_ < 5) (hT : own_tree 5 fP fR) :
    MetFree l (⟨"com/example/unfold/unfold/reduction/Splitting", "separation", "(II)I"⟩ : MethodName) (head1 (Jvm.Cond.code (⟨"com/example/unfold/unfold/reduction/Splitting", "separation", "(II)I"⟩ : MethodName) prog_132_method_3_code 6 (some .int) :: ws) ({ frames := 0, cells := 0, slots := 0, locals := 0 } : Room)) (fun a U => a = #[(.ref a1), (.int (0 : Int32)), (.int (1 : Int32))] ∧ Z.Warmed39 U.vm ∧ U.heap = h0) (fun _ _ _ _ _ => True) (fun _ U o U' => ∃ v L, o = .returned v ∧ own_Q_sep Z a1 bB bP bR fB fP fR x_ y_ h0 n0 v U'.heap L ∧ FrameEnd U o U' L ({ frames := 0, cells := 0, slots := 0, locals := 0 } : Room).cells ({ frames := 0, cells := 0, slots := 0, locals := 0 } : Room).slots) := by
  refine MetFree.of_bodySF (plainFor_of_name own_pn0) hisR ?_
  intro p e s m args below meth c s₁ Bd hml0 hP hK
  obtain ⟨rfl, hZ, hh⟩ := hP
  have hx := Bd.exec
  have hby := Bd.bytes
  have hml : c.maxLocals = 6 := hml0
  have hown : s.vm.findClass "com/example/unfold/unfold/reduction/Splitting" = some m.cls := findClass_of_methodNamed Bd.named
  have hnm := (name_of_methodNamed Bd.named Bd.method).1
  have X0 : Stand p l e ({ frames := 0, cells := 0, slots := 0, locals := 0 } : Room) s m #[(.ref a1), (.int (0 : Int32)), (.int (1 : Int32))] below meth c s₁ [] 0 0 := Stand.of_body Bd
  have e0 : s₁.heap = h0 := by rw [← hh, Bd.state]; rfl
  have N0 := Fr.nil n0
  have K0 : Keep h0 h0 [] := Keep.refl _ _
  have pre0 : ∀ t, Steps p.tables e below (s₁.setTop (mkF m 0 #[.val (.ref a1), .val (.int (0 : Int32)), .val (.int (1 : Int32)), .unset, .unset, .unset] [])) t → Steps p.tables e below (s₁.setTop (entryFrame m #[(.ref a1), (.int (0 : Int32)), (.int (1 : Int32))] 6)) t := fun t k => castTop (own_ef_sep m a1) k
  obtain ⟨T1, X1, e1, st1⟩ := getF X0 hx hZ hown (host := "") (Or.inl (hw _ (List.mem_of_getElem? (i := 11) rfl))) Via.refl e0 F1 (g := (mkF m 1 #[.val (.ref a1), .val (.int (0 : Int32)), .val (.int (1 : Int32)), .unset, .unset, .unset] [(.ref a1)])) rfl rfl (hb hby own_d_prog_132_method_3_1)
  obtain ⟨cl2, Ar2, S2, H2⟩ := id AB
  have hin2 : ¬ ((0 : Int32) < 0 ∨ cl2.slots.size ≤ ((0 : Int32)).toNatClampNeg) := own_inb S2 (by decide) (by decide)
  have hat2 : cl2.slots[((0 : Int32)).toNatClampNeg]? = some (.int (Int32.ofNat x_)) := (by rw [← hxe]; exact H2 0 (by decide))
  obtain ⟨T3, X3, e3, st3⟩ := getF X1 hx hZ hown (host := "") (Or.inl (hw _ (List.mem_of_getElem? (i := 11) rfl))) Via.refl e1 F1 (g := (mkF m 8 #[.val (.ref a1), .val (.int (0 : Int32)), .val (.int (1 : Int32)), .val (.int (Int32.ofNat x_)), .unset, .unset] [(.ref a1)])) rfl rfl (hb hby own_d_prog_132_method_3_8)
  obtain ⟨cl4, Ar4, S4, H4⟩ := id AB
  have hin4 : ¬ ((1 : Int32) < 0 ∨ cl4.slots.size ≤ ((1 : Int32)).toNatClampNeg) := own_inb S4 (by decide) (by decide)
  have hat4 : cl4.slots[((1 : Int32)).toNatClampNeg]? = some (.int (Int32.ofNat y_)) := (by rw [← hye]; exact H4 1 (by decide))
  have pre5 : ∀ t, Steps p.tables e below (T3.setTop (mkF m 18 #[.val (.ref a1), .val (.int (0 : Int32)), .val (.int (1 : Int32)), .val (.int (Int32.ofNat x_)), .val (.int (Int32.ofNat y_)), .val (.int (0 : Int32))] [])) t → Steps p.tables e below (s₁.setTop (entryFrame m #[(.ref a1), (.int (0 : Int32)), (.int (1 : Int32))] 6)) t := by
    intro t kt
    refine pre0 t ?_
    show Steps p.tables e below (s₁.setTop (mkF m 0 #[.val (.ref a1), .val (.int (0 : Int32)), .val (.int (1 : Int32)), .unset, .unset, .unset] [])) _
    refine XS.aloadN X0.here hx rfl (hb hby own_d_prog_132_method_3_0) rfl rfl ?_
    show Steps p.tables e below (s₁.setTop (mkF m 1 #[.val (.ref a1), .val (.int (0 : Int32)), .val (.int (1 : Int32)), .unset, .unset, .unset] [(.ref a1)])) _
    refine st1 _ ?_
    show Steps p.tables e below (T1.setTop (mkF m 4 #[.val (.ref a1), .val (.int (0 : Int32)), .val (.int (1 : Int32)), .unset, .unset, .unset] [(.ref bB)])) _
    refine XS.iloadN X1.here hx rfl (hb hby own_d_prog_132_method_3_4) rfl ?_
    show Steps p.tables e below (T1.setTop (mkF m 5 #[.val (.ref a1), .val (.int (0 : Int32)), .val (.int (1 : Int32)), .unset, .unset, .unset] [(.int (0 : Int32)), (.ref bB)])) _
    refine X1.iaload hx (j := (0 : Int32)) (v := (.int (Int32.ofNat x_))) (by rw [e1]; exact Ar2.1) (State.isArrayOf_alike hZ.alike Ar2.2.1) Ar2.2.2 hin2 hat2 (g := (mkF m 5 #[.val (.ref a1), .val (.int (0 : Int32)), .val (.int (1 : Int32)), .unset, .unset, .unset] [(.int (0 : Int32)), (.ref bB)])) rfl rfl (hb hby own_d_prog_132_method_3_5) _ ?_
    show Steps p.tables e below (T1.setTop (mkF m 6 #[.val (.ref a1), .val (.int (0 : Int32)), .val (.int (1 : Int32)), .unset, .unset, .unset] [(.int (Int32.ofNat x_))])) _
    refine XS.istoreN X1.here hx rfl (hb hby own_d_prog_132_method_3_6) rfl (l' := #[.val (.ref a1), .val (.int (0 : Int32)), .val (.int (1 : Int32)), .val (.int (Int32.ofNat x_)), .unset, .unset]) rfl ?_
    show Steps p.tables e below (T1.setTop (mkF m 7 #[.val (.ref a1), .val (.int (0 : Int32)), .val (.int (1 : Int32)), .val (.int (Int32.ofNat x_)), .unset, .unset] [])) _
    refine XS.aloadN X1.here hx rfl (hb hby own_d_prog_132_method_3_7) rfl rfl ?_
    show Steps p.tables e below (T1.setTop (mkF m 8 #[.val (.ref a1), .val (.int (0 : Int32)), .val (.int (1 : Int32)), .val (.int (Int32.ofNat x_)), .unset, .unset] [(.ref a1)])) _
    refine st3 _ ?_
    show Steps p.tables e below (T3.setTop (mkF m 11 #[.val (.ref a1), .val (.int (0 : Int32)), .val (.int (1 : Int32)), .val (.int (Int32.ofNat x_)), .unset, .unset] [(.ref bB)])) _
    refine XS.iloadN X3.here hx rfl (hb hby own_d_prog_132_method_3_11) rfl ?_
    show Steps p.tables e below (T3.setTop (mkF m 12 #[.val (.ref a1), .val (.int (0 : Int32)), .val (.int (1 : Int32)), .val (.int (Int32.ofNat x_)), .unset, .unset] [(.int (1 : Int32)), (.ref bB)])) _
    refine X3.iaload hx (j := (1 : Int32)) (v := (.int (Int32.ofNat y_))) (by rw [e3]; exact Ar4.1) (State.isArrayOf_alike hZ.alike Ar4.2.1) Ar4.2.2 hin4 hat4 (g := (mkF m 12 #[.val (.ref a1), .val (.int (0 : Int32)), .val (.int (1 : Int32)), .val (.int (Int32.ofNat x_)), .unset, .unset] [(.int (1 : Int32)), (.ref bB)])) rfl rfl (hb hby own_d_prog_132_method_3_12) _ ?_
    show Steps p.tables e below (T3.setTop (mkF m 13 #[.val (.ref a1), .val (.int (0 : Int32)), .val (.int (1 : Int32)), .val (.int (Int32.ofNat x_)), .unset, .unset] [(.int (Int32.ofNat y_))])) _
    refine XS.istore X3.here hx rfl (hb hby own_d_prog_132_method_3_13) rfl (l' := #[.val (.ref a1), .val (.int (0 : Int32)), .val (.int (1 : Int32)), .val (.int (Int32.ofNat x_)), .val (.int (Int32.ofNat y_)), .unset]) rfl ?_
    show Steps p.tables e below (T3.setTop (mkF m 15 #[.val (.ref a1), .val (.int (0 : Int32)), .val (.int (1 : Int32)), .val (.int (Int32.ofNat x_)), .val (.int (Int32.ofNat y_)), .unset] [])) _
    refine XS.iconst X3.here hx rfl (hb hby own_d_prog_132_method_3_15) ?_
    show Steps p.tables e below (T3.setTop (mkF m 16 #[.val (.ref a1), .val (.int (0 : Int32)), .val (.int (1 : Int32)), .val (.int (Int32.ofNat x_)), .val (.int (Int32.ofNat y_)), .unset] [(.int (0 : Int32))])) _
    refine XS.istore X3.here hx rfl (hb hby own_d_prog_132_method_3_16) rfl (l' := #[.val (.ref a1), .val (.int (0 : Int32)), .val (.int (1 : Int32)), .val (.int (Int32.ofNat x_)), .val (.int (Int32.ofNat y_)), .val (.int (0 : Int32))]) rfl ?_
    exact kt
  have loop : ∀ (k x y : Nat) (r : Int32) (Tt : State), Stand p l e ({ frames := 0, cells := 0, slots := 0, locals := 0 } : Room) s m #[(.ref a1), (.int (0 : Int32)), (.int (1 : Int32))] below meth c Tt [] 0 0 → Tt.heap = h0 → x + y < k → x < 5 → y < 5 → ∃ T' u w, Stand p l e ({ frames := 0, cells := 0, slots := 0, locals := 0 } : Room) s m #[(.ref a1), (.int (0 : Int32)), (.int (1 : Int32))] below meth c T' [] 0 0 ∧ T'.heap = h0 ∧ ∀ t, Steps p.tables e below (T'.setTop (mkF m 79 #[.val (.ref a1), .val (.int (0 : Int32)), .val (.int (1 : Int32)), .val (.int u), .val (.int w), .val (.int (own_sep fP fR k x y r))] [])) t → Steps p.tables e below (Tt.setTop (mkF m 18 #[.val (.ref a1), .val (.int (0 : Int32)), .val (.int (1 : Int32)), .val (.int (Int32.ofNat x)), .val (.int (Int32.ofNat y)), .val (.int r)] [])) t := by
    intro k
    induction k with
    | zero => intro x y r Tt Xt et hk lx ly; omega
    | succ k ih =>
      intro x y r Tt Xt et hk lx ly
      have pret : ∀ t, Steps p.tables e below (Tt.setTop (mkF m 18 #[.val (.ref a1), .val (.int (0 : Int32)), .val (.int (1 : Int32)), .val (.int (Int32.ofNat x)), .val (.int (Int32.ofNat y)), .val (.int r)] [])) t → Steps p.tables e below (Tt.setTop (mkF m 18 #[.val (.ref a1), .val (.int (0 : Int32)), .val (.int (1 : Int32)), .val (.int (Int32.ofNat x)), .val (.int (Int32.ofNat y)), .val (.int r)] [])) t := fun t q => q
      have pre6 : ∀ t, Steps p.tables e below (Tt.setTop (mkF m 21 #[.val (.ref a1), .val (.int (0 : Int32)), .val (.int (1 : Int32)), .val (.int (Int32.ofNat x)), .val (.int (Int32.ofNat y)), .val (.int r)] [(.int (Int32.ofNat y)), (.int (Int32.ofNat x))])) t → Steps p.tables e below (Tt.setTop (mkF m 18 #[.val (.ref a1), .val (.int (0 : Int32)), .val (.int (1 : Int32)), .val (.int (Int32.ofNat x)), .val (.int (Int32.ofNat y)), .val (.int r)] [])) t := by
        intro t kt
        refine pret t ?_
        show Steps p.tables e below (Tt.setTop (mkF m 18 #[.val (.ref a1), .val (.int (0 : Int32)), .val (.int (1 : Int32)), .val (.int (Int32.ofNat x)), .val (.int (Int32.ofNat y)), .val (.int r)] [])) _
        refine XS.iloadN Xt.here hx rfl (hb hby own_d_prog_132_method_3_18) rfl ?_
        show Steps p.tables e below (Tt.setTop (mkF m 19 #[.val (.ref a1), .val (.int (0 : Int32)), .val (.int (1 : Int32)), .val (.int (Int32.ofNat x)), .val (.int (Int32.ofNat y)), .val (.int r)] [(.int (Int32.ofNat x))])) _
        refine XS.iload Xt.here hx rfl (hb hby own_d_prog_132_method_3_19) rfl ?_
        exact kt
      by_cases hc7 : (Int32.ofNat x) = (Int32.ofNat y)
      · have pre8 : ∀ t, Steps p.tables e below (Tt.setTop (mkF m 79 #[.val (.ref a1), .val (.int (0 : Int32)), .val (.int (1 : Int32)), .val (.int (Int32.ofNat x)), .val (.int (Int32.ofNat y)), .val (.int r)] [])) t → Steps p.tables e below (Tt.setTop (mkF m 18 #[.val (.ref a1), .val (.int (0 : Int32)), .val (.int (1 : Int32)), .val (.int (Int32.ofNat x)), .val (.int (Int32.ofNat y)), .val (.int r)] [])) t := by
          intro t kt
          refine pre6 t ?_
          show Steps p.tables e below (Tt.setTop (mkF m 21 #[.val (.ref a1), .val (.int (0 : Int32)), .val (.int (1 : Int32)), .val (.int (Int32.ofNat x)), .val (.int (Int32.ofNat y)), .val (.int r)] [(.int (Int32.ofNat y)), (.int (Int32.ofNat x))])) _
          refine XS.icmpYes Xt.here hx rfl (pc0 := 21) (pc' := 79) rfl (hb hby own_d_prog_132_method_3_21) rfl (teq hc7).1 (by decide) (by decide) ?_
          exact kt
        have eq : x = y := own_inj (by omega) (by omega) hc7
        refine ⟨Tt, Int32.ofNat x, Int32.ofNat y, Xt, et, fun t kt => pre8 t ?_⟩
        rw [show own_sep fP fR (k + 1) x y r = r by simp [own_sep, eq]] at kt
        exact kt
      · obtain ⟨T9, X9, e9, st9⟩ := getF Xt hx hZ hown (host := "") (Or.inl (hw _ (List.mem_of_getElem? (i := 15) rfl))) Via.refl et F3 (g := (mkF m 25 #[.val (.ref a1), .val (.int (0 : Int32)), .val (.int (1 : Int32)), .val (.int (Int32.ofNat x)), .val (.int (Int32.ofNat y)), .val (.int r)] [(.ref a1)])) rfl rfl (hb hby own_d_prog_132_method_3_25)
        obtain ⟨cl10, Ar10, S10, H10⟩ := id AR
        have hin10 : ¬ ((Int32.ofNat x) < 0 ∨ cl10.slots.size ≤ ((Int32.ofNat x)).toNatClampNeg) := own_inb S10 (own_of0 (by omega)) (by rw [own_ofN (by omega)]; omega)
        have hat10 : cl10.slots[((Int32.ofNat x)).toNatClampNeg]? = some (.int (fR x)) := (by rw [own_ofN (by omega)]; exact H10 x (by omega))
        obtain ⟨T11, X11, e11, st11⟩ := getF X9 hx hZ hown (host := "") (Or.inl (hw _ (List.mem_of_getElem? (i := 15) rfl))) Via.refl e9 F3 (g := (mkF m 31 #[.val (.ref a1), .val (.int (0 : Int32)), .val (.int (1 : Int32)), .val (.int (Int32.ofNat x)), .val (.int (Int32.ofNat y)), .val (.int r)] [(.ref a1), (.int (fR x))])) rfl rfl (hb hby own_d_prog_132_method_3_31)
        obtain ⟨cl12, Ar12, S12, H12⟩ := id AR
        have hin12 : ¬ ((Int32.ofNat y) < 0 ∨ cl12.slots.size ≤ ((Int32.ofNat y)).toNatClampNeg) := own_inb S12 (own_of0 (by omega)) (by rw [own_ofN (by omega)]; omega)
        have hat12 : cl12.slots[((Int32.ofNat y)).toNatClampNeg]? = some (.int (fR y)) := (by rw [own_ofN (by omega)]; exact H12 y (by omega))
        have pre13 : ∀ t, Steps p.tables e below (T11.setTop (mkF m 37 #[.val (.ref a1), .val (.int (0 : Int32)), .val (.int (1 : Int32)), .val (.int (Int32.ofNat x)), .val (.int (Int32.ofNat y)), .val (.int r)] [(.int (fR y)), (.int (fR x))])) t → Steps p.tables e below (Tt.setTop (mkF m 18 #[.val (.ref a1), .val (.int (0 : Int32)), .val (.int (1 : Int32)), .val (.int (Int32.ofNat x)), .val (.int (Int32.ofNat y)), .val (.int r)] [])) t := by
          intro t kt
          refine pre6 t ?_
          show Steps p.tables e below (Tt.setTop (mkF m 21 #[.val (.ref a1), .val (.int (0 : Int32)), .val (.int (1 : Int32)), .val (.int (Int32.ofNat x)), .val (.int (Int32.ofNat y)), .val (.int r)] [(.int (Int32.ofNat y)), (.int (Int32.ofNat x))])) _
          refine XS.icmpNo Xt.here hx rfl (hb hby own_d_prog_132_method_3_21) rfl (feq hc7).1 ?_
          show Steps p.tables e below (Tt.setTop (mkF m 24 #[.val (.ref a1), .val (.int (0 : Int32)), .val (.int (1 : Int32)), .val (.int (Int32.ofNat x)), .val (.int (Int32.ofNat y)), .val (.int r)] [])) _
          refine XS.aloadN Xt.here hx rfl (hb hby own_d_prog_132_method_3_24) rfl rfl ?_
          show Steps p.tables e below (Tt.setTop (mkF m 25 #[.val (.ref a1), .val (.int (0 : Int32)), .val (.int (1 : Int32)), .val (.int (Int32.ofNat x)), .val (.int (Int32.ofNat y)), .val (.int r)] [(.ref a1)])) _
          refine st9 _ ?_
          show Steps p.tables e below (T9.setTop (mkF m 28 #[.val (.ref a1), .val (.int (0 : Int32)), .val (.int (1 : Int32)), .val (.int (Int32.ofNat x)), .val (.int (Int32.ofNat y)), .val (.int r)] [(.ref bR)])) _
          refine XS.iloadN X9.here hx rfl (hb hby own_d_prog_132_method_3_28) rfl ?_
          show Steps p.tables e below (T9.setTop (mkF m 29 #[.val (.ref a1), .val (.int (0 : Int32)), .val (.int (1 : Int32)), .val (.int (Int32.ofNat x)), .val (.int (Int32.ofNat y)), .val (.int r)] [(.int (Int32.ofNat x)), (.ref bR)])) _
          refine X9.iaload hx (j := (Int32.ofNat x)) (v := (.int (fR x))) (by rw [e9]; exact Ar10.1) (State.isArrayOf_alike hZ.alike Ar10.2.1) Ar10.2.2 hin10 hat10 (g := (mkF m 29 #[.val (.ref a1), .val (.int (0 : Int32)), .val (.int (1 : Int32)), .val (.int (Int32.ofNat x)), .val (.int (Int32.ofNat y)), .val (.int r)] [(.int (Int32.ofNat x)), (.ref bR)])) rfl rfl (hb hby own_d_prog_132_method_3_29) _ ?_
          show Steps p.tables e below (T9.setTop (mkF m 30 #[.val (.ref a1), .val (.int (0 : Int32)), .val (.int (1 : Int32)), .val (.int (Int32.ofNat x)), .val (.int (Int32.ofNat y)), .val (.int r)] [(.int (fR x))])) _
          refine XS.aloadN X9.here hx rfl (hb hby own_d_prog_132_method_3_30) rfl rfl ?_
          show Steps p.tables e below (T9.setTop (mkF m 31 #[.val (.ref a1), .val (.int (0 : Int32)), .val (.int (1 : Int32)), .val (.int (Int32.ofNat x)), .val (.int (Int32.ofNat y)), .val (.int r)] [(.ref a1), (.int (fR x))])) _
          refine st11 _ ?_
          show Steps p.tables e below (T11.setTop (mkF m 34 #[.val (.ref a1), .val (.int (0 : Int32)), .val (.int (1 : Int32)), .val (.int (Int32.ofNat x)), .val (.int (Int32.ofNat y)), .val (.int r)] [(.ref bR), (.int (fR x))])) _
          refine XS.iload X11.here hx rfl (hb hby own_d_prog_132_method_3_34) rfl ?_
          show Steps p.tables e below (T11.setTop (mkF m 36 #[.val (.ref a1), .val (.int (0 : Int32)), .val (.int (1 : Int32)), .val (.int (Int32.ofNat x)), .val (.int (Int32.ofNat y)), .val (.int r)] [(.int (Int32.ofNat y)), (.ref bR), (.int (fR x))])) _
          refine X11.iaload hx (j := (Int32.ofNat y)) (v := (.int (fR y))) (by rw [e11]; exact Ar12.1) (State.isArrayOf_alike hZ.alike Ar12.2.1) Ar12.2.2 hin12 hat12 (g := (mkF m 36 #[.val (.ref a1), .val (.int (0 : Int32)), .val (.int (1 : Int32)), .val (.int (Int32.ofNat x)), .val (.int (Int32.ofNat y)), .val (.int r)] [(.int (Int32.ofNat y)), (.ref bR), (.int (fR x))])) rfl rfl (hb hby own_d_prog_132_method_3_36) _ ?_
          exact kt
        by_cases hc14 : (fR x) < (fR y)
        · obtain ⟨T15, X15, e15, st15⟩ := getF X11 hx hZ hown (host := "") (Or.inl (hw _ (List.mem_of_getElem? (i := 15) rfl))) Via.refl e11 F3 (g := (mkF m 59 #[.val (.ref a1), .val (.int (0 : Int32)), .val (.int (1 : Int32)), .val (.int (Int32.ofNat x)), .val (.int (Int32.ofNat y)), .val (.int r)] [(.ref a1)])) rfl rfl (hb hby own_d_prog_132_method_3_59)
          obtain ⟨cl16, Ar16, S16, H16⟩ := id AR
          have hin16 : ¬ ((Int32.ofNat y) < 0 ∨ cl16.slots.size ≤ ((Int32.ofNat y)).toNatClampNeg) := own_inb S16 (own_of0 (by omega)) (by rw [own_ofN (by omega)]; omega)
          have hat16 : cl16.slots[((Int32.ofNat y)).toNatClampNeg]? = some (.int (fR y)) := (by rw [own_ofN (by omega)]; exact H16 y (by omega))
          obtain ⟨T17, X17, e17, st17⟩ := getF X15 hx hZ hown (host := "") (Or.inl (hw _ (List.mem_of_getElem? (i := 13) rfl))) Via.refl e15 F2 (g := (mkF m 68 #[.val (.ref a1), .val (.int (0 : Int32)), .val (.int (1 : Int32)), .val (.int (Int32.ofNat x)), .val (.int (Int32.ofNat y)), .val (.int (fR y))] [(.ref a1)])) rfl rfl (hb hby own_d_prog_132_method_3_68)
          obtain ⟨cl18, Ar18, S18, H18⟩ := id AP
          have hin18 : ¬ ((Int32.ofNat y) < 0 ∨ cl18.slots.size ≤ ((Int32.ofNat y)).toNatClampNeg) := own_inb S18 (own_of0 (by omega)) (by rw [own_ofN (by omega)]; omega)
          have hat18 : cl18.slots[((Int32.ofNat y)).toNatClampNeg]? = some (.int (fP y)) := (by rw [own_ofN (by omega)]; exact H18 y (by omega))
          have pre19 : ∀ t, Steps p.tables e below (T17.setTop (mkF m 18 #[.val (.ref a1), .val (.int (0 : Int32)), .val (.int (1 : Int32)), .val (.int (Int32.ofNat x)), .val (.int (fP y)), .val (.int (fR y))] [])) t → Steps p.tables e below (Tt.setTop (mkF m 18 #[.val (.ref a1), .val (.int (0 : Int32)), .val (.int (1 : Int32)), .val (.int (Int32.ofNat x)), .val (.int (Int32.ofNat y)), .val (.int r)] [])) t := by
            intro t kt
            refine pre13 t ?_
            show Steps p.tables e below (T11.setTop (mkF m 37 #[.val (.ref a1), .val (.int (0 : Int32)), .val (.int (1 : Int32)), .val (.int (Int32.ofNat x)), .val (.int (Int32.ofNat y)), .val (.int r)] [(.int (fR y)), (.int (fR x))])) _
            refine XS.icmpYes X11.here hx rfl (pc0 := 37) (pc' := 58) rfl (hb hby own_d_prog_132_method_3_37) rfl (tlt hc14).1 (by decide) (by decide) ?_
            show Steps p.tables e below (T11.setTop (mkF m 58 #[.val (.ref a1), .val (.int (0 : Int32)), .val (.int (1 : Int32)), .val (.int (Int32.ofNat x)), .val (.int (Int32.ofNat y)), .val (.int r)] [])) _
            refine XS.aloadN X11.here hx rfl (hb hby own_d_prog_132_method_3_58) rfl rfl ?_
            show Steps p.tables e below (T11.setTop (mkF m 59 #[.val (.ref a1), .val (.int (0 : Int32)), .val (.int (1 : Int32)), .val (.int (Int32.ofNat x)), .val (.int (Int32.ofNat y)), .val (.int r)] [(.ref a1)])) _
            refine st15 _ ?_
            show Steps p.tables e below (T15.setTop (mkF m 62 #[.val (.ref a1), .val (.int (0 : Int32)), .val (.int (1 : Int32)), .val (.int (Int32.ofNat x)), .val (.int (Int32.ofNat y)), .val (.int r)] [(.ref bR)])) _
            refine XS.iload X15.here hx rfl (hb hby own_d_prog_132_method_3_62) rfl ?_
            show Steps p.tables e below (T15.setTop (mkF m 64 #[.val (.ref a1), .val (.int (0 : Int32)), .val (.int (1 : Int32)), .val (.int (Int32.ofNat x)), .val (.int (Int32.ofNat y)), .val (.int r)] [(.int (Int32.ofNat y)), (.ref bR)])) _
            refine X15.iaload hx (j := (Int32.ofNat y)) (v := (.int (fR y))) (by rw [e15]; exact Ar16.1) (State.isArrayOf_alike hZ.alike Ar16.2.1) Ar16.2.2 hin16 hat16 (g := (mkF m 64 #[.val (.ref a1), .val (.int (0 : Int32)), .val (.int (1 : Int32)), .val (.int (Int32.ofNat x)), .val (.int (Int32.ofNat y)), .val (.int r)] [(.int (Int32.ofNat y)), (.ref bR)])) rfl rfl (hb hby own_d_prog_132_method_3_64) _ ?_
            show Steps p.tables e below (T15.setTop (mkF m 65 #[.val (.ref a1), .val (.int (0 : Int32)), .val (.int (1 : Int32)), .val (.int (Int32.ofNat x)), .val (.int (Int32.ofNat y)), .val (.int r)] [(.int (fR y))])) _
            refine XS.istore X15.here hx rfl (hb hby own_d_prog_132_method_3_65) rfl (l' := #[.val (.ref a1), .val (.int (0 : Int32)), .val (.int (1 : Int32)), .val (.int (Int32.ofNat x)), .val (.int (Int32.ofNat y)), .val (.int (fR y))]) rfl ?_
            show Steps p.tables e below (T15.setTop (mkF m 67 #[.val (.ref a1), .val (.int (0 : Int32)), .val (.int (1 : Int32)), .val (.int (Int32.ofNat x)), .val (.int (Int32.ofNat y)), .val (.int (fR y))] [])) _
            refine XS.aloadN X15.here hx rfl (hb hby own_d_prog_132_method_3_67) rfl rfl ?_
            show Steps p.tables e below (T15.setTop (mkF m 68 #[.val (.ref a1), .val (.int (0 : Int32)), .val (.int (1 : Int32)), .val (.int (Int32.ofNat x)), .val (.int (Int32.ofNat y)), .val (.int (fR y))] [(.ref a1)])) _
            refine st17 _ ?_
            show Steps p.tables e below (T17.setTop (mkF m 71 #[.val (.ref a1), .val (.int (0 : Int32)), .val (.int (1 : Int32)), .val (.int (Int32.ofNat x)), .val (.int (Int32.ofNat y)), .val (.int (fR y))] [(.ref bP)])) _
            refine XS.iload X17.here hx rfl (hb hby own_d_prog_132_method_3_71) rfl ?_
            show Steps p.tables e below (T17.setTop (mkF m 73 #[.val (.ref a1), .val (.int (0 : Int32)), .val (.int (1 : Int32)), .val (.int (Int32.ofNat x)), .val (.int (Int32.ofNat y)), .val (.int (fR y))] [(.int (Int32.ofNat y)), (.ref bP)])) _
            refine X17.iaload hx (j := (Int32.ofNat y)) (v := (.int (fP y))) (by rw [e17]; exact Ar18.1) (State.isArrayOf_alike hZ.alike Ar18.2.1) Ar18.2.2 hin18 hat18 (g := (mkF m 73 #[.val (.ref a1), .val (.int (0 : Int32)), .val (.int (1 : Int32)), .val (.int (Int32.ofNat x)), .val (.int (Int32.ofNat y)), .val (.int (fR y))] [(.int (Int32.ofNat y)), (.ref bP)])) rfl rfl (hb hby own_d_prog_132_method_3_73) _ ?_
            show Steps p.tables e below (T17.setTop (mkF m 74 #[.val (.ref a1), .val (.int (0 : Int32)), .val (.int (1 : Int32)), .val (.int (Int32.ofNat x)), .val (.int (Int32.ofNat y)), .val (.int (fR y))] [(.int (fP y))])) _
            refine XS.istore X17.here hx rfl (hb hby own_d_prog_132_method_3_74) rfl (l' := #[.val (.ref a1), .val (.int (0 : Int32)), .val (.int (1 : Int32)), .val (.int (Int32.ofNat x)), .val (.int (fP y)), .val (.int (fR y))]) rfl ?_
            show Steps p.tables e below (T17.setTop (mkF m 76 #[.val (.ref a1), .val (.int (0 : Int32)), .val (.int (1 : Int32)), .val (.int (Int32.ofNat x)), .val (.int (fP y)), .val (.int (fR y))] [])) _
            refine XS.goto X17.here hx rfl (pc0 := 76) (pc' := 18) rfl (hb hby own_d_prog_132_method_3_76) (by decide) (by decide) ?_
            exact kt
          have ne : ¬ x = y := fun q => hc7 (by rw [q])
          have v0 := own_y0 hT lx hc14
          have lv := (hT.2.2.2 y v0 ly).1
          have eb : Int32.ofNat (fP y).toNatClampNeg = fP y := own_back (hT.2.2.1 y ly)
          obtain ⟨T', u, w, X', e', st'⟩ := ih x (fP y).toNatClampNeg (fR y) T17 X17 e17 (by omega) (by omega) (by omega)
          rw [eb] at st'
          refine ⟨T', u, w, X', e', fun t kt => pre19 t (st' t ?_)⟩
          rw [show own_sep fP fR (k + 1) x y r = own_sep fP fR k x (fP y).toNatClampNeg (fR y) by simp [own_sep, ne, hc14]] at kt
          exact kt
        · obtain ⟨T20, X20, e20, st20⟩ := getF X11 hx hZ hown (host := "") (Or.inl (hw _ (List.mem_of_getElem? (i := 15) rfl))) Via.refl e11 F3 (g := (mkF m 41 #[.val (.ref a1), .val (.int (0 : Int32)), .val (.int (1 : Int32)), .val (.int (Int32.ofNat x)), .val (.int (Int32.ofNat y)), .val (.int r)] [(.ref a1)])) rfl rfl (hb hby own_d_prog_132_method_3_41)
          obtain ⟨cl21, Ar21, S21, H21⟩ := id AR
          have hin21 : ¬ ((Int32.ofNat x) < 0 ∨ cl21.slots.size ≤ ((Int32.ofNat x)).toNatClampNeg) := own_inb S21 (own_of0 (by omega)) (by rw [own_ofN (by omega)]; omega)
          have hat21 : cl21.slots[((Int32.ofNat x)).toNatClampNeg]? = some (.int (fR x)) := (by rw [own_ofN (by omega)]; exact H21 x (by omega))
          obtain ⟨T22, X22, e22, st22⟩ := getF X20 hx hZ hown (host := "") (Or.inl (hw _ (List.mem_of_getElem? (i := 13) rfl))) Via.refl e20 F2 (g := (mkF m 49 #[.val (.ref a1), .val (.int (0 : Int32)), .val (.int (1 : Int32)), .val (.int (Int32.ofNat x)), .val (.int (Int32.ofNat y)), .val (.int (fR x))] [(.ref a1)])) rfl rfl (hb hby own_d_prog_132_method_3_49)
          obtain ⟨cl23, Ar23, S23, H23⟩ := id AP
          have hin23 : ¬ ((Int32.ofNat x) < 0 ∨ cl23.slots.size ≤ ((Int32.ofNat x)).toNatClampNeg) := own_inb S23 (own_of0 (by omega)) (by rw [own_ofN (by omega)]; omega)
          have hat23 : cl23.slots[((Int32.ofNat x)).toNatClampNeg]? = some (.int (fP x)) := (by rw [own_ofN (by omega)]; exact H23 x (by omega))
          have pre24 : ∀ t, Steps p.tables e below (T22.setTop (mkF m 18 #[.val (.ref a1), .val (.int (0 : Int32)), .val (.int (1 : Int32)), .val (.int (fP x)), .val (.int (Int32.ofNat y)), .val (.int (fR x))] [])) t → Steps p.tables e below (Tt.setTop (mkF m 18 #[.val (.ref a1), .val (.int (0 : Int32)), .val (.int (1 : Int32)), .val (.int (Int32.ofNat x)), .val (.int (Int32.ofNat y)), .val (.int r)] [])) t := by
            intro t kt
            refine pre13 t ?_
            show Steps p.tables e below (T11.setTop (mkF m 37 #[.val (.ref a1), .val (.int (0 : Int32)), .val (.int (1 : Int32)), .val (.int (Int32.ofNat x)), .val (.int (Int32.ofNat y)), .val (.int r)] [(.int (fR y)), (.int (fR x))])) _
            refine XS.icmpNo X11.here hx rfl (hb hby own_d_prog_132_method_3_37) rfl (flt hc14).1 ?_
            show Steps p.tables e below (T11.setTop (mkF m 40 #[.val (.ref a1), .val (.int (0 : Int32)), .val (.int (1 : Int32)), .val (.int (Int32.ofNat x)), .val (.int (Int32.ofNat y)), .val (.int r)] [])) _
            refine XS.aloadN X11.here hx rfl (hb hby own_d_prog_132_method_3_40) rfl rfl ?_
            show Steps p.tables e below (T11.setTop (mkF m 41 #[.val (.ref a1), .val (.int (0 : Int32)), .val (.int (1 : Int32)), .val (.int (Int32.ofNat x)), .val (.int (Int32.ofNat y)), .val (.int r)] [(.ref a1)])) _
            refine st20 _ ?_
            show Steps p.tables e below (T20.setTop (mkF m 44 #[.val (.ref a1), .val (.int (0 : Int32)), .val (.int (1 : Int32)), .val (.int (Int32.ofNat x)), .val (.int (Int32.ofNat y)), .val (.int r)] [(.ref bR)])) _
            refine XS.iloadN X20.here hx rfl (hb hby own_d_prog_132_method_3_44) rfl ?_
            show Steps p.tables e below (T20.setTop (mkF m 45 #[.val (.ref a1), .val (.int (0 : Int32)), .val (.int (1 : Int32)), .val (.int (Int32.ofNat x)), .val (.int (Int32.ofNat y)), .val (.int r)] [(.int (Int32.ofNat x)), (.ref bR)])) _
            refine X20.iaload hx (j := (Int32.ofNat x)) (v := (.int (fR x))) (by rw [e20]; exact Ar21.1) (State.isArrayOf_alike hZ.alike Ar21.2.1) Ar21.2.2 hin21 hat21 (g := (mkF m 45 #[.val (.ref a1), .val (.int (0 : Int32)), .val (.int (1 : Int32)), .val (.int (Int32.ofNat x)), .val (.int (Int32.ofNat y)), .val (.int r)] [(.int (Int32.ofNat x)), (.ref bR)])) rfl rfl (hb hby own_d_prog_132_method_3_45) _ ?_
            show Steps p.tables e below (T20.setTop (mkF m 46 #[.val (.ref a1), .val (.int (0 : Int32)), .val (.int (1 : Int32)), .val (.int (Int32.ofNat x)), .val (.int (Int32.ofNat y)), .val (.int r)] [(.int (fR x))])) _
            refine XS.istore X20.here hx rfl (hb hby own_d_prog_132_method_3_46) rfl (l' := #[.val (.ref a1), .val (.int (0 : Int32)), .val (.int (1 : Int32)), .val (.int (Int32.ofNat x)), .val (.int (Int32.ofNat y)), .val (.int (fR x))]) rfl ?_
            show Steps p.tables e below (T20.setTop (mkF m 48 #[.val (.ref a1), .val (.int (0 : Int32)), .val (.int (1 : Int32)), .val (.int (Int32.ofNat x)), .val (.int (Int32.ofNat y)), .val (.int (fR x))] [])) _
            refine XS.aloadN X20.here hx rfl (hb hby own_d_prog_132_method_3_48) rfl rfl ?_
            show Steps p.tables e below (T20.setTop (mkF m 49 #[.val (.ref a1), .val (.int (0 : Int32)), .val (.int (1 : Int32)), .val (.int (Int32.ofNat x)), .val (.int (Int32.ofNat y)), .val (.int (fR x))] [(.ref a1)])) _
            refine st22 _ ?_
            show Steps p.tables e below (T22.setTop (mkF m 52 #[.val (.ref a1), .val (.int (0 : Int32)), .val (.int (1 : Int32)), .val (.int (Int32.ofNat x)), .val (.int (Int32.ofNat y)), .val (.int (fR x))] [(.ref bP)])) _
            refine XS.iloadN X22.here hx rfl (hb hby own_d_prog_132_method_3_52) rfl ?_
            show Steps p.tables e below (T22.setTop (mkF m 53 #[.val (.ref a1), .val (.int (0 : Int32)), .val (.int (1 : Int32)), .val (.int (Int32.ofNat x)), .val (.int (Int32.ofNat y)), .val (.int (fR x))] [(.int (Int32.ofNat x)), (.ref bP)])) _
            refine X22.iaload hx (j := (Int32.ofNat x)) (v := (.int (fP x))) (by rw [e22]; exact Ar23.1) (State.isArrayOf_alike hZ.alike Ar23.2.1) Ar23.2.2 hin23 hat23 (g := (mkF m 53 #[.val (.ref a1), .val (.int (0 : Int32)), .val (.int (1 : Int32)), .val (.int (Int32.ofNat x)), .val (.int (Int32.ofNat y)), .val (.int (fR x))] [(.int (Int32.ofNat x)), (.ref bP)])) rfl rfl (hb hby own_d_prog_132_method_3_53) _ ?_
            show Steps p.tables e below (T22.setTop (mkF m 54 #[.val (.ref a1), .val (.int (0 : Int32)), .val (.int (1 : Int32)), .val (.int (Int32.ofNat x)), .val (.int (Int32.ofNat y)), .val (.int (fR x))] [(.int (fP x))])) _
            refine XS.istoreN X22.here hx rfl (hb hby own_d_prog_132_method_3_54) rfl (l' := #[.val (.ref a1), .val (.int (0 : Int32)), .val (.int (1 : Int32)), .val (.int (fP x)), .val (.int (Int32.ofNat y)), .val (.int (fR x))]) rfl ?_
            show Steps p.tables e below (T22.setTop (mkF m 55 #[.val (.ref a1), .val (.int (0 : Int32)), .val (.int (1 : Int32)), .val (.int (fP x)), .val (.int (Int32.ofNat y)), .val (.int (fR x))] [])) _
            refine XS.goto X22.here hx rfl (pc0 := 55) (pc' := 18) rfl (hb hby own_d_prog_132_method_3_55) (by decide) (by decide) ?_
            exact kt
          have ne : ¬ x = y := fun q => hc7 (by rw [q])
          have v0 := own_x0 hT ly ne hc14
          have lv := (hT.2.2.2 x v0 lx).1
          have eb : Int32.ofNat (fP x).toNatClampNeg = fP x := own_back (hT.2.2.1 x lx)
          obtain ⟨T', u, w, X', e', st'⟩ := ih (fP x).toNatClampNeg y (fR x) T22 X22 e22 (by omega) (by omega) (by omega)
          rw [eb] at st'
          refine ⟨T', u, w, X', e', fun t kt => pre24 t (st' t ?_)⟩
          rw [show own_sep fP fR (k + 1) x y r = own_sep fP fR k (fP x).toNatClampNeg y (fR x) by simp [own_sep, ne, hc14]] at kt
          exact kt
  obtain ⟨T25, u25, w25, X25, e25, st25⟩ := loop 9 x_ y_ 0 T3 X3 e3 (by omega) hx5 hy5
  have pre26 : ∀ t, Steps p.tables e below (T25.setTop (mkF m 81 #[.val (.ref a1), .val (.int (0 : Int32)), .val (.int (1 : Int32)), .val (.int u25), .val (.int w25), .val (.int (own_sep fP fR 9 x_ y_ 0))] [(.int (own_sep fP fR 9 x_ y_ 0))])) t → Steps p.tables e below (s₁.setTop (entryFrame m #[(.ref a1), (.int (0 : Int32)), (.int (1 : Int32))] 6)) t := by
    intro t kt
    refine pre5 t ?_
    show Steps p.tables e below (T3.setTop (mkF m 18 #[.val (.ref a1), .val (.int (0 : Int32)), .val (.int (1 : Int32)), .val (.int (Int32.ofNat x_)), .val (.int (Int32.ofNat y_)), .val (.int (0 : Int32))] [])) _
    refine st25 _ ?_
    show Steps p.tables e below (T25.setTop (mkF m 79 #[.val (.ref a1), .val (.int (0 : Int32)), .val (.int (1 : Int32)), .val (.int u25), .val (.int w25), .val (.int (own_sep fP fR 9 x_ y_ 0))] [])) _
    refine XS.iload X25.here hx rfl (hb hby own_d_prog_132_method_3_79) rfl ?_
    exact kt
  obtain ⟨fs, hr, hrun, hended, hW, hsame⟩ := X25.leave (v := some (.int (own_sep fP fR 9 x_ y_ 0))) (fun h => by rw [Bd.returns] at h; cases h)
  refine ⟨_, _, pre26 _ ?_, hrun, hended, _, _, rfl, ?_, ⟨_, rfl⟩, hW, hsame.mono (by decide) (by decide)⟩
  · show Steps p.tables e below (T25.setTop (mkF m 81 #[.val (.ref a1), .val (.int (0 : Int32)), .val (.int (1 : Int32)), .val (.int u25), .val (.int w25), .val (.int (own_sep fP fR 9 x_ y_ 0))] [(.int (own_sep fP fR 9 x_ y_ 0))])) _
    exact retI X25 hx Bd.returns (hb hby own_d_prog_132_method_3_81) hr
  · show own_Q_sep Z a1 bB bP bR fB fP fR x_ y_ h0 n0 (some (.int (own_sep fP fR 9 x_ y_ 0))) T25.heap _
    rw [e25]
    exact ⟨rfl, N0, rfl⟩
def own_q2 (s : Int32) : Int32 := s &&& (1 : Int32)
def own_q3 (s : Int32) : Int32 := (((s.toUInt32 >>> ((1 : Int32) &&& 31).toUInt32).toInt32) &&& (3 : Int32)) % (3 : Int32)
def own_q4 (s : Int32) : Int32 := ((s.toUInt32 >>> ((3 : Int32) &&& 31).toUInt32).toInt32) &&& (3 : Int32)
def own_s1 (i : Int32) : Int32 := (1 : Int32) + (i &&& (3 : Int32))
def own_s2 (s i : Int32) : Int32 := (own_v5 (0 : Int32) (own_s1 i) (0 : Int32) (0 : Int32) (0 : Int32) (own_q2 s).toNatClampNeg + (1 : Int32)) + (((i.toUInt32 >>> ((2 : Int32) &&& 31).toUInt32).toInt32) &&& (3 : Int32))
def own_s3 (s i : Int32) : Int32 := (own_v5 (0 : Int32) (own_s1 i) (own_s2 s i) (0 : Int32) (0 : Int32) (own_q3 s).toNatClampNeg + (1 : Int32)) + (((i.toUInt32 >>> ((4 : Int32) &&& 31).toUInt32).toInt32) &&& (3 : Int32))
def own_s4 (s i : Int32) : Int32 := (own_v5 (0 : Int32) (own_s1 i) (own_s2 s i) (own_s3 s i) (0 : Int32) (own_q4 s).toNatClampNeg + (1 : Int32)) + (((i.toUInt32 >>> ((6 : Int32) &&& 31).toUInt32).toInt32) &&& (3 : Int32))
theorem own_m3 (a : Int32) : 0 ≤ (a &&& (3 : Int32)).toInt ∧ (a &&& (3 : Int32)).toInt ≤ 3 := c_and a 3 (by decide)
theorem own_q2r (a : Int32) : 0 ≤ (own_q2 a).toInt ∧ (own_q2 a).toInt ≤ 1 := c_and _ 1 (by decide)
theorem own_q3r (b : Int32) : 0 ≤ (own_q3 b).toInt ∧ (own_q3 b).toInt ≤ 2 := by
  have q := own_m3 (((b.toUInt32 >>> ((1 : Int32) &&& 31).toUInt32).toInt32))
  have r := (c_irem (((b.toUInt32 >>> ((1 : Int32) &&& 31).toUInt32).toInt32) &&& 3) 3 3 rfl).1 q.1
  unfold own_q3; rw [r]; omega
theorem own_q4r (a : Int32) : 0 ≤ (own_q4 a).toInt ∧ (own_q4 a).toInt ≤ 3 := own_m3 _
theorem own_up (x a : Int32) (h0 : 0 ≤ x.toInt) (h1 : x.toInt ≤ 1000) : ((x + (1 : Int32)) + (a &&& (3 : Int32))).toInt = x.toInt + 1 + (a &&& (3 : Int32)).toInt := by
  have q := own_m3 a
  have e1 := c_iadd x 1
  have e2 := c_iadd (x + 1) (a &&& 3)
  have b1 := Int32.le_toInt (x + 1); have b2 := Int32.toInt_lt (x + 1)
  have b3 := Int32.le_toInt ((x + 1) + (a &&& 3)); have b4 := Int32.toInt_lt ((x + 1) + (a &&& 3))
  have : (1 : Int32).toInt = 1 := rfl
  omega
theorem own_s1r (a : Int32) : 1 ≤ (own_s1 a).toInt ∧ (own_s1 a).toInt ≤ 4 := by
  have q := own_m3 a
  have e2 := c_iadd 1 (a &&& 3)
  have b3 := Int32.le_toInt ((1 : Int32) + (a &&& 3)); have b4 := Int32.toInt_lt ((1 : Int32) + (a &&& 3))
  have : (1 : Int32).toInt = 1 := rfl
  unfold own_s1; omega
theorem own_one {x v i : Int32} {B : Int} (hv : v = (x + 1) + (i &&& 3)) (h0 : 0 ≤ x.toInt) (h1 : x.toInt ≤ B) (hB : B ≤ 1000) : 1 ≤ v.toInt ∧ v.toInt ≤ B + 4 ∧ x.toInt < v.toInt := by
  have e := own_up x i h0 (by omega)
  have q := own_m3 i
  rw [hv, e]; omega
theorem own_mktree (s i : Int32) : own_tree 5 (own_v5 (0 : Int32) (0 : Int32) (own_q2 s) (own_q3 s) (own_q4 s)) (own_v5 (0 : Int32) (own_s1 i) (own_s2 s i) (own_s3 s i) (own_s4 s i)) := by
  have h1 := own_s1r i
  have hp2 := own_q2r s
  have hp3 := own_q3r s
  have hp4 := own_q4r s
  have n2 : (own_q2 s).toNatClampNeg = 0 ∨ (own_q2 s).toNatClampNeg = 1 := by simp only [Int32.toNatClampNeg]; omega
  have n3 : (own_q3 s).toNatClampNeg = 0 ∨ (own_q3 s).toNatClampNeg = 1 ∨ (own_q3 s).toNatClampNeg = 2 := by simp only [Int32.toNatClampNeg]; omega
  have n4 : (own_q4 s).toNatClampNeg = 0 ∨ (own_q4 s).toNatClampNeg = 1 ∨ (own_q4 s).toNatClampNeg = 2 ∨ (own_q4 s).toNatClampNeg = 3 := by simp only [Int32.toNatClampNeg]; omega
  have r2 : 1 ≤ (own_s2 s i).toInt ∧ (own_s2 s i).toInt ≤ 8 ∧ (own_v5 (0 : Int32) (own_s1 i) (own_s2 s i) (own_s3 s i) (own_s4 s i) (own_q2 s).toNatClampNeg).toInt < (own_s2 s i).toInt := by
    rcases n2 with n | n
    · rw [n]; exact own_one (x := 0) (B := 4) (by unfold own_s2; rw [n]; rfl) (by decide) (by decide) (by decide)
    · rw [n]; exact own_one (x := own_s1 i) (B := 4) (by unfold own_s2; rw [n]; rfl) (by omega) h1.2 (by decide)
  have r3 : 1 ≤ (own_s3 s i).toInt ∧ (own_s3 s i).toInt ≤ 12 ∧ (own_v5 (0 : Int32) (own_s1 i) (own_s2 s i) (own_s3 s i) (own_s4 s i) (own_q3 s).toNatClampNeg).toInt < (own_s3 s i).toInt := by
    rcases n3 with n | n | n
    · rw [n]; exact own_one (x := 0) (B := 8) (by unfold own_s3; rw [n]; rfl) (by decide) (by decide) (by decide)
    · rw [n]; exact own_one (x := own_s1 i) (B := 8) (by unfold own_s3; rw [n]; rfl) (by omega) (by omega) (by decide)
    · rw [n]; exact own_one (x := own_s2 s i) (B := 8) (by unfold own_s3; rw [n]; rfl) (by omega) r2.2.1 (by decide)
  have r4 : 1 ≤ (own_s4 s i).toInt ∧ (own_s4 s i).toInt ≤ 16 ∧ (own_v5 (0 : Int32) (own_s1 i) (own_s2 s i) (own_s3 s i) (own_s4 s i) (own_q4 s).toNatClampNeg).toInt < (own_s4 s i).toInt := by
    rcases n4 with n | n | n | n
    · rw [n]; exact own_one (x := 0) (B := 12) (by unfold own_s4; rw [n]; rfl) (by decide) (by decide) (by decide)
    · rw [n]; exact own_one (x := own_s1 i) (B := 12) (by unfold own_s4; rw [n]; rfl) (by omega) (by omega) (by decide)
    · rw [n]; exact own_one (x := own_s2 s i) (B := 12) (by unfold own_s4; rw [n]; rfl) (by omega) (by omega) (by decide)
    · rw [n]; exact own_one (x := own_s3 s i) (B := 12) (by unfold own_s4; rw [n]; rfl) (by omega) r3.2.1 (by decide)
  refine ⟨rfl, rfl, fun x hx => ?_, fun x h0 hx => ?_⟩
  · rcases x with _ | _ | _ | _ | _ | x
    · show ¬ (0 : Int32) < 0; decide
    · show ¬ (0 : Int32) < 0; decide
    · exact own_nn hp2.1
    · exact own_nn hp3.1
    · exact own_nn hp4.1
    · omega
  · rcases x with _ | _ | _ | _ | _ | x
    · omega
    · exact ⟨by show (0 : Int32).toNatClampNeg < 1; decide, by show (0 : Int32).toInt < (own_s1 i).toInt; rw [own_z]; omega, by show 0 < (own_s1 i).toInt; omega⟩
    · exact ⟨by show (own_q2 s).toNatClampNeg < 2; omega, r2.2.2, by show 0 < (own_s2 s i).toInt; omega⟩
    · exact ⟨by show (own_q3 s).toNatClampNeg < 3; omega, r3.2.2, by show 0 < (own_s3 s i).toInt; omega⟩
    · exact ⟨by show (own_q4 s).toNatClampNeg < 4; omega, r4.2.2, by show 0 < (own_s4 s i).toInt; omega⟩
    · omega
def own_b (a : Int32) : Int32 := (a &&& (2147483647 : Int32)) % (5 : Int32)
theorem own_br (a : Int32) : ∃ s : Nat, own_b a = Int32.ofNat s ∧ s < 5 := by
  have q := (c_and a 2147483647 (by decide)).1
  have r := (c_irem (a &&& 2147483647) 5 5 rfl).1 q
  have r' : (own_b a).toInt = (a &&& 2147483647).toInt % 5 := r
  exact ⟨(own_b a).toNatClampNeg, (own_back (own_nn (by omega))).symm, own_tn (by omega) (by decide)⟩
theorem own_pd2 : parseMethodDescriptor "([I[I[I)V" = some ⟨[(.array .int), (.array .int), (.array .int)], none⟩ := by decide +kernel
theorem own_pd3 : parseMethodDescriptor "(IIII[I[I)I" = some ⟨[.int, .int, .int, .int, (.array .int), (.array .int)], some .int⟩ := by decide +kernel
theorem own_ef_law (m : MethodId) (p0 : Int32) (p1 : Int32) (p2 : Int32) (p3 : Int32) : entryFrame m #[(.int p0), (.int p1), (.int p2), (.int p3)] maxLocals = mkF m 0 #[.val (.int p0), .val (.int p1), .val (.int p2), .val (.int p3), .unset, .unset, .unset, .unset, .unset, .unset, .unset, .unset] [] := by first | (simp [entryFrame, mkF, argsToLocals, Value.category, maxLocals]; done) | rfl
def own_Q_law (Z : State) (p0 : Int32) (p1 : Int32) (p2 : Int32) (p3 : Int32) (h0 : Heap) (n0 : Nat) (v : Option Value) (h : Heap) (L : List Loc) : Prop := v = some (.int 1) ∧ Fr n0 L
set_option maxRecDepth 65536 in
set_option maxHeartbeats 40000000 in
theorem own_rm_law (l : Launch) (Z : State) (a0 : Array Value) (hw : ∀ d ∈ tables_1, d.before a0 Z = true) (ws : List Jvm.Cond) (p0 : Int32) (p1 : Int32) (p2 : Int32) (p3 : Int32) (h0 : Heap) (n0 : Nat) (Z0 : n0 ≤ h0.size) :
    MetFree l x (head1 (Jvm.Cond.code x code maxLocals ret :: ws) room_1) (fun a U => a = #[(.int p0), (.int p1), (.int p2), (.int p3)] ∧ Z.Warmed39 U.vm ∧ U.heap = h0) (fun _ _ _ _ _ => True) (fun _ U o U' => ∃ v L, o = .returned v ∧ own_Q_law Z p0 p1 p2 p3 h0 n0 v U'.heap L ∧ FrameEnd U o U' L room_1.cells room_1.slots) := by
  refine MetFree.of_bodySF (plainFor_of_name own_pn1) hisR ?_
  intro p e s m args below meth c s₁ Bd hml0 hP hK
  obtain ⟨rfl, hZ, hh⟩ := hP
  have hx := Bd.exec
  have hby := Bd.bytes
  have hml : c.maxLocals = 12 := hml0
  have hown : s.vm.findClass "com/example/unfold/unfold/reduction/SplittingSeparationPinLaw" = some m.cls := findClass_of_methodNamed Bd.named
  have hnm := (name_of_methodNamed Bd.named Bd.method).1
  have X0 : Stand p l e room_1 s m #[(.int p0), (.int p1), (.int p2), (.int p3)] below meth c s₁ [] 0 0 := Stand.of_body Bd
  have e0 : s₁.heap = h0 := by rw [← hh, Bd.state]; rfl
  have N0 := Fr.nil n0
  have K0 : Keep h0 h0 [] := Keep.refl _ _
  have pre0 : ∀ t, Steps p.tables e below (s₁.setTop (mkF m 0 #[.val (.int p0), .val (.int p1), .val (.int p2), .val (.int p3), .unset, .unset, .unset, .unset, .unset, .unset, .unset, .unset] [])) t → Steps p.tables e below (s₁.setTop (entryFrame m #[(.int p0), (.int p1), (.int p2), (.int p3)] maxLocals)) t := fun t k => castTop (own_ef_law m p0 p1 p2 p3) k
  obtain ⟨T1, h1, k1, X1, e1, E1, A1, I1, st1⟩ := newPE X0 hx hZ (hw _ (List.mem_of_getElem? (i := 0) rfl)) e0 (g := (mkF m 1 #[.val (.int p0), .val (.int p1), .val (.int p2), .val (.int p3), .unset, .unset, .unset, .unset, .unset, .unset, .unset, .unset] [(.int (5 : Int32))])) rfl (hb hby at_1) rfl (by decide) (cap := 5) (by decide) (by decide) (by decide) (by decide) (ad := "[I") rfl
  obtain ⟨b1, g1⟩ : ∃ z, z = h0.size := ⟨_, rfl⟩
  rw [← g1] at A1 I1 st1
  have sz_b1 : h0.size ≤ b1 := Nat.le_trans K0.1 (Nat.le_of_eq g1.symm)
  have gn_b1 : n0 ≤ b1 := Nat.le_trans Z0 sz_b1
  have k2 := K0.ext E1
  have f3 : own_A Z h1 b1 5 (own_v5 (0 : Int32) (0 : Int32) (0 : Int32) (0 : Int32) (0 : Int32)) := (own_A.new A1 rfl).congr (fun j hj => by rcases j with _ | _ | _ | _ | _ | j <;> first | rfl | (simp [own_upd]; done) | omega)
  obtain ⟨cl4, Ar4, S4, H4⟩ := id f3
  have hin4 : ¬ ((0 : Int32) < 0 ∨ cl4.slots.size ≤ ((0 : Int32)).toNatClampNeg) := own_inb S4 (by decide) (by decide)
  obtain ⟨T5, h5, X5, e5, W5, st5⟩ := stI X1 hx hZ e1 Ar4 (j := (0 : Int32)) hin4 (g := (mkF m 9 #[.val (.int p0), .val (.int p1), .val (.int p2), .val (.int p3), .val (.ref b1), .unset, .unset, .unset, .unset, .unset, .unset, .unset] [(.int (0 : Int32)), (.int (0 : Int32)), (.ref b1)])) rfl rfl (hb hby at_9)
  have f6 := I1.wr W5
  have k8 := k2.wr W5 (Or.inr sz_b1)
  have nf9 := Fr.snoc X5 N0 gn_b1
  have f10 := f3.set W5
  have f11 : own_A Z h5 b1 5 (own_v5 (0 : Int32) (0 : Int32) (0 : Int32) (0 : Int32) (0 : Int32)) := f10.congr (fun j hj => by rcases j with _ | _ | _ | _ | _ | j <;> first | rfl | (simp [own_upd]; done) | omega)
  obtain ⟨cl12, Ar12, S12, H12⟩ := id f11
  have hin12 : ¬ ((1 : Int32) < 0 ∨ cl12.slots.size ≤ ((1 : Int32)).toNatClampNeg) := own_inb S12 (by decide) (by decide)
  obtain ⟨T13, h13, X13, e13, W13, st13⟩ := stI X5 hx hZ e5 Ar12 (j := (1 : Int32)) hin12 (g := (mkF m 14 #[.val (.int p0), .val (.int p1), .val (.int p2), .val (.int p3), .val (.ref b1), .unset, .unset, .unset, .unset, .unset, .unset, .unset] [(.int (0 : Int32)), (.int (1 : Int32)), (.ref b1)])) rfl rfl (hb hby at_14)
  have f14 := f6.wr W13
  have k16 := k8.wr W13 (Or.inr sz_b1)
  have nf17 := Fr.snoc X13 nf9 gn_b1
  have f18 := f11.set W13
  have f19 : own_A Z h13 b1 5 (own_v5 (0 : Int32) (0 : Int32) (0 : Int32) (0 : Int32) (0 : Int32)) := f18.congr (fun j hj => by rcases j with _ | _ | _ | _ | _ | j <;> first | rfl | (simp [own_upd]; done) | omega)
  have pre20 : ∀ t, Steps p.tables e below (T13.setTop (mkF m 17 #[.val (.int p0), .val (.int p1), .val (.int p2), .val (.int p3), .val (.ref b1), .unset, .unset, .unset, .unset, .unset, .unset, .unset] [(.ref b1)])) t → Steps p.tables e below (s₁.setTop (entryFrame m #[(.int p0), (.int p1), (.int p2), (.int p3)] maxLocals)) t := by
    intro t kt
    refine pre0 t ?_
    show Steps p.tables e below (s₁.setTop (mkF m 0 #[.val (.int p0), .val (.int p1), .val (.int p2), .val (.int p3), .unset, .unset, .unset, .unset, .unset, .unset, .unset, .unset] [])) _
    refine XS.iconst X0.here hx rfl (hb hby at_0) ?_
    show Steps p.tables e below (s₁.setTop (mkF m 1 #[.val (.int p0), .val (.int p1), .val (.int p2), .val (.int p3), .unset, .unset, .unset, .unset, .unset, .unset, .unset, .unset] [(.int (5 : Int32))])) _
    refine st1 _ ?_
    show Steps p.tables e below (T1.setTop (mkF m 3 #[.val (.int p0), .val (.int p1), .val (.int p2), .val (.int p3), .unset, .unset, .unset, .unset, .unset, .unset, .unset, .unset] [(.ref b1)])) _
    refine XS.astore X1.here hx rfl (hb hby at_3) rfl rfl (l' := #[.val (.int p0), .val (.int p1), .val (.int p2), .val (.int p3), .val (.ref b1), .unset, .unset, .unset, .unset, .unset, .unset, .unset]) rfl ?_
    show Steps p.tables e below (T1.setTop (mkF m 5 #[.val (.int p0), .val (.int p1), .val (.int p2), .val (.int p3), .val (.ref b1), .unset, .unset, .unset, .unset, .unset, .unset, .unset] [])) _
    refine XS.aload X1.here hx rfl (hb hby at_5) rfl rfl ?_
    show Steps p.tables e below (T1.setTop (mkF m 7 #[.val (.int p0), .val (.int p1), .val (.int p2), .val (.int p3), .val (.ref b1), .unset, .unset, .unset, .unset, .unset, .unset, .unset] [(.ref b1)])) _
    refine XS.iconst X1.here hx rfl (hb hby at_7) ?_
    show Steps p.tables e below (T1.setTop (mkF m 8 #[.val (.int p0), .val (.int p1), .val (.int p2), .val (.int p3), .val (.ref b1), .unset, .unset, .unset, .unset, .unset, .unset, .unset] [(.int (0 : Int32)), (.ref b1)])) _
    refine XS.iconst X1.here hx rfl (hb hby at_8) ?_
    show Steps p.tables e below (T1.setTop (mkF m 9 #[.val (.int p0), .val (.int p1), .val (.int p2), .val (.int p3), .val (.ref b1), .unset, .unset, .unset, .unset, .unset, .unset, .unset] [(.int (0 : Int32)), (.int (0 : Int32)), (.ref b1)])) _
    refine st5 _ ?_
    show Steps p.tables e below (T5.setTop (mkF m 10 #[.val (.int p0), .val (.int p1), .val (.int p2), .val (.int p3), .val (.ref b1), .unset, .unset, .unset, .unset, .unset, .unset, .unset] [])) _
    refine XS.aload X5.here hx rfl (hb hby at_10) rfl rfl ?_
    show Steps p.tables e below (T5.setTop (mkF m 12 #[.val (.int p0), .val (.int p1), .val (.int p2), .val (.int p3), .val (.ref b1), .unset, .unset, .unset, .unset, .unset, .unset, .unset] [(.ref b1)])) _
    refine XS.iconst X5.here hx rfl (hb hby at_12) ?_
    show Steps p.tables e below (T5.setTop (mkF m 13 #[.val (.int p0), .val (.int p1), .val (.int p2), .val (.int p3), .val (.ref b1), .unset, .unset, .unset, .unset, .unset, .unset, .unset] [(.int (1 : Int32)), (.ref b1)])) _
    refine XS.iconst X5.here hx rfl (hb hby at_13) ?_
    show Steps p.tables e below (T5.setTop (mkF m 14 #[.val (.int p0), .val (.int p1), .val (.int p2), .val (.int p3), .val (.ref b1), .unset, .unset, .unset, .unset, .unset, .unset, .unset] [(.int (0 : Int32)), (.int (1 : Int32)), (.ref b1)])) _
    refine st13 _ ?_
    show Steps p.tables e below (T13.setTop (mkF m 15 #[.val (.int p0), .val (.int p1), .val (.int p2), .val (.int p3), .val (.ref b1), .unset, .unset, .unset, .unset, .unset, .unset, .unset] [])) _
    refine XS.aload X13.here hx rfl (hb hby at_15) rfl rfl ?_
    exact kt
  have pre21 : ∀ t, Steps p.tables e below (T13.setTop (mkF m 21 #[.val (.int p0), .val (.int p1), .val (.int p2), .val (.int p3), .val (.ref b1), .unset, .unset, .unset, .unset, .unset, .unset, .unset] [(.int (p2 &&& (1 : Int32))), (.int (2 : Int32)), (.ref b1)])) t → Steps p.tables e below (s₁.setTop (entryFrame m #[(.int p0), (.int p1), (.int p2), (.int p3)] maxLocals)) t := by
    intro t kt
    refine pre20 t ?_
    show Steps p.tables e below (T13.setTop (mkF m 17 #[.val (.int p0), .val (.int p1), .val (.int p2), .val (.int p3), .val (.ref b1), .unset, .unset, .unset, .unset, .unset, .unset, .unset] [(.ref b1)])) _
    refine XS.iconst X13.here hx rfl (hb hby at_17) ?_
    show Steps p.tables e below (T13.setTop (mkF m 18 #[.val (.int p0), .val (.int p1), .val (.int p2), .val (.int p3), .val (.ref b1), .unset, .unset, .unset, .unset, .unset, .unset, .unset] [(.int (2 : Int32)), (.ref b1)])) _
    refine XS.iloadN X13.here hx rfl (hb hby at_18) rfl ?_
    show Steps p.tables e below (T13.setTop (mkF m 19 #[.val (.int p0), .val (.int p1), .val (.int p2), .val (.int p3), .val (.ref b1), .unset, .unset, .unset, .unset, .unset, .unset, .unset] [(.int p2), (.int (2 : Int32)), (.ref b1)])) _
    refine XS.iconst X13.here hx rfl (hb hby at_19) ?_
    show Steps p.tables e below (T13.setTop (mkF m 20 #[.val (.int p0), .val (.int p1), .val (.int p2), .val (.int p3), .val (.ref b1), .unset, .unset, .unset, .unset, .unset, .unset, .unset] [(.int (1 : Int32)), (.int p2), (.int (2 : Int32)), (.ref b1)])) _
    refine XS.iand X13.here hx rfl (hb hby at_20) rfl ?_
    exact kt
  obtain ⟨cl22, Ar22, S22, H22⟩ := id f19
  have hin22 : ¬ ((2 : Int32) < 0 ∨ cl22.slots.size ≤ ((2 : Int32)).toNatClampNeg) := own_inb S22 (by decide) (by decide)
  obtain ⟨T23, h23, X23, e23, W23, st23⟩ := stI X13 hx hZ e13 Ar22 (j := (2 : Int32)) hin22 (g := (mkF m 21 #[.val (.int p0), .val (.int p1), .val (.int p2), .val (.int p3), .val (.ref b1), .unset, .unset, .unset, .unset, .unset, .unset, .unset] [(.int (own_q2 p2)), (.int (2 : Int32)), (.ref b1)])) rfl rfl (hb hby at_21)
  have f24 := f14.wr W23
  have k26 := k16.wr W23 (Or.inr sz_b1)
  have nf27 := Fr.snoc X23 nf17 gn_b1
  have f28 := f19.set W23
  have f29 : own_A Z h23 b1 5 (own_v5 (0 : Int32) (0 : Int32) (own_q2 p2) (0 : Int32) (0 : Int32)) := f28.congr (fun j hj => by rcases j with _ | _ | _ | _ | _ | j <;> first | rfl | (simp [own_upd]; done) | omega)
  have pre30 : ∀ t, Steps p.tables e below (T23.setTop (mkF m 32 #[.val (.int p0), .val (.int p1), .val (.int p2), .val (.int p3), .val (.ref b1), .unset, .unset, .unset, .unset, .unset, .unset, .unset] [(.int ((((p2.toUInt32 >>> ((1 : Int32) &&& 31).toUInt32).toInt32) &&& (3 : Int32)) % (3 : Int32))), (.int (3 : Int32)), (.ref b1)])) t → Steps p.tables e below (s₁.setTop (entryFrame m #[(.int p0), (.int p1), (.int p2), (.int p3)] maxLocals)) t := by
    intro t kt
    refine pre21 t ?_
    show Steps p.tables e below (T13.setTop (mkF m 21 #[.val (.int p0), .val (.int p1), .val (.int p2), .val (.int p3), .val (.ref b1), .unset, .unset, .unset, .unset, .unset, .unset, .unset] [(.int (own_q2 p2)), (.int (2 : Int32)), (.ref b1)])) _
    show Steps p.tables e below (T13.setTop (mkF m 21 #[.val (.int p0), .val (.int p1), .val (.int p2), .val (.int p3), .val (.ref b1), .unset, .unset, .unset, .unset, .unset, .unset, .unset] [(.int (own_q2 p2)), (.int (2 : Int32)), (.ref b1)])) _
    refine st23 _ ?_
    show Steps p.tables e below (T23.setTop (mkF m 22 #[.val (.int p0), .val (.int p1), .val (.int p2), .val (.int p3), .val (.ref b1), .unset, .unset, .unset, .unset, .unset, .unset, .unset] [])) _
    refine XS.aload X23.here hx rfl (hb hby at_22) rfl rfl ?_
    show Steps p.tables e below (T23.setTop (mkF m 24 #[.val (.int p0), .val (.int p1), .val (.int p2), .val (.int p3), .val (.ref b1), .unset, .unset, .unset, .unset, .unset, .unset, .unset] [(.ref b1)])) _
    refine XS.iconst X23.here hx rfl (hb hby at_24) ?_
    show Steps p.tables e below (T23.setTop (mkF m 25 #[.val (.int p0), .val (.int p1), .val (.int p2), .val (.int p3), .val (.ref b1), .unset, .unset, .unset, .unset, .unset, .unset, .unset] [(.int (3 : Int32)), (.ref b1)])) _
    refine XS.iloadN X23.here hx rfl (hb hby at_25) rfl ?_
    show Steps p.tables e below (T23.setTop (mkF m 26 #[.val (.int p0), .val (.int p1), .val (.int p2), .val (.int p3), .val (.ref b1), .unset, .unset, .unset, .unset, .unset, .unset, .unset] [(.int p2), (.int (3 : Int32)), (.ref b1)])) _
    refine XS.iconst X23.here hx rfl (hb hby at_26) ?_
    show Steps p.tables e below (T23.setTop (mkF m 27 #[.val (.int p0), .val (.int p1), .val (.int p2), .val (.int p3), .val (.ref b1), .unset, .unset, .unset, .unset, .unset, .unset, .unset] [(.int (1 : Int32)), (.int p2), (.int (3 : Int32)), (.ref b1)])) _
    refine XS.iushr X23.here hx rfl (hb hby at_27) rfl ?_
    show Steps p.tables e below (T23.setTop (mkF m 28 #[.val (.int p0), .val (.int p1), .val (.int p2), .val (.int p3), .val (.ref b1), .unset, .unset, .unset, .unset, .unset, .unset, .unset] [(.int ((p2.toUInt32 >>> ((1 : Int32) &&& 31).toUInt32).toInt32)), (.int (3 : Int32)), (.ref b1)])) _
    refine XS.iconst X23.here hx rfl (hb hby at_28) ?_
    show Steps p.tables e below (T23.setTop (mkF m 29 #[.val (.int p0), .val (.int p1), .val (.int p2), .val (.int p3), .val (.ref b1), .unset, .unset, .unset, .unset, .unset, .unset, .unset] [(.int (3 : Int32)), (.int ((p2.toUInt32 >>> ((1 : Int32) &&& 31).toUInt32).toInt32)), (.int (3 : Int32)), (.ref b1)])) _
    refine XS.iand X23.here hx rfl (hb hby at_29) rfl ?_
    show Steps p.tables e below (T23.setTop (mkF m 30 #[.val (.int p0), .val (.int p1), .val (.int p2), .val (.int p3), .val (.ref b1), .unset, .unset, .unset, .unset, .unset, .unset, .unset] [(.int (((p2.toUInt32 >>> ((1 : Int32) &&& 31).toUInt32).toInt32) &&& (3 : Int32))), (.int (3 : Int32)), (.ref b1)])) _
    refine XS.iconst X23.here hx rfl (hb hby at_30) ?_
    show Steps p.tables e below (T23.setTop (mkF m 31 #[.val (.int p0), .val (.int p1), .val (.int p2), .val (.int p3), .val (.ref b1), .unset, .unset, .unset, .unset, .unset, .unset, .unset] [(.int (3 : Int32)), (.int (((p2.toUInt32 >>> ((1 : Int32) &&& 31).toUInt32).toInt32) &&& (3 : Int32))), (.int (3 : Int32)), (.ref b1)])) _
    refine iremM X23 hx rfl (hb hby at_31) rfl (by decide) ?_
    exact kt
  obtain ⟨cl31, Ar31, S31, H31⟩ := id f29
  have hin31 : ¬ ((3 : Int32) < 0 ∨ cl31.slots.size ≤ ((3 : Int32)).toNatClampNeg) := own_inb S31 (by decide) (by decide)
  obtain ⟨T32, h32, X32, e32, W32, st32⟩ := stI X23 hx hZ e23 Ar31 (j := (3 : Int32)) hin31 (g := (mkF m 32 #[.val (.int p0), .val (.int p1), .val (.int p2), .val (.int p3), .val (.ref b1), .unset, .unset, .unset, .unset, .unset, .unset, .unset] [(.int (own_q3 p2)), (.int (3 : Int32)), (.ref b1)])) rfl rfl (hb hby at_32)
  have f33 := f24.wr W32
  have k35 := k26.wr W32 (Or.inr sz_b1)
  have nf36 := Fr.snoc X32 nf27 gn_b1
  have f37 := f29.set W32
  have f38 : own_A Z h32 b1 5 (own_v5 (0 : Int32) (0 : Int32) (own_q2 p2) (own_q3 p2) (0 : Int32)) := f37.congr (fun j hj => by rcases j with _ | _ | _ | _ | _ | j <;> first | rfl | (simp [own_upd]; done) | omega)
  have pre39 : ∀ t, Steps p.tables e below (T32.setTop (mkF m 41 #[.val (.int p0), .val (.int p1), .val (.int p2), .val (.int p3), .val (.ref b1), .unset, .unset, .unset, .unset, .unset, .unset, .unset] [(.int (((p2.toUInt32 >>> ((3 : Int32) &&& 31).toUInt32).toInt32) &&& (3 : Int32))), (.int (4 : Int32)), (.ref b1)])) t → Steps p.tables e below (s₁.setTop (entryFrame m #[(.int p0), (.int p1), (.int p2), (.int p3)] maxLocals)) t := by
    intro t kt
    refine pre30 t ?_
    show Steps p.tables e below (T23.setTop (mkF m 32 #[.val (.int p0), .val (.int p1), .val (.int p2), .val (.int p3), .val (.ref b1), .unset, .unset, .unset, .unset, .unset, .unset, .unset] [(.int (own_q3 p2)), (.int (3 : Int32)), (.ref b1)])) _
    show Steps p.tables e below (T23.setTop (mkF m 32 #[.val (.int p0), .val (.int p1), .val (.int p2), .val (.int p3), .val (.ref b1), .unset, .unset, .unset, .unset, .unset, .unset, .unset] [(.int (own_q3 p2)), (.int (3 : Int32)), (.ref b1)])) _
    refine st32 _ ?_
    show Steps p.tables e below (T32.setTop (mkF m 33 #[.val (.int p0), .val (.int p1), .val (.int p2), .val (.int p3), .val (.ref b1), .unset, .unset, .unset, .unset, .unset, .unset, .unset] [])) _
    refine XS.aload X32.here hx rfl (hb hby at_33) rfl rfl ?_
    show Steps p.tables e below (T32.setTop (mkF m 35 #[.val (.int p0), .val (.int p1), .val (.int p2), .val (.int p3), .val (.ref b1), .unset, .unset, .unset, .unset, .unset, .unset, .unset] [(.ref b1)])) _
    refine XS.iconst X32.here hx rfl (hb hby at_35) ?_
    show Steps p.tables e below (T32.setTop (mkF m 36 #[.val (.int p0), .val (.int p1), .val (.int p2), .val (.int p3), .val (.ref b1), .unset, .unset, .unset, .unset, .unset, .unset, .unset] [(.int (4 : Int32)), (.ref b1)])) _
    refine XS.iloadN X32.here hx rfl (hb hby at_36) rfl ?_
    show Steps p.tables e below (T32.setTop (mkF m 37 #[.val (.int p0), .val (.int p1), .val (.int p2), .val (.int p3), .val (.ref b1), .unset, .unset, .unset, .unset, .unset, .unset, .unset] [(.int p2), (.int (4 : Int32)), (.ref b1)])) _
    refine XS.iconst X32.here hx rfl (hb hby at_37) ?_
    show Steps p.tables e below (T32.setTop (mkF m 38 #[.val (.int p0), .val (.int p1), .val (.int p2), .val (.int p3), .val (.ref b1), .unset, .unset, .unset, .unset, .unset, .unset, .unset] [(.int (3 : Int32)), (.int p2), (.int (4 : Int32)), (.ref b1)])) _
    refine XS.iushr X32.here hx rfl (hb hby at_38) rfl ?_
    show Steps p.tables e below (T32.setTop (mkF m 39 #[.val (.int p0), .val (.int p1), .val (.int p2), .val (.int p3), .val (.ref b1), .unset, .unset, .unset, .unset, .unset, .unset, .unset] [(.int ((p2.toUInt32 >>> ((3 : Int32) &&& 31).toUInt32).toInt32)), (.int (4 : Int32)), (.ref b1)])) _
    refine XS.iconst X32.here hx rfl (hb hby at_39) ?_
    show Steps p.tables e below (T32.setTop (mkF m 40 #[.val (.int p0), .val (.int p1), .val (.int p2), .val (.int p3), .val (.ref b1), .unset, .unset, .unset, .unset, .unset, .unset, .unset] [(.int (3 : Int32)), (.int ((p2.toUInt32 >>> ((3 : Int32) &&& 31).toUInt32).toInt32)), (.int (4 : Int32)), (.ref b1)])) _
    refine XS.iand X32.here hx rfl (hb hby at_40) rfl ?_
    exact kt
  obtain ⟨cl40, Ar40, S40, H40⟩ := id f38
  have hin40 : ¬ ((4 : Int32) < 0 ∨ cl40.slots.size ≤ ((4 : Int32)).toNatClampNeg) := own_inb S40 (by decide) (by decide)
  obtain ⟨T41, h41, X41, e41, W41, st41⟩ := stI X32 hx hZ e32 Ar40 (j := (4 : Int32)) hin40 (g := (mkF m 41 #[.val (.int p0), .val (.int p1), .val (.int p2), .val (.int p3), .val (.ref b1), .unset, .unset, .unset, .unset, .unset, .unset, .unset] [(.int (own_q4 p2)), (.int (4 : Int32)), (.ref b1)])) rfl rfl (hb hby at_41)
  have f42 := f33.wr W41
  have k44 := k35.wr W41 (Or.inr sz_b1)
  have nf45 := Fr.snoc X41 nf36 gn_b1
  have f46 := f38.set W41
  have f47 : own_A Z h41 b1 5 (own_v5 (0 : Int32) (0 : Int32) (own_q2 p2) (own_q3 p2) (own_q4 p2)) := f46.congr (fun j hj => by rcases j with _ | _ | _ | _ | _ | j <;> first | rfl | (simp [own_upd]; done) | omega)
  obtain ⟨T48, h48, k48, X48, e48, E48, A48, I48, st48⟩ := newPE X41 hx hZ (hw _ (List.mem_of_getElem? (i := 0) rfl)) e41 (g := (mkF m 43 #[.val (.int p0), .val (.int p1), .val (.int p2), .val (.int p3), .val (.ref b1), .unset, .unset, .unset, .unset, .unset, .unset, .unset] [(.int (5 : Int32))])) rfl (hb hby at_43) rfl (by decide) (cap := 5) (by decide) (by decide) (by decide) (by decide) (ad := "[I") rfl
  obtain ⟨b48, g48⟩ : ∃ z, z = h41.size := ⟨_, rfl⟩
  rw [← g48] at A48 I48 st48
  have sz_b48 : h0.size ≤ b48 := Nat.le_trans k44.1 (Nat.le_of_eq g48.symm)
  have gn_b48 : n0 ≤ b48 := Nat.le_trans Z0 sz_b48
  have ne_b1_b48 : b1 ≠ b48 := Nat.ne_of_lt (Nat.lt_of_lt_of_le f47.lt (Nat.le_of_eq g48.symm))
  have f49 := f42.ext E48
  have f50 := f47.ext E48
  have k51 := k44.ext E48
  have f52 : own_A Z h48 b48 5 (own_v5 (0 : Int32) (0 : Int32) (0 : Int32) (0 : Int32) (0 : Int32)) := (own_A.new A48 rfl).congr (fun j hj => by rcases j with _ | _ | _ | _ | _ | j <;> first | rfl | (simp [own_upd]; done) | omega)
  obtain ⟨cl53, Ar53, S53, H53⟩ := id f52
  have hin53 : ¬ ((0 : Int32) < 0 ∨ cl53.slots.size ≤ ((0 : Int32)).toNatClampNeg) := own_inb S53 (by decide) (by decide)
  obtain ⟨T54, h54, X54, e54, W54, st54⟩ := stI X48 hx hZ e48 Ar53 (j := (0 : Int32)) hin53 (g := (mkF m 51 #[.val (.int p0), .val (.int p1), .val (.int p2), .val (.int p3), .val (.ref b1), .val (.ref b48), .unset, .unset, .unset, .unset, .unset, .unset] [(.int (0 : Int32)), (.int (0 : Int32)), (.ref b48)])) rfl rfl (hb hby at_51)
  have f55 := f49.wr W54
  have f56 := f50.other W54 ne_b1_b48
  have f57 := I48.wr W54
  have k59 := k51.wr W54 (Or.inr sz_b48)
  have nf60 := Fr.snoc X54 nf45 gn_b48
  have f61 := f52.set W54
  have f62 : own_A Z h54 b48 5 (own_v5 (0 : Int32) (0 : Int32) (0 : Int32) (0 : Int32) (0 : Int32)) := f61.congr (fun j hj => by rcases j with _ | _ | _ | _ | _ | j <;> first | rfl | (simp [own_upd]; done) | omega)
  have pre63 : ∀ t, Steps p.tables e below (T54.setTop (mkF m 57 #[.val (.int p0), .val (.int p1), .val (.int p2), .val (.int p3), .val (.ref b1), .val (.ref b48), .unset, .unset, .unset, .unset, .unset, .unset] [(.int p3), (.int (1 : Int32)), (.int (1 : Int32)), (.ref b48)])) t → Steps p.tables e below (s₁.setTop (entryFrame m #[(.int p0), (.int p1), (.int p2), (.int p3)] maxLocals)) t := by
    intro t kt
    refine pre39 t ?_
    show Steps p.tables e below (T32.setTop (mkF m 41 #[.val (.int p0), .val (.int p1), .val (.int p2), .val (.int p3), .val (.ref b1), .unset, .unset, .unset, .unset, .unset, .unset, .unset] [(.int (own_q4 p2)), (.int (4 : Int32)), (.ref b1)])) _
    show Steps p.tables e below (T32.setTop (mkF m 41 #[.val (.int p0), .val (.int p1), .val (.int p2), .val (.int p3), .val (.ref b1), .unset, .unset, .unset, .unset, .unset, .unset, .unset] [(.int (own_q4 p2)), (.int (4 : Int32)), (.ref b1)])) _
    refine st41 _ ?_
    show Steps p.tables e below (T41.setTop (mkF m 42 #[.val (.int p0), .val (.int p1), .val (.int p2), .val (.int p3), .val (.ref b1), .unset, .unset, .unset, .unset, .unset, .unset, .unset] [])) _
    refine XS.iconst X41.here hx rfl (hb hby at_42) ?_
    show Steps p.tables e below (T41.setTop (mkF m 43 #[.val (.int p0), .val (.int p1), .val (.int p2), .val (.int p3), .val (.ref b1), .unset, .unset, .unset, .unset, .unset, .unset, .unset] [(.int (5 : Int32))])) _
    refine st48 _ ?_
    show Steps p.tables e below (T48.setTop (mkF m 45 #[.val (.int p0), .val (.int p1), .val (.int p2), .val (.int p3), .val (.ref b1), .unset, .unset, .unset, .unset, .unset, .unset, .unset] [(.ref b48)])) _
    refine XS.astore X48.here hx rfl (hb hby at_45) rfl rfl (l' := #[.val (.int p0), .val (.int p1), .val (.int p2), .val (.int p3), .val (.ref b1), .val (.ref b48), .unset, .unset, .unset, .unset, .unset, .unset]) rfl ?_
    show Steps p.tables e below (T48.setTop (mkF m 47 #[.val (.int p0), .val (.int p1), .val (.int p2), .val (.int p3), .val (.ref b1), .val (.ref b48), .unset, .unset, .unset, .unset, .unset, .unset] [])) _
    refine XS.aload X48.here hx rfl (hb hby at_47) rfl rfl ?_
    show Steps p.tables e below (T48.setTop (mkF m 49 #[.val (.int p0), .val (.int p1), .val (.int p2), .val (.int p3), .val (.ref b1), .val (.ref b48), .unset, .unset, .unset, .unset, .unset, .unset] [(.ref b48)])) _
    refine XS.iconst X48.here hx rfl (hb hby at_49) ?_
    show Steps p.tables e below (T48.setTop (mkF m 50 #[.val (.int p0), .val (.int p1), .val (.int p2), .val (.int p3), .val (.ref b1), .val (.ref b48), .unset, .unset, .unset, .unset, .unset, .unset] [(.int (0 : Int32)), (.ref b48)])) _
    refine XS.iconst X48.here hx rfl (hb hby at_50) ?_
    show Steps p.tables e below (T48.setTop (mkF m 51 #[.val (.int p0), .val (.int p1), .val (.int p2), .val (.int p3), .val (.ref b1), .val (.ref b48), .unset, .unset, .unset, .unset, .unset, .unset] [(.int (0 : Int32)), (.int (0 : Int32)), (.ref b48)])) _
    refine st54 _ ?_
    show Steps p.tables e below (T54.setTop (mkF m 52 #[.val (.int p0), .val (.int p1), .val (.int p2), .val (.int p3), .val (.ref b1), .val (.ref b48), .unset, .unset, .unset, .unset, .unset, .unset] [])) _
    refine XS.aload X54.here hx rfl (hb hby at_52) rfl rfl ?_
    show Steps p.tables e below (T54.setTop (mkF m 54 #[.val (.int p0), .val (.int p1), .val (.int p2), .val (.int p3), .val (.ref b1), .val (.ref b48), .unset, .unset, .unset, .unset, .unset, .unset] [(.ref b48)])) _
    refine XS.iconst X54.here hx rfl (hb hby at_54) ?_
    show Steps p.tables e below (T54.setTop (mkF m 55 #[.val (.int p0), .val (.int p1), .val (.int p2), .val (.int p3), .val (.ref b1), .val (.ref b48), .unset, .unset, .unset, .unset, .unset, .unset] [(.int (1 : Int32)), (.ref b48)])) _
    refine XS.iconst X54.here hx rfl (hb hby at_55) ?_
    show Steps p.tables e below (T54.setTop (mkF m 56 #[.val (.int p0), .val (.int p1), .val (.int p2), .val (.int p3), .val (.ref b1), .val (.ref b48), .unset, .unset, .unset, .unset, .unset, .unset] [(.int (1 : Int32)), (.int (1 : Int32)), (.ref b48)])) _
    refine XS.iloadN X54.here hx rfl (hb hby at_56) rfl ?_
    exact kt
  have pre64 : ∀ t, Steps p.tables e below (T54.setTop (mkF m 60 #[.val (.int p0), .val (.int p1), .val (.int p2), .val (.int p3), .val (.ref b1), .val (.ref b48), .unset, .unset, .unset, .unset, .unset, .unset] [(.int ((1 : Int32) + (p3 &&& (3 : Int32)))), (.int (1 : Int32)), (.ref b48)])) t → Steps p.tables e below (s₁.setTop (entryFrame m #[(.int p0), (.int p1), (.int p2), (.int p3)] maxLocals)) t := by
    intro t kt
    refine pre63 t ?_
    show Steps p.tables e below (T54.setTop (mkF m 57 #[.val (.int p0), .val (.int p1), .val (.int p2), .val (.int p3), .val (.ref b1), .val (.ref b48), .unset, .unset, .unset, .unset, .unset, .unset] [(.int p3), (.int (1 : Int32)), (.int (1 : Int32)), (.ref b48)])) _
    refine XS.iconst X54.here hx rfl (hb hby at_57) ?_
    show Steps p.tables e below (T54.setTop (mkF m 58 #[.val (.int p0), .val (.int p1), .val (.int p2), .val (.int p3), .val (.ref b1), .val (.ref b48), .unset, .unset, .unset, .unset, .unset, .unset] [(.int (3 : Int32)), (.int p3), (.int (1 : Int32)), (.int (1 : Int32)), (.ref b48)])) _
    refine XS.iand X54.here hx rfl (hb hby at_58) rfl ?_
    show Steps p.tables e below (T54.setTop (mkF m 59 #[.val (.int p0), .val (.int p1), .val (.int p2), .val (.int p3), .val (.ref b1), .val (.ref b48), .unset, .unset, .unset, .unset, .unset, .unset] [(.int (p3 &&& (3 : Int32))), (.int (1 : Int32)), (.int (1 : Int32)), (.ref b48)])) _
    refine XS.iadd X54.here hx rfl (hb hby at_59) rfl ?_
    exact kt
  obtain ⟨cl65, Ar65, S65, H65⟩ := id f62
  have hin65 : ¬ ((1 : Int32) < 0 ∨ cl65.slots.size ≤ ((1 : Int32)).toNatClampNeg) := own_inb S65 (by decide) (by decide)
  obtain ⟨T66, h66, X66, e66, W66, st66⟩ := stI X54 hx hZ e54 Ar65 (j := (1 : Int32)) hin65 (g := (mkF m 60 #[.val (.int p0), .val (.int p1), .val (.int p2), .val (.int p3), .val (.ref b1), .val (.ref b48), .unset, .unset, .unset, .unset, .unset, .unset] [(.int (own_s1 p3)), (.int (1 : Int32)), (.ref b48)])) rfl rfl (hb hby at_60)
  have f67 := f55.wr W66
  have f68 := f56.other W66 ne_b1_b48
  have f69 := f57.wr W66
  have k71 := k59.wr W66 (Or.inr sz_b48)
  have nf72 := Fr.snoc X66 nf60 gn_b48
  have f73 := f62.set W66
  have f74 : own_A Z h66 b48 5 (own_v5 (0 : Int32) (own_s1 p3) (0 : Int32) (0 : Int32) (0 : Int32)) := f73.congr (fun j hj => by rcases j with _ | _ | _ | _ | _ | j <;> first | rfl | (simp [own_upd]; done) | omega)
  obtain ⟨cl75, Ar75, S75, H75⟩ := id f68
  have hin75 : ¬ ((2 : Int32) < 0 ∨ cl75.slots.size ≤ ((2 : Int32)).toNatClampNeg) := own_inb S75 (by decide) (by decide)
  have hat75 : cl75.slots[((2 : Int32)).toNatClampNeg]? = some (.int (own_q2 p2)) := H75 _ (by decide)
  obtain ⟨cl76, Ar76, S76, H76⟩ := id f74
  have hin76 : ¬ ((own_q2 p2) < 0 ∨ cl76.slots.size ≤ ((own_q2 p2)).toNatClampNeg) := own_inb S76 (own_nn (own_q2r p2).1) (own_tn (Int.lt_of_le_of_lt (own_q2r p2).2 (by decide)) (by decide))
  have hat76 : cl76.slots[((own_q2 p2)).toNatClampNeg]? = some (.int ((own_v5 (0 : Int32) (own_s1 p3) (0 : Int32) (0 : Int32) (0 : Int32)) ((own_q2 p2)).toNatClampNeg)) := H76 _ (own_tn (Int.lt_of_le_of_lt (own_q2r p2).2 (by decide)) (by decide))
  have pre77 : ∀ t, Steps p.tables e below (T66.setTop (mkF m 75 #[.val (.int p0), .val (.int p1), .val (.int p2), .val (.int p3), .val (.ref b1), .val (.ref b48), .unset, .unset, .unset, .unset, .unset, .unset] [(.int (2 : Int32)), (.int p3), (.int (((own_v5 (0 : Int32) (own_s1 p3) (0 : Int32) (0 : Int32) (0 : Int32)) ((own_q2 p2)).toNatClampNeg) + (1 : Int32))), (.int (2 : Int32)), (.ref b48)])) t → Steps p.tables e below (s₁.setTop (entryFrame m #[(.int p0), (.int p1), (.int p2), (.int p3)] maxLocals)) t := by
    intro t kt
    refine pre64 t ?_
    show Steps p.tables e below (T54.setTop (mkF m 60 #[.val (.int p0), .val (.int p1), .val (.int p2), .val (.int p3), .val (.ref b1), .val (.ref b48), .unset, .unset, .unset, .unset, .unset, .unset] [(.int (own_s1 p3)), (.int (1 : Int32)), (.ref b48)])) _
    show Steps p.tables e below (T54.setTop (mkF m 60 #[.val (.int p0), .val (.int p1), .val (.int p2), .val (.int p3), .val (.ref b1), .val (.ref b48), .unset, .unset, .unset, .unset, .unset, .unset] [(.int (own_s1 p3)), (.int (1 : Int32)), (.ref b48)])) _
    refine st66 _ ?_
    show Steps p.tables e below (T66.setTop (mkF m 61 #[.val (.int p0), .val (.int p1), .val (.int p2), .val (.int p3), .val (.ref b1), .val (.ref b48), .unset, .unset, .unset, .unset, .unset, .unset] [])) _
    refine XS.aload X66.here hx rfl (hb hby at_61) rfl rfl ?_
    show Steps p.tables e below (T66.setTop (mkF m 63 #[.val (.int p0), .val (.int p1), .val (.int p2), .val (.int p3), .val (.ref b1), .val (.ref b48), .unset, .unset, .unset, .unset, .unset, .unset] [(.ref b48)])) _
    refine XS.iconst X66.here hx rfl (hb hby at_63) ?_
    show Steps p.tables e below (T66.setTop (mkF m 64 #[.val (.int p0), .val (.int p1), .val (.int p2), .val (.int p3), .val (.ref b1), .val (.ref b48), .unset, .unset, .unset, .unset, .unset, .unset] [(.int (2 : Int32)), (.ref b48)])) _
    refine XS.aload X66.here hx rfl (hb hby at_64) rfl rfl ?_
    show Steps p.tables e below (T66.setTop (mkF m 66 #[.val (.int p0), .val (.int p1), .val (.int p2), .val (.int p3), .val (.ref b1), .val (.ref b48), .unset, .unset, .unset, .unset, .unset, .unset] [(.ref b48), (.int (2 : Int32)), (.ref b48)])) _
    refine XS.aload X66.here hx rfl (hb hby at_66) rfl rfl ?_
    show Steps p.tables e below (T66.setTop (mkF m 68 #[.val (.int p0), .val (.int p1), .val (.int p2), .val (.int p3), .val (.ref b1), .val (.ref b48), .unset, .unset, .unset, .unset, .unset, .unset] [(.ref b1), (.ref b48), (.int (2 : Int32)), (.ref b48)])) _
    refine XS.iconst X66.here hx rfl (hb hby at_68) ?_
    show Steps p.tables e below (T66.setTop (mkF m 69 #[.val (.int p0), .val (.int p1), .val (.int p2), .val (.int p3), .val (.ref b1), .val (.ref b48), .unset, .unset, .unset, .unset, .unset, .unset] [(.int (2 : Int32)), (.ref b1), (.ref b48), (.int (2 : Int32)), (.ref b48)])) _
    refine X66.iaload hx (j := (2 : Int32)) (v := (.int (own_q2 p2))) (by rw [e66]; exact Ar75.1) (State.isArrayOf_alike hZ.alike Ar75.2.1) Ar75.2.2 hin75 hat75 (g := (mkF m 69 #[.val (.int p0), .val (.int p1), .val (.int p2), .val (.int p3), .val (.ref b1), .val (.ref b48), .unset, .unset, .unset, .unset, .unset, .unset] [(.int (2 : Int32)), (.ref b1), (.ref b48), (.int (2 : Int32)), (.ref b48)])) rfl rfl (hb hby at_69) _ ?_
    show Steps p.tables e below (T66.setTop (mkF m 70 #[.val (.int p0), .val (.int p1), .val (.int p2), .val (.int p3), .val (.ref b1), .val (.ref b48), .unset, .unset, .unset, .unset, .unset, .unset] [(.int (own_q2 p2)), (.ref b48), (.int (2 : Int32)), (.ref b48)])) _
    refine X66.iaload hx (j := (own_q2 p2)) (v := (.int ((own_v5 (0 : Int32) (own_s1 p3) (0 : Int32) (0 : Int32) (0 : Int32)) ((own_q2 p2)).toNatClampNeg))) (by rw [e66]; exact Ar76.1) (State.isArrayOf_alike hZ.alike Ar76.2.1) Ar76.2.2 hin76 hat76 (g := (mkF m 70 #[.val (.int p0), .val (.int p1), .val (.int p2), .val (.int p3), .val (.ref b1), .val (.ref b48), .unset, .unset, .unset, .unset, .unset, .unset] [(.int (own_q2 p2)), (.ref b48), (.int (2 : Int32)), (.ref b48)])) rfl rfl (hb hby at_70) _ ?_
    show Steps p.tables e below (T66.setTop (mkF m 71 #[.val (.int p0), .val (.int p1), .val (.int p2), .val (.int p3), .val (.ref b1), .val (.ref b48), .unset, .unset, .unset, .unset, .unset, .unset] [(.int ((own_v5 (0 : Int32) (own_s1 p3) (0 : Int32) (0 : Int32) (0 : Int32)) ((own_q2 p2)).toNatClampNeg)), (.int (2 : Int32)), (.ref b48)])) _
    refine XS.iconst X66.here hx rfl (hb hby at_71) ?_
    show Steps p.tables e below (T66.setTop (mkF m 72 #[.val (.int p0), .val (.int p1), .val (.int p2), .val (.int p3), .val (.ref b1), .val (.ref b48), .unset, .unset, .unset, .unset, .unset, .unset] [(.int (1 : Int32)), (.int ((own_v5 (0 : Int32) (own_s1 p3) (0 : Int32) (0 : Int32) (0 : Int32)) ((own_q2 p2)).toNatClampNeg)), (.int (2 : Int32)), (.ref b48)])) _
    refine XS.iadd X66.here hx rfl (hb hby at_72) rfl ?_
    show Steps p.tables e below (T66.setTop (mkF m 73 #[.val (.int p0), .val (.int p1), .val (.int p2), .val (.int p3), .val (.ref b1), .val (.ref b48), .unset, .unset, .unset, .unset, .unset, .unset] [(.int (((own_v5 (0 : Int32) (own_s1 p3) (0 : Int32) (0 : Int32) (0 : Int32)) ((own_q2 p2)).toNatClampNeg) + (1 : Int32))), (.int (2 : Int32)), (.ref b48)])) _
    refine XS.iloadN X66.here hx rfl (hb hby at_73) rfl ?_
    show Steps p.tables e below (T66.setTop (mkF m 74 #[.val (.int p0), .val (.int p1), .val (.int p2), .val (.int p3), .val (.ref b1), .val (.ref b48), .unset, .unset, .unset, .unset, .unset, .unset] [(.int p3), (.int (((own_v5 (0 : Int32) (own_s1 p3) (0 : Int32) (0 : Int32) (0 : Int32)) ((own_q2 p2)).toNatClampNeg) + (1 : Int32))), (.int (2 : Int32)), (.ref b48)])) _
    refine XS.iconst X66.here hx rfl (hb hby at_74) ?_
    exact kt
  have pre78 : ∀ t, Steps p.tables e below (T66.setTop (mkF m 79 #[.val (.int p0), .val (.int p1), .val (.int p2), .val (.int p3), .val (.ref b1), .val (.ref b48), .unset, .unset, .unset, .unset, .unset, .unset] [(.int ((((own_v5 (0 : Int32) (own_s1 p3) (0 : Int32) (0 : Int32) (0 : Int32)) ((own_q2 p2)).toNatClampNeg) + (1 : Int32)) + (((p3.toUInt32 >>> ((2 : Int32) &&& 31).toUInt32).toInt32) &&& (3 : Int32)))), (.int (2 : Int32)), (.ref b48)])) t → Steps p.tables e below (s₁.setTop (entryFrame m #[(.int p0), (.int p1), (.int p2), (.int p3)] maxLocals)) t := by
    intro t kt
    refine pre77 t ?_
    show Steps p.tables e below (T66.setTop (mkF m 75 #[.val (.int p0), .val (.int p1), .val (.int p2), .val (.int p3), .val (.ref b1), .val (.ref b48), .unset, .unset, .unset, .unset, .unset, .unset] [(.int (2 : Int32)), (.int p3), (.int (((own_v5 (0 : Int32) (own_s1 p3) (0 : Int32) (0 : Int32) (0 : Int32)) ((own_q2 p2)).toNatClampNeg) + (1 : Int32))), (.int (2 : Int32)), (.ref b48)])) _
    refine XS.iushr X66.here hx rfl (hb hby at_75) rfl ?_
    show Steps p.tables e below (T66.setTop (mkF m 76 #[.val (.int p0), .val (.int p1), .val (.int p2), .val (.int p3), .val (.ref b1), .val (.ref b48), .unset, .unset, .unset, .unset, .unset, .unset] [(.int ((p3.toUInt32 >>> ((2 : Int32) &&& 31).toUInt32).toInt32)), (.int (((own_v5 (0 : Int32) (own_s1 p3) (0 : Int32) (0 : Int32) (0 : Int32)) ((own_q2 p2)).toNatClampNeg) + (1 : Int32))), (.int (2 : Int32)), (.ref b48)])) _
    refine XS.iconst X66.here hx rfl (hb hby at_76) ?_
    show Steps p.tables e below (T66.setTop (mkF m 77 #[.val (.int p0), .val (.int p1), .val (.int p2), .val (.int p3), .val (.ref b1), .val (.ref b48), .unset, .unset, .unset, .unset, .unset, .unset] [(.int (3 : Int32)), (.int ((p3.toUInt32 >>> ((2 : Int32) &&& 31).toUInt32).toInt32)), (.int (((own_v5 (0 : Int32) (own_s1 p3) (0 : Int32) (0 : Int32) (0 : Int32)) ((own_q2 p2)).toNatClampNeg) + (1 : Int32))), (.int (2 : Int32)), (.ref b48)])) _
    refine XS.iand X66.here hx rfl (hb hby at_77) rfl ?_
    show Steps p.tables e below (T66.setTop (mkF m 78 #[.val (.int p0), .val (.int p1), .val (.int p2), .val (.int p3), .val (.ref b1), .val (.ref b48), .unset, .unset, .unset, .unset, .unset, .unset] [(.int (((p3.toUInt32 >>> ((2 : Int32) &&& 31).toUInt32).toInt32) &&& (3 : Int32))), (.int (((own_v5 (0 : Int32) (own_s1 p3) (0 : Int32) (0 : Int32) (0 : Int32)) ((own_q2 p2)).toNatClampNeg) + (1 : Int32))), (.int (2 : Int32)), (.ref b48)])) _
    refine XS.iadd X66.here hx rfl (hb hby at_78) rfl ?_
    exact kt
  obtain ⟨cl79, Ar79, S79, H79⟩ := id f74
  have hin79 : ¬ ((2 : Int32) < 0 ∨ cl79.slots.size ≤ ((2 : Int32)).toNatClampNeg) := own_inb S79 (by decide) (by decide)
  obtain ⟨T80, h80, X80, e80, W80, st80⟩ := stI X66 hx hZ e66 Ar79 (j := (2 : Int32)) hin79 (g := (mkF m 79 #[.val (.int p0), .val (.int p1), .val (.int p2), .val (.int p3), .val (.ref b1), .val (.ref b48), .unset, .unset, .unset, .unset, .unset, .unset] [(.int (own_s2 p2 p3)), (.int (2 : Int32)), (.ref b48)])) rfl rfl (hb hby at_79)
  have f81 := f67.wr W80
  have f82 := f68.other W80 ne_b1_b48
  have f83 := f69.wr W80
  have k85 := k71.wr W80 (Or.inr sz_b48)
  have nf86 := Fr.snoc X80 nf72 gn_b48
  have f87 := f74.set W80
  have f88 : own_A Z h80 b48 5 (own_v5 (0 : Int32) (own_s1 p3) (own_s2 p2 p3) (0 : Int32) (0 : Int32)) := f87.congr (fun j hj => by rcases j with _ | _ | _ | _ | _ | j <;> first | rfl | (simp [own_upd]; done) | omega)
  obtain ⟨cl89, Ar89, S89, H89⟩ := id f82
  have hin89 : ¬ ((3 : Int32) < 0 ∨ cl89.slots.size ≤ ((3 : Int32)).toNatClampNeg) := own_inb S89 (by decide) (by decide)
  have hat89 : cl89.slots[((3 : Int32)).toNatClampNeg]? = some (.int (own_q3 p2)) := H89 _ (by decide)
  obtain ⟨cl90, Ar90, S90, H90⟩ := id f88
  have hin90 : ¬ ((own_q3 p2) < 0 ∨ cl90.slots.size ≤ ((own_q3 p2)).toNatClampNeg) := own_inb S90 (own_nn (own_q3r p2).1) (own_tn (Int.lt_of_le_of_lt (own_q3r p2).2 (by decide)) (by decide))
  have hat90 : cl90.slots[((own_q3 p2)).toNatClampNeg]? = some (.int ((own_v5 (0 : Int32) (own_s1 p3) (own_s2 p2 p3) (0 : Int32) (0 : Int32)) ((own_q3 p2)).toNatClampNeg)) := H90 _ (own_tn (Int.lt_of_le_of_lt (own_q3r p2).2 (by decide)) (by decide))
  have pre91 : ∀ t, Steps p.tables e below (T80.setTop (mkF m 94 #[.val (.int p0), .val (.int p1), .val (.int p2), .val (.int p3), .val (.ref b1), .val (.ref b48), .unset, .unset, .unset, .unset, .unset, .unset] [(.int (4 : Int32)), (.int p3), (.int (((own_v5 (0 : Int32) (own_s1 p3) (own_s2 p2 p3) (0 : Int32) (0 : Int32)) ((own_q3 p2)).toNatClampNeg) + (1 : Int32))), (.int (3 : Int32)), (.ref b48)])) t → Steps p.tables e below (s₁.setTop (entryFrame m #[(.int p0), (.int p1), (.int p2), (.int p3)] maxLocals)) t := by
    intro t kt
    refine pre78 t ?_
    show Steps p.tables e below (T66.setTop (mkF m 79 #[.val (.int p0), .val (.int p1), .val (.int p2), .val (.int p3), .val (.ref b1), .val (.ref b48), .unset, .unset, .unset, .unset, .unset, .unset] [(.int (own_s2 p2 p3)), (.int (2 : Int32)), (.ref b48)])) _
    show Steps p.tables e below (T66.setTop (mkF m 79 #[.val (.int p0), .val (.int p1), .val (.int p2), .val (.int p3), .val (.ref b1), .val (.ref b48), .unset, .unset, .unset, .unset, .unset, .unset] [(.int (own_s2 p2 p3)), (.int (2 : Int32)), (.ref b48)])) _
    refine st80 _ ?_
    show Steps p.tables e below (T80.setTop (mkF m 80 #[.val (.int p0), .val (.int p1), .val (.int p2), .val (.int p3), .val (.ref b1), .val (.ref b48), .unset, .unset, .unset, .unset, .unset, .unset] [])) _
    refine XS.aload X80.here hx rfl (hb hby at_80) rfl rfl ?_
    show Steps p.tables e below (T80.setTop (mkF m 82 #[.val (.int p0), .val (.int p1), .val (.int p2), .val (.int p3), .val (.ref b1), .val (.ref b48), .unset, .unset, .unset, .unset, .unset, .unset] [(.ref b48)])) _
    refine XS.iconst X80.here hx rfl (hb hby at_82) ?_
    show Steps p.tables e below (T80.setTop (mkF m 83 #[.val (.int p0), .val (.int p1), .val (.int p2), .val (.int p3), .val (.ref b1), .val (.ref b48), .unset, .unset, .unset, .unset, .unset, .unset] [(.int (3 : Int32)), (.ref b48)])) _
    refine XS.aload X80.here hx rfl (hb hby at_83) rfl rfl ?_
    show Steps p.tables e below (T80.setTop (mkF m 85 #[.val (.int p0), .val (.int p1), .val (.int p2), .val (.int p3), .val (.ref b1), .val (.ref b48), .unset, .unset, .unset, .unset, .unset, .unset] [(.ref b48), (.int (3 : Int32)), (.ref b48)])) _
    refine XS.aload X80.here hx rfl (hb hby at_85) rfl rfl ?_
    show Steps p.tables e below (T80.setTop (mkF m 87 #[.val (.int p0), .val (.int p1), .val (.int p2), .val (.int p3), .val (.ref b1), .val (.ref b48), .unset, .unset, .unset, .unset, .unset, .unset] [(.ref b1), (.ref b48), (.int (3 : Int32)), (.ref b48)])) _
    refine XS.iconst X80.here hx rfl (hb hby at_87) ?_
    show Steps p.tables e below (T80.setTop (mkF m 88 #[.val (.int p0), .val (.int p1), .val (.int p2), .val (.int p3), .val (.ref b1), .val (.ref b48), .unset, .unset, .unset, .unset, .unset, .unset] [(.int (3 : Int32)), (.ref b1), (.ref b48), (.int (3 : Int32)), (.ref b48)])) _
    refine X80.iaload hx (j := (3 : Int32)) (v := (.int (own_q3 p2))) (by rw [e80]; exact Ar89.1) (State.isArrayOf_alike hZ.alike Ar89.2.1) Ar89.2.2 hin89 hat89 (g := (mkF m 88 #[.val (.int p0), .val (.int p1), .val (.int p2), .val (.int p3), .val (.ref b1), .val (.ref b48), .unset, .unset, .unset, .unset, .unset, .unset] [(.int (3 : Int32)), (.ref b1), (.ref b48), (.int (3 : Int32)), (.ref b48)])) rfl rfl (hb hby at_88) _ ?_
    show Steps p.tables e below (T80.setTop (mkF m 89 #[.val (.int p0), .val (.int p1), .val (.int p2), .val (.int p3), .val (.ref b1), .val (.ref b48), .unset, .unset, .unset, .unset, .unset, .unset] [(.int (own_q3 p2)), (.ref b48), (.int (3 : Int32)), (.ref b48)])) _
    refine X80.iaload hx (j := (own_q3 p2)) (v := (.int ((own_v5 (0 : Int32) (own_s1 p3) (own_s2 p2 p3) (0 : Int32) (0 : Int32)) ((own_q3 p2)).toNatClampNeg))) (by rw [e80]; exact Ar90.1) (State.isArrayOf_alike hZ.alike Ar90.2.1) Ar90.2.2 hin90 hat90 (g := (mkF m 89 #[.val (.int p0), .val (.int p1), .val (.int p2), .val (.int p3), .val (.ref b1), .val (.ref b48), .unset, .unset, .unset, .unset, .unset, .unset] [(.int (own_q3 p2)), (.ref b48), (.int (3 : Int32)), (.ref b48)])) rfl rfl (hb hby at_89) _ ?_
    show Steps p.tables e below (T80.setTop (mkF m 90 #[.val (.int p0), .val (.int p1), .val (.int p2), .val (.int p3), .val (.ref b1), .val (.ref b48), .unset, .unset, .unset, .unset, .unset, .unset] [(.int ((own_v5 (0 : Int32) (own_s1 p3) (own_s2 p2 p3) (0 : Int32) (0 : Int32)) ((own_q3 p2)).toNatClampNeg)), (.int (3 : Int32)), (.ref b48)])) _
    refine XS.iconst X80.here hx rfl (hb hby at_90) ?_
    show Steps p.tables e below (T80.setTop (mkF m 91 #[.val (.int p0), .val (.int p1), .val (.int p2), .val (.int p3), .val (.ref b1), .val (.ref b48), .unset, .unset, .unset, .unset, .unset, .unset] [(.int (1 : Int32)), (.int ((own_v5 (0 : Int32) (own_s1 p3) (own_s2 p2 p3) (0 : Int32) (0 : Int32)) ((own_q3 p2)).toNatClampNeg)), (.int (3 : Int32)), (.ref b48)])) _
    refine XS.iadd X80.here hx rfl (hb hby at_91) rfl ?_
    show Steps p.tables e below (T80.setTop (mkF m 92 #[.val (.int p0), .val (.int p1), .val (.int p2), .val (.int p3), .val (.ref b1), .val (.ref b48), .unset, .unset, .unset, .unset, .unset, .unset] [(.int (((own_v5 (0 : Int32) (own_s1 p3) (own_s2 p2 p3) (0 : Int32) (0 : Int32)) ((own_q3 p2)).toNatClampNeg) + (1 : Int32))), (.int (3 : Int32)), (.ref b48)])) _
    refine XS.iloadN X80.here hx rfl (hb hby at_92) rfl ?_
    show Steps p.tables e below (T80.setTop (mkF m 93 #[.val (.int p0), .val (.int p1), .val (.int p2), .val (.int p3), .val (.ref b1), .val (.ref b48), .unset, .unset, .unset, .unset, .unset, .unset] [(.int p3), (.int (((own_v5 (0 : Int32) (own_s1 p3) (own_s2 p2 p3) (0 : Int32) (0 : Int32)) ((own_q3 p2)).toNatClampNeg) + (1 : Int32))), (.int (3 : Int32)), (.ref b48)])) _
    refine XS.iconst X80.here hx rfl (hb hby at_93) ?_
    exact kt
  have pre92 : ∀ t, Steps p.tables e below (T80.setTop (mkF m 98 #[.val (.int p0), .val (.int p1), .val (.int p2), .val (.int p3), .val (.ref b1), .val (.ref b48), .unset, .unset, .unset, .unset, .unset, .unset] [(.int ((((own_v5 (0 : Int32) (own_s1 p3) (own_s2 p2 p3) (0 : Int32) (0 : Int32)) ((own_q3 p2)).toNatClampNeg) + (1 : Int32)) + (((p3.toUInt32 >>> ((4 : Int32) &&& 31).toUInt32).toInt32) &&& (3 : Int32)))), (.int (3 : Int32)), (.ref b48)])) t → Steps p.tables e below (s₁.setTop (entryFrame m #[(.int p0), (.int p1), (.int p2), (.int p3)] maxLocals)) t := by
    intro t kt
    refine pre91 t ?_
    show Steps p.tables e below (T80.setTop (mkF m 94 #[.val (.int p0), .val (.int p1), .val (.int p2), .val (.int p3), .val (.ref b1), .val (.ref b48), .unset, .unset, .unset, .unset, .unset, .unset] [(.int (4 : Int32)), (.int p3), (.int (((own_v5 (0 : Int32) (own_s1 p3) (own_s2 p2 p3) (0 : Int32) (0 : Int32)) ((own_q3 p2)).toNatClampNeg) + (1 : Int32))), (.int (3 : Int32)), (.ref b48)])) _
    refine XS.iushr X80.here hx rfl (hb hby at_94) rfl ?_
    show Steps p.tables e below (T80.setTop (mkF m 95 #[.val (.int p0), .val (.int p1), .val (.int p2), .val (.int p3), .val (.ref b1), .val (.ref b48), .unset, .unset, .unset, .unset, .unset, .unset] [(.int ((p3.toUInt32 >>> ((4 : Int32) &&& 31).toUInt32).toInt32)), (.int (((own_v5 (0 : Int32) (own_s1 p3) (own_s2 p2 p3) (0 : Int32) (0 : Int32)) ((own_q3 p2)).toNatClampNeg) + (1 : Int32))), (.int (3 : Int32)), (.ref b48)])) _
    refine XS.iconst X80.here hx rfl (hb hby at_95) ?_
    show Steps p.tables e below (T80.setTop (mkF m 96 #[.val (.int p0), .val (.int p1), .val (.int p2), .val (.int p3), .val (.ref b1), .val (.ref b48), .unset, .unset, .unset, .unset, .unset, .unset] [(.int (3 : Int32)), (.int ((p3.toUInt32 >>> ((4 : Int32) &&& 31).toUInt32).toInt32)), (.int (((own_v5 (0 : Int32) (own_s1 p3) (own_s2 p2 p3) (0 : Int32) (0 : Int32)) ((own_q3 p2)).toNatClampNeg) + (1 : Int32))), (.int (3 : Int32)), (.ref b48)])) _
    refine XS.iand X80.here hx rfl (hb hby at_96) rfl ?_
    show Steps p.tables e below (T80.setTop (mkF m 97 #[.val (.int p0), .val (.int p1), .val (.int p2), .val (.int p3), .val (.ref b1), .val (.ref b48), .unset, .unset, .unset, .unset, .unset, .unset] [(.int (((p3.toUInt32 >>> ((4 : Int32) &&& 31).toUInt32).toInt32) &&& (3 : Int32))), (.int (((own_v5 (0 : Int32) (own_s1 p3) (own_s2 p2 p3) (0 : Int32) (0 : Int32)) ((own_q3 p2)).toNatClampNeg) + (1 : Int32))), (.int (3 : Int32)), (.ref b48)])) _
    refine XS.iadd X80.here hx rfl (hb hby at_97) rfl ?_
    exact kt
  obtain ⟨cl93, Ar93, S93, H93⟩ := id f88
  have hin93 : ¬ ((3 : Int32) < 0 ∨ cl93.slots.size ≤ ((3 : Int32)).toNatClampNeg) := own_inb S93 (by decide) (by decide)
  obtain ⟨T94, h94, X94, e94, W94, st94⟩ := stI X80 hx hZ e80 Ar93 (j := (3 : Int32)) hin93 (g := (mkF m 98 #[.val (.int p0), .val (.int p1), .val (.int p2), .val (.int p3), .val (.ref b1), .val (.ref b48), .unset, .unset, .unset, .unset, .unset, .unset] [(.int (own_s3 p2 p3)), (.int (3 : Int32)), (.ref b48)])) rfl rfl (hb hby at_98)
  have f95 := f81.wr W94
  have f96 := f82.other W94 ne_b1_b48
  have f97 := f83.wr W94
  have k99 := k85.wr W94 (Or.inr sz_b48)
  have nf100 := Fr.snoc X94 nf86 gn_b48
  have f101 := f88.set W94
  have f102 : own_A Z h94 b48 5 (own_v5 (0 : Int32) (own_s1 p3) (own_s2 p2 p3) (own_s3 p2 p3) (0 : Int32)) := f101.congr (fun j hj => by rcases j with _ | _ | _ | _ | _ | j <;> first | rfl | (simp [own_upd]; done) | omega)
  obtain ⟨cl103, Ar103, S103, H103⟩ := id f96
  have hin103 : ¬ ((4 : Int32) < 0 ∨ cl103.slots.size ≤ ((4 : Int32)).toNatClampNeg) := own_inb S103 (by decide) (by decide)
  have hat103 : cl103.slots[((4 : Int32)).toNatClampNeg]? = some (.int (own_q4 p2)) := H103 _ (by decide)
  obtain ⟨cl104, Ar104, S104, H104⟩ := id f102
  have hin104 : ¬ ((own_q4 p2) < 0 ∨ cl104.slots.size ≤ ((own_q4 p2)).toNatClampNeg) := own_inb S104 (own_nn (own_q4r p2).1) (own_tn (Int.lt_of_le_of_lt (own_q4r p2).2 (by decide)) (by decide))
  have hat104 : cl104.slots[((own_q4 p2)).toNatClampNeg]? = some (.int ((own_v5 (0 : Int32) (own_s1 p3) (own_s2 p2 p3) (own_s3 p2 p3) (0 : Int32)) ((own_q4 p2)).toNatClampNeg)) := H104 _ (own_tn (Int.lt_of_le_of_lt (own_q4r p2).2 (by decide)) (by decide))
  have pre105 : ∀ t, Steps p.tables e below (T94.setTop (mkF m 114 #[.val (.int p0), .val (.int p1), .val (.int p2), .val (.int p3), .val (.ref b1), .val (.ref b48), .unset, .unset, .unset, .unset, .unset, .unset] [(.int (6 : Int32)), (.int p3), (.int (((own_v5 (0 : Int32) (own_s1 p3) (own_s2 p2 p3) (own_s3 p2 p3) (0 : Int32)) ((own_q4 p2)).toNatClampNeg) + (1 : Int32))), (.int (4 : Int32)), (.ref b48)])) t → Steps p.tables e below (s₁.setTop (entryFrame m #[(.int p0), (.int p1), (.int p2), (.int p3)] maxLocals)) t := by
    intro t kt
    refine pre92 t ?_
    show Steps p.tables e below (T80.setTop (mkF m 98 #[.val (.int p0), .val (.int p1), .val (.int p2), .val (.int p3), .val (.ref b1), .val (.ref b48), .unset, .unset, .unset, .unset, .unset, .unset] [(.int (own_s3 p2 p3)), (.int (3 : Int32)), (.ref b48)])) _
    show Steps p.tables e below (T80.setTop (mkF m 98 #[.val (.int p0), .val (.int p1), .val (.int p2), .val (.int p3), .val (.ref b1), .val (.ref b48), .unset, .unset, .unset, .unset, .unset, .unset] [(.int (own_s3 p2 p3)), (.int (3 : Int32)), (.ref b48)])) _
    refine st94 _ ?_
    show Steps p.tables e below (T94.setTop (mkF m 99 #[.val (.int p0), .val (.int p1), .val (.int p2), .val (.int p3), .val (.ref b1), .val (.ref b48), .unset, .unset, .unset, .unset, .unset, .unset] [])) _
    refine XS.aload X94.here hx rfl (hb hby at_99) rfl rfl ?_
    show Steps p.tables e below (T94.setTop (mkF m 101 #[.val (.int p0), .val (.int p1), .val (.int p2), .val (.int p3), .val (.ref b1), .val (.ref b48), .unset, .unset, .unset, .unset, .unset, .unset] [(.ref b48)])) _
    refine XS.iconst X94.here hx rfl (hb hby at_101) ?_
    show Steps p.tables e below (T94.setTop (mkF m 102 #[.val (.int p0), .val (.int p1), .val (.int p2), .val (.int p3), .val (.ref b1), .val (.ref b48), .unset, .unset, .unset, .unset, .unset, .unset] [(.int (4 : Int32)), (.ref b48)])) _
    refine XS.aload X94.here hx rfl (hb hby at_102) rfl rfl ?_
    show Steps p.tables e below (T94.setTop (mkF m 104 #[.val (.int p0), .val (.int p1), .val (.int p2), .val (.int p3), .val (.ref b1), .val (.ref b48), .unset, .unset, .unset, .unset, .unset, .unset] [(.ref b48), (.int (4 : Int32)), (.ref b48)])) _
    refine XS.aload X94.here hx rfl (hb hby at_104) rfl rfl ?_
    show Steps p.tables e below (T94.setTop (mkF m 106 #[.val (.int p0), .val (.int p1), .val (.int p2), .val (.int p3), .val (.ref b1), .val (.ref b48), .unset, .unset, .unset, .unset, .unset, .unset] [(.ref b1), (.ref b48), (.int (4 : Int32)), (.ref b48)])) _
    refine XS.iconst X94.here hx rfl (hb hby at_106) ?_
    show Steps p.tables e below (T94.setTop (mkF m 107 #[.val (.int p0), .val (.int p1), .val (.int p2), .val (.int p3), .val (.ref b1), .val (.ref b48), .unset, .unset, .unset, .unset, .unset, .unset] [(.int (4 : Int32)), (.ref b1), (.ref b48), (.int (4 : Int32)), (.ref b48)])) _
    refine X94.iaload hx (j := (4 : Int32)) (v := (.int (own_q4 p2))) (by rw [e94]; exact Ar103.1) (State.isArrayOf_alike hZ.alike Ar103.2.1) Ar103.2.2 hin103 hat103 (g := (mkF m 107 #[.val (.int p0), .val (.int p1), .val (.int p2), .val (.int p3), .val (.ref b1), .val (.ref b48), .unset, .unset, .unset, .unset, .unset, .unset] [(.int (4 : Int32)), (.ref b1), (.ref b48), (.int (4 : Int32)), (.ref b48)])) rfl rfl (hb hby at_107) _ ?_
    show Steps p.tables e below (T94.setTop (mkF m 108 #[.val (.int p0), .val (.int p1), .val (.int p2), .val (.int p3), .val (.ref b1), .val (.ref b48), .unset, .unset, .unset, .unset, .unset, .unset] [(.int (own_q4 p2)), (.ref b48), (.int (4 : Int32)), (.ref b48)])) _
    refine X94.iaload hx (j := (own_q4 p2)) (v := (.int ((own_v5 (0 : Int32) (own_s1 p3) (own_s2 p2 p3) (own_s3 p2 p3) (0 : Int32)) ((own_q4 p2)).toNatClampNeg))) (by rw [e94]; exact Ar104.1) (State.isArrayOf_alike hZ.alike Ar104.2.1) Ar104.2.2 hin104 hat104 (g := (mkF m 108 #[.val (.int p0), .val (.int p1), .val (.int p2), .val (.int p3), .val (.ref b1), .val (.ref b48), .unset, .unset, .unset, .unset, .unset, .unset] [(.int (own_q4 p2)), (.ref b48), (.int (4 : Int32)), (.ref b48)])) rfl rfl (hb hby at_108) _ ?_
    show Steps p.tables e below (T94.setTop (mkF m 109 #[.val (.int p0), .val (.int p1), .val (.int p2), .val (.int p3), .val (.ref b1), .val (.ref b48), .unset, .unset, .unset, .unset, .unset, .unset] [(.int ((own_v5 (0 : Int32) (own_s1 p3) (own_s2 p2 p3) (own_s3 p2 p3) (0 : Int32)) ((own_q4 p2)).toNatClampNeg)), (.int (4 : Int32)), (.ref b48)])) _
    refine XS.iconst X94.here hx rfl (hb hby at_109) ?_
    show Steps p.tables e below (T94.setTop (mkF m 110 #[.val (.int p0), .val (.int p1), .val (.int p2), .val (.int p3), .val (.ref b1), .val (.ref b48), .unset, .unset, .unset, .unset, .unset, .unset] [(.int (1 : Int32)), (.int ((own_v5 (0 : Int32) (own_s1 p3) (own_s2 p2 p3) (own_s3 p2 p3) (0 : Int32)) ((own_q4 p2)).toNatClampNeg)), (.int (4 : Int32)), (.ref b48)])) _
    refine XS.iadd X94.here hx rfl (hb hby at_110) rfl ?_
    show Steps p.tables e below (T94.setTop (mkF m 111 #[.val (.int p0), .val (.int p1), .val (.int p2), .val (.int p3), .val (.ref b1), .val (.ref b48), .unset, .unset, .unset, .unset, .unset, .unset] [(.int (((own_v5 (0 : Int32) (own_s1 p3) (own_s2 p2 p3) (own_s3 p2 p3) (0 : Int32)) ((own_q4 p2)).toNatClampNeg) + (1 : Int32))), (.int (4 : Int32)), (.ref b48)])) _
    refine XS.iloadN X94.here hx rfl (hb hby at_111) rfl ?_
    show Steps p.tables e below (T94.setTop (mkF m 112 #[.val (.int p0), .val (.int p1), .val (.int p2), .val (.int p3), .val (.ref b1), .val (.ref b48), .unset, .unset, .unset, .unset, .unset, .unset] [(.int p3), (.int (((own_v5 (0 : Int32) (own_s1 p3) (own_s2 p2 p3) (own_s3 p2 p3) (0 : Int32)) ((own_q4 p2)).toNatClampNeg) + (1 : Int32))), (.int (4 : Int32)), (.ref b48)])) _
    refine XS.bipush X94.here hx rfl (hb hby at_112) ?_
    exact kt
  have pre106 : ∀ t, Steps p.tables e below (T94.setTop (mkF m 118 #[.val (.int p0), .val (.int p1), .val (.int p2), .val (.int p3), .val (.ref b1), .val (.ref b48), .unset, .unset, .unset, .unset, .unset, .unset] [(.int ((((own_v5 (0 : Int32) (own_s1 p3) (own_s2 p2 p3) (own_s3 p2 p3) (0 : Int32)) ((own_q4 p2)).toNatClampNeg) + (1 : Int32)) + (((p3.toUInt32 >>> ((6 : Int32) &&& 31).toUInt32).toInt32) &&& (3 : Int32)))), (.int (4 : Int32)), (.ref b48)])) t → Steps p.tables e below (s₁.setTop (entryFrame m #[(.int p0), (.int p1), (.int p2), (.int p3)] maxLocals)) t := by
    intro t kt
    refine pre105 t ?_
    show Steps p.tables e below (T94.setTop (mkF m 114 #[.val (.int p0), .val (.int p1), .val (.int p2), .val (.int p3), .val (.ref b1), .val (.ref b48), .unset, .unset, .unset, .unset, .unset, .unset] [(.int (6 : Int32)), (.int p3), (.int (((own_v5 (0 : Int32) (own_s1 p3) (own_s2 p2 p3) (own_s3 p2 p3) (0 : Int32)) ((own_q4 p2)).toNatClampNeg) + (1 : Int32))), (.int (4 : Int32)), (.ref b48)])) _
    refine XS.iushr X94.here hx rfl (hb hby at_114) rfl ?_
    show Steps p.tables e below (T94.setTop (mkF m 115 #[.val (.int p0), .val (.int p1), .val (.int p2), .val (.int p3), .val (.ref b1), .val (.ref b48), .unset, .unset, .unset, .unset, .unset, .unset] [(.int ((p3.toUInt32 >>> ((6 : Int32) &&& 31).toUInt32).toInt32)), (.int (((own_v5 (0 : Int32) (own_s1 p3) (own_s2 p2 p3) (own_s3 p2 p3) (0 : Int32)) ((own_q4 p2)).toNatClampNeg) + (1 : Int32))), (.int (4 : Int32)), (.ref b48)])) _
    refine XS.iconst X94.here hx rfl (hb hby at_115) ?_
    show Steps p.tables e below (T94.setTop (mkF m 116 #[.val (.int p0), .val (.int p1), .val (.int p2), .val (.int p3), .val (.ref b1), .val (.ref b48), .unset, .unset, .unset, .unset, .unset, .unset] [(.int (3 : Int32)), (.int ((p3.toUInt32 >>> ((6 : Int32) &&& 31).toUInt32).toInt32)), (.int (((own_v5 (0 : Int32) (own_s1 p3) (own_s2 p2 p3) (own_s3 p2 p3) (0 : Int32)) ((own_q4 p2)).toNatClampNeg) + (1 : Int32))), (.int (4 : Int32)), (.ref b48)])) _
    refine XS.iand X94.here hx rfl (hb hby at_116) rfl ?_
    show Steps p.tables e below (T94.setTop (mkF m 117 #[.val (.int p0), .val (.int p1), .val (.int p2), .val (.int p3), .val (.ref b1), .val (.ref b48), .unset, .unset, .unset, .unset, .unset, .unset] [(.int (((p3.toUInt32 >>> ((6 : Int32) &&& 31).toUInt32).toInt32) &&& (3 : Int32))), (.int (((own_v5 (0 : Int32) (own_s1 p3) (own_s2 p2 p3) (own_s3 p2 p3) (0 : Int32)) ((own_q4 p2)).toNatClampNeg) + (1 : Int32))), (.int (4 : Int32)), (.ref b48)])) _
    refine XS.iadd X94.here hx rfl (hb hby at_117) rfl ?_
    exact kt
  obtain ⟨cl107, Ar107, S107, H107⟩ := id f102
  have hin107 : ¬ ((4 : Int32) < 0 ∨ cl107.slots.size ≤ ((4 : Int32)).toNatClampNeg) := own_inb S107 (by decide) (by decide)
  obtain ⟨T108, h108, X108, e108, W108, st108⟩ := stI X94 hx hZ e94 Ar107 (j := (4 : Int32)) hin107 (g := (mkF m 118 #[.val (.int p0), .val (.int p1), .val (.int p2), .val (.int p3), .val (.ref b1), .val (.ref b48), .unset, .unset, .unset, .unset, .unset, .unset] [(.int (own_s4 p2 p3)), (.int (4 : Int32)), (.ref b48)])) rfl rfl (hb hby at_118)
  have f109 := f95.wr W108
  have f110 := f96.other W108 ne_b1_b48
  have f111 := f97.wr W108
  have k113 := k99.wr W108 (Or.inr sz_b48)
  have nf114 := Fr.snoc X108 nf100 gn_b48
  have f115 := f102.set W108
  have f116 : own_A Z h108 b48 5 (own_v5 (0 : Int32) (own_s1 p3) (own_s2 p2 p3) (own_s3 p2 p3) (own_s4 p2 p3)) := f115.congr (fun j hj => by rcases j with _ | _ | _ | _ | _ | j <;> first | rfl | (simp [own_upd]; done) | omega)
  have pre117 : ∀ t, Steps p.tables e below (T108.setTop (mkF m 125 #[.val (.int p0), .val (.int p1), .val (.int p2), .val (.int p3), .val (.ref b1), .val (.ref b48), .unset, .unset, .unset, .unset, .unset, .unset] [(.int ((p0 &&& (2147483647 : Int32)) % (5 : Int32)))])) t → Steps p.tables e below (s₁.setTop (entryFrame m #[(.int p0), (.int p1), (.int p2), (.int p3)] maxLocals)) t := by
    intro t kt
    refine pre106 t ?_
    show Steps p.tables e below (T94.setTop (mkF m 118 #[.val (.int p0), .val (.int p1), .val (.int p2), .val (.int p3), .val (.ref b1), .val (.ref b48), .unset, .unset, .unset, .unset, .unset, .unset] [(.int (own_s4 p2 p3)), (.int (4 : Int32)), (.ref b48)])) _
    show Steps p.tables e below (T94.setTop (mkF m 118 #[.val (.int p0), .val (.int p1), .val (.int p2), .val (.int p3), .val (.ref b1), .val (.ref b48), .unset, .unset, .unset, .unset, .unset, .unset] [(.int (own_s4 p2 p3)), (.int (4 : Int32)), (.ref b48)])) _
    refine st108 _ ?_
    show Steps p.tables e below (T108.setTop (mkF m 119 #[.val (.int p0), .val (.int p1), .val (.int p2), .val (.int p3), .val (.ref b1), .val (.ref b48), .unset, .unset, .unset, .unset, .unset, .unset] [])) _
    refine XS.iloadN X108.here hx rfl (hb hby at_119) rfl ?_
    show Steps p.tables e below (T108.setTop (mkF m 120 #[.val (.int p0), .val (.int p1), .val (.int p2), .val (.int p3), .val (.ref b1), .val (.ref b48), .unset, .unset, .unset, .unset, .unset, .unset] [(.int p0)])) _
    refine X108.ldcI hx hown (mvT hZ (hw _ (List.mem_of_getElem? (i := 1) rfl))) (g := (mkF m 120 #[.val (.int p0), .val (.int p1), .val (.int p2), .val (.int p3), .val (.ref b1), .val (.ref b48), .unset, .unset, .unset, .unset, .unset, .unset] [(.int p0)])) rfl (hb hby at_120) ?_
    show Steps p.tables e below (T108.setTop (mkF m 122 #[.val (.int p0), .val (.int p1), .val (.int p2), .val (.int p3), .val (.ref b1), .val (.ref b48), .unset, .unset, .unset, .unset, .unset, .unset] [(.int (2147483647 : Int32)), (.int p0)])) _
    refine XS.iand X108.here hx rfl (hb hby at_122) rfl ?_
    show Steps p.tables e below (T108.setTop (mkF m 123 #[.val (.int p0), .val (.int p1), .val (.int p2), .val (.int p3), .val (.ref b1), .val (.ref b48), .unset, .unset, .unset, .unset, .unset, .unset] [(.int (p0 &&& (2147483647 : Int32)))])) _
    refine XS.iconst X108.here hx rfl (hb hby at_123) ?_
    show Steps p.tables e below (T108.setTop (mkF m 124 #[.val (.int p0), .val (.int p1), .val (.int p2), .val (.int p3), .val (.ref b1), .val (.ref b48), .unset, .unset, .unset, .unset, .unset, .unset] [(.int (5 : Int32)), (.int (p0 &&& (2147483647 : Int32)))])) _
    refine iremM X108 hx rfl (hb hby at_124) rfl (by decide) ?_
    exact kt
  have pre118 : ∀ t, Steps p.tables e below (T108.setTop (mkF m 133 #[.val (.int p0), .val (.int p1), .val (.int p2), .val (.int p3), .val (.ref b1), .val (.ref b48), .val (.int (own_b p0)), .unset, .unset, .unset, .unset, .unset] [(.int ((p1 &&& (2147483647 : Int32)) % (5 : Int32)))])) t → Steps p.tables e below (s₁.setTop (entryFrame m #[(.int p0), (.int p1), (.int p2), (.int p3)] maxLocals)) t := by
    intro t kt
    refine pre117 t ?_
    show Steps p.tables e below (T108.setTop (mkF m 125 #[.val (.int p0), .val (.int p1), .val (.int p2), .val (.int p3), .val (.ref b1), .val (.ref b48), .unset, .unset, .unset, .unset, .unset, .unset] [(.int (own_b p0))])) _
    show Steps p.tables e below (T108.setTop (mkF m 125 #[.val (.int p0), .val (.int p1), .val (.int p2), .val (.int p3), .val (.ref b1), .val (.ref b48), .unset, .unset, .unset, .unset, .unset, .unset] [(.int (own_b p0))])) _
    refine XS.istore X108.here hx rfl (hb hby at_125) rfl (l' := #[.val (.int p0), .val (.int p1), .val (.int p2), .val (.int p3), .val (.ref b1), .val (.ref b48), .val (.int (own_b p0)), .unset, .unset, .unset, .unset, .unset]) rfl ?_
    show Steps p.tables e below (T108.setTop (mkF m 127 #[.val (.int p0), .val (.int p1), .val (.int p2), .val (.int p3), .val (.ref b1), .val (.ref b48), .val (.int (own_b p0)), .unset, .unset, .unset, .unset, .unset] [])) _
    refine XS.iloadN X108.here hx rfl (hb hby at_127) rfl ?_
    show Steps p.tables e below (T108.setTop (mkF m 128 #[.val (.int p0), .val (.int p1), .val (.int p2), .val (.int p3), .val (.ref b1), .val (.ref b48), .val (.int (own_b p0)), .unset, .unset, .unset, .unset, .unset] [(.int p1)])) _
    refine X108.ldcI hx hown (mvT hZ (hw _ (List.mem_of_getElem? (i := 1) rfl))) (g := (mkF m 128 #[.val (.int p0), .val (.int p1), .val (.int p2), .val (.int p3), .val (.ref b1), .val (.ref b48), .val (.int (own_b p0)), .unset, .unset, .unset, .unset, .unset] [(.int p1)])) rfl (hb hby at_128) ?_
    show Steps p.tables e below (T108.setTop (mkF m 130 #[.val (.int p0), .val (.int p1), .val (.int p2), .val (.int p3), .val (.ref b1), .val (.ref b48), .val (.int (own_b p0)), .unset, .unset, .unset, .unset, .unset] [(.int (2147483647 : Int32)), (.int p1)])) _
    refine XS.iand X108.here hx rfl (hb hby at_130) rfl ?_
    show Steps p.tables e below (T108.setTop (mkF m 131 #[.val (.int p0), .val (.int p1), .val (.int p2), .val (.int p3), .val (.ref b1), .val (.ref b48), .val (.int (own_b p0)), .unset, .unset, .unset, .unset, .unset] [(.int (p1 &&& (2147483647 : Int32)))])) _
    refine XS.iconst X108.here hx rfl (hb hby at_131) ?_
    show Steps p.tables e below (T108.setTop (mkF m 132 #[.val (.int p0), .val (.int p1), .val (.int p2), .val (.int p3), .val (.ref b1), .val (.ref b48), .val (.int (own_b p0)), .unset, .unset, .unset, .unset, .unset] [(.int (5 : Int32)), (.int (p1 &&& (2147483647 : Int32)))])) _
    refine iremM X108 hx rfl (hb hby at_132) rfl (by decide) ?_
    exact kt
  obtain ⟨T119, h119, k119, X119, e119, E119, A119, I119, st119⟩ := newPE X108 hx hZ (hw _ (List.mem_of_getElem? (i := 0) rfl)) e108 (g := (mkF m 136 #[.val (.int p0), .val (.int p1), .val (.int p2), .val (.int p3), .val (.ref b1), .val (.ref b48), .val (.int (own_b p0)), .val (.int (own_b p1)), .unset, .unset, .unset, .unset] [(.int (2 : Int32))])) rfl (hb hby at_136) rfl (by decide) (cap := 2) (by decide) (by decide) (by decide) (by decide) (ad := "[I") rfl
  obtain ⟨b119, g119⟩ : ∃ z, z = h108.size := ⟨_, rfl⟩
  rw [← g119] at A119 I119 st119
  have sz_b119 : h0.size ≤ b119 := Nat.le_trans k113.1 (Nat.le_of_eq g119.symm)
  have gn_b119 : n0 ≤ b119 := Nat.le_trans Z0 sz_b119
  have ne_b1_b119 : b1 ≠ b119 := Nat.ne_of_lt (Nat.lt_of_lt_of_le f110.lt (Nat.le_of_eq g119.symm))
  have ne_b48_b119 : b48 ≠ b119 := Nat.ne_of_lt (Nat.lt_of_lt_of_le f116.lt (Nat.le_of_eq g119.symm))
  have f120 := f109.ext E119
  have f121 := f110.ext E119
  have f122 := f111.ext E119
  have f123 := f116.ext E119
  have k124 := k113.ext E119
  have f125 : own_A Z h119 b119 2 (own_v2 (0 : Int32) (0 : Int32)) := (own_A.new A119 rfl).congr (fun j hj => by rcases j with _ | _ | j <;> first | rfl | (simp [own_upd]; done) | omega)
  obtain ⟨cl126, Ar126, S126, H126⟩ := id f125
  have hin126 : ¬ ((0 : Int32) < 0 ∨ cl126.slots.size ≤ ((0 : Int32)).toNatClampNeg) := own_inb S126 (by decide) (by decide)
  obtain ⟨T127, h127, X127, e127, W127, st127⟩ := stI X119 hx hZ e119 Ar126 (j := (0 : Int32)) hin126 (g := (mkF m 145 #[.val (.int p0), .val (.int p1), .val (.int p2), .val (.int p3), .val (.ref b1), .val (.ref b48), .val (.int (own_b p0)), .val (.int (own_b p1)), .val (.ref b119), .unset, .unset, .unset] [(.int (own_b p0)), (.int (0 : Int32)), (.ref b119)])) rfl rfl (hb hby at_145)
  have f128 := f120.wr W127
  have f129 := f121.other W127 ne_b1_b119
  have f130 := f122.wr W127
  have f131 := f123.other W127 ne_b48_b119
  have f132 := I119.wr W127
  have k134 := k124.wr W127 (Or.inr sz_b119)
  have nf135 := Fr.snoc X127 nf114 gn_b119
  have f136 := f125.set W127
  have f137 : own_A Z h127 b119 2 (own_v2 (own_b p0) (0 : Int32)) := f136.congr (fun j hj => by rcases j with _ | _ | j <;> first | rfl | (simp [own_upd]; done) | omega)
  obtain ⟨cl138, Ar138, S138, H138⟩ := id f137
  have hin138 : ¬ ((1 : Int32) < 0 ∨ cl138.slots.size ≤ ((1 : Int32)).toNatClampNeg) := own_inb S138 (by decide) (by decide)
  obtain ⟨T139, h139, X139, e139, W139, st139⟩ := stI X127 hx hZ e127 Ar138 (j := (1 : Int32)) hin138 (g := (mkF m 151 #[.val (.int p0), .val (.int p1), .val (.int p2), .val (.int p3), .val (.ref b1), .val (.ref b48), .val (.int (own_b p0)), .val (.int (own_b p1)), .val (.ref b119), .unset, .unset, .unset] [(.int (own_b p1)), (.int (1 : Int32)), (.ref b119)])) rfl rfl (hb hby at_151)
  have f140 := f128.wr W139
  have f141 := f129.other W139 ne_b1_b119
  have f142 := f130.wr W139
  have f143 := f131.other W139 ne_b48_b119
  have f144 := f132.wr W139
  have k146 := k134.wr W139 (Or.inr sz_b119)
  have nf147 := Fr.snoc X139 nf135 gn_b119
  have f148 := f137.set W139
  have f149 : own_A Z h139 b119 2 (own_v2 (own_b p0) (own_b p1)) := f148.congr (fun j hj => by rcases j with _ | _ | j <;> first | rfl | (simp [own_upd]; done) | omega)
  have pre150 : ∀ t, Steps p.tables e below (T139.setTop (mkF m 152 #[.val (.int p0), .val (.int p1), .val (.int p2), .val (.int p3), .val (.ref b1), .val (.ref b48), .val (.int (own_b p0)), .val (.int (own_b p1)), .val (.ref b119), .unset, .unset, .unset] [])) t → Steps p.tables e below (s₁.setTop (entryFrame m #[(.int p0), (.int p1), (.int p2), (.int p3)] maxLocals)) t := by
    intro t kt
    refine pre118 t ?_
    show Steps p.tables e below (T108.setTop (mkF m 133 #[.val (.int p0), .val (.int p1), .val (.int p2), .val (.int p3), .val (.ref b1), .val (.ref b48), .val (.int (own_b p0)), .unset, .unset, .unset, .unset, .unset] [(.int (own_b p1))])) _
    show Steps p.tables e below (T108.setTop (mkF m 133 #[.val (.int p0), .val (.int p1), .val (.int p2), .val (.int p3), .val (.ref b1), .val (.ref b48), .val (.int (own_b p0)), .unset, .unset, .unset, .unset, .unset] [(.int (own_b p1))])) _
    refine XS.istore X108.here hx rfl (hb hby at_133) rfl (l' := #[.val (.int p0), .val (.int p1), .val (.int p2), .val (.int p3), .val (.ref b1), .val (.ref b48), .val (.int (own_b p0)), .val (.int (own_b p1)), .unset, .unset, .unset, .unset]) rfl ?_
    show Steps p.tables e below (T108.setTop (mkF m 135 #[.val (.int p0), .val (.int p1), .val (.int p2), .val (.int p3), .val (.ref b1), .val (.ref b48), .val (.int (own_b p0)), .val (.int (own_b p1)), .unset, .unset, .unset, .unset] [])) _
    refine XS.iconst X108.here hx rfl (hb hby at_135) ?_
    show Steps p.tables e below (T108.setTop (mkF m 136 #[.val (.int p0), .val (.int p1), .val (.int p2), .val (.int p3), .val (.ref b1), .val (.ref b48), .val (.int (own_b p0)), .val (.int (own_b p1)), .unset, .unset, .unset, .unset] [(.int (2 : Int32))])) _
    refine st119 _ ?_
    show Steps p.tables e below (T119.setTop (mkF m 138 #[.val (.int p0), .val (.int p1), .val (.int p2), .val (.int p3), .val (.ref b1), .val (.ref b48), .val (.int (own_b p0)), .val (.int (own_b p1)), .unset, .unset, .unset, .unset] [(.ref b119)])) _
    refine XS.astore X119.here hx rfl (hb hby at_138) rfl rfl (l' := #[.val (.int p0), .val (.int p1), .val (.int p2), .val (.int p3), .val (.ref b1), .val (.ref b48), .val (.int (own_b p0)), .val (.int (own_b p1)), .val (.ref b119), .unset, .unset, .unset]) rfl ?_
    show Steps p.tables e below (T119.setTop (mkF m 140 #[.val (.int p0), .val (.int p1), .val (.int p2), .val (.int p3), .val (.ref b1), .val (.ref b48), .val (.int (own_b p0)), .val (.int (own_b p1)), .val (.ref b119), .unset, .unset, .unset] [])) _
    refine XS.aload X119.here hx rfl (hb hby at_140) rfl rfl ?_
    show Steps p.tables e below (T119.setTop (mkF m 142 #[.val (.int p0), .val (.int p1), .val (.int p2), .val (.int p3), .val (.ref b1), .val (.ref b48), .val (.int (own_b p0)), .val (.int (own_b p1)), .val (.ref b119), .unset, .unset, .unset] [(.ref b119)])) _
    refine XS.iconst X119.here hx rfl (hb hby at_142) ?_
    show Steps p.tables e below (T119.setTop (mkF m 143 #[.val (.int p0), .val (.int p1), .val (.int p2), .val (.int p3), .val (.ref b1), .val (.ref b48), .val (.int (own_b p0)), .val (.int (own_b p1)), .val (.ref b119), .unset, .unset, .unset] [(.int (0 : Int32)), (.ref b119)])) _
    refine XS.iload X119.here hx rfl (hb hby at_143) rfl ?_
    show Steps p.tables e below (T119.setTop (mkF m 145 #[.val (.int p0), .val (.int p1), .val (.int p2), .val (.int p3), .val (.ref b1), .val (.ref b48), .val (.int (own_b p0)), .val (.int (own_b p1)), .val (.ref b119), .unset, .unset, .unset] [(.int (own_b p0)), (.int (0 : Int32)), (.ref b119)])) _
    refine st127 _ ?_
    show Steps p.tables e below (T127.setTop (mkF m 146 #[.val (.int p0), .val (.int p1), .val (.int p2), .val (.int p3), .val (.ref b1), .val (.ref b48), .val (.int (own_b p0)), .val (.int (own_b p1)), .val (.ref b119), .unset, .unset, .unset] [])) _
    refine XS.aload X127.here hx rfl (hb hby at_146) rfl rfl ?_
    show Steps p.tables e below (T127.setTop (mkF m 148 #[.val (.int p0), .val (.int p1), .val (.int p2), .val (.int p3), .val (.ref b1), .val (.ref b48), .val (.int (own_b p0)), .val (.int (own_b p1)), .val (.ref b119), .unset, .unset, .unset] [(.ref b119)])) _
    refine XS.iconst X127.here hx rfl (hb hby at_148) ?_
    show Steps p.tables e below (T127.setTop (mkF m 149 #[.val (.int p0), .val (.int p1), .val (.int p2), .val (.int p3), .val (.ref b1), .val (.ref b48), .val (.int (own_b p0)), .val (.int (own_b p1)), .val (.ref b119), .unset, .unset, .unset] [(.int (1 : Int32)), (.ref b119)])) _
    refine XS.iload X127.here hx rfl (hb hby at_149) rfl ?_
    show Steps p.tables e below (T127.setTop (mkF m 151 #[.val (.int p0), .val (.int p1), .val (.int p2), .val (.int p3), .val (.ref b1), .val (.ref b48), .val (.int (own_b p0)), .val (.int (own_b p1)), .val (.ref b119), .unset, .unset, .unset] [(.int (own_b p1)), (.int (1 : Int32)), (.ref b119)])) _
    refine st139 _ ?_
    exact kt
  obtain ⟨T151, h151, X151, e151, E151, A151, D151, -, st151⟩ := newO X139 hx hZ hown (hw _ (List.mem_of_getElem? (i := 2) rfl)) (hw _ (List.mem_of_getElem? (i := 3) rfl)) (hw _ (List.mem_of_getElem? (i := 4) rfl)) e139 (g := (mkF m 152 #[.val (.int p0), .val (.int p1), .val (.int p2), .val (.int p3), .val (.ref b1), .val (.ref b48), .val (.int (own_b p0)), .val (.int (own_b p1)), .val (.ref b119), .unset, .unset, .unset] [])) rfl (hb hby at_152) (by decide) (by decide)
  obtain ⟨b151, g151⟩ : ∃ z, z = h139.size := ⟨_, rfl⟩
  rw [← g151] at A151 D151 st151
  have sz_b151 : h0.size ≤ b151 := Nat.le_trans k146.1 (Nat.le_of_eq g151.symm)
  have gn_b151 : n0 ≤ b151 := Nat.le_trans Z0 sz_b151
  have ne_b1_b151 : b1 ≠ b151 := Nat.ne_of_lt (Nat.lt_of_lt_of_le f141.lt (Nat.le_of_eq g151.symm))
  have ne_b48_b151 : b48 ≠ b151 := Nat.ne_of_lt (Nat.lt_of_lt_of_le f143.lt (Nat.le_of_eq g151.symm))
  have ne_b119_b151 : b119 ≠ b151 := Nat.ne_of_lt (Nat.lt_of_lt_of_le f149.lt (Nat.le_of_eq g151.symm))
  have f152 := f140.ext E151
  have f153 := f141.ext E151
  have f154 := f142.ext E151
  have f155 := f143.ext E151
  have f156 := f144.ext E151
  have f157 := f149.ext E151
  have k158 := k146.ext E151
  have f159 : Fld Z h151 b151 "com/example/unfold/unfold/reduction/Splitting" "blocks" "[I" .null := D151 (Or.inr (hw _ (List.mem_of_getElem? (i := 12) rfl))) (ty := (.array .int)) (by decide)
  have f160 : Fld Z h151 b151 "com/example/unfold/unfold/reduction/Splitting" "parents" "[I" .null := D151 (Or.inr (hw _ (List.mem_of_getElem? (i := 14) rfl))) (ty := (.array .int)) (by decide)
  have f161 : Fld Z h151 b151 "com/example/unfold/unfold/reduction/Splitting" "rounds" "[I" .null := D151 (Or.inr (hw _ (List.mem_of_getElem? (i := 16) rfl))) (ty := (.array .int)) (by decide)
  have zs162 : n0 ≤ h151.size := Nat.le_trans Z0 k158.1
  obtain ⟨_, _, ⟨T163, L163, k163, n163⟩, -, X163, ⟨Lc163, hQ163, l163, y163, z163⟩, st163⟩ := X151.specialBack hx (y := (⟨"com/example/unfold/unfold/reduction/Splitting", "<init>", "([I[I[I)V"⟩ : MethodName)) rfl hown (mvT hZ (hw _ (List.mem_of_getElem? (i := 5) rfl))) (mvT hZ (hw _ (List.mem_of_getElem? (i := 6) rfl))) (mvT hZ (hw _ (List.mem_of_getElem? (i := 7) rfl))) (by decide) (backOf (W := 1) (own_rm_ctor l Z a0 hw [] b151 b119 b1 b48 h151 n0 zs162 A151 f159 f160 f161 gn_b151) hZ (hw _ (List.mem_of_getElem? (i := 7) rfl)) (hw _ (List.mem_of_getElem? (i := 4) rfl)) (by decide) (by decide)) (g := (mkF m 162 #[.val (.int p0), .val (.int p1), .val (.int p2), .val (.int p3), .val (.ref b1), .val (.ref b48), .val (.int (own_b p0)), .val (.int (own_b p1)), .val (.ref b119), .unset, .unset, .unset] [(.ref b48), (.ref b1), (.ref b119), (.ref b151), (.ref b151)])) rfl (by rw [hml]; rfl) (Steps.refl _) (a := b151) (argsL := [(.ref b119), (.ref b1), (.ref b48)]) (rest := [(.ref b151)]) (lenOf own_pd2 rfl) rfl (by show 2 * 0 + _ ≤ _; exact Nat.le_of_eq rfl) (hb hby at_162) (fun _ _ => ⟨rfl, e151, (by decide : 4 + 0 ≤ _), (by decide : 15 + 0 ≤ _)⟩)
  dsimp only [Pt.U, Pt.locs, Pt.cells, Pt.slots] at X163 l163 y163 z163 st163 hQ163
  rw [l163, (y163 : k163 = 4), (z163 : n163 = 15)] at X163
  clear l163 y163 z163
  obtain ⟨rfl, N164, K164, c164_0, c164_1, c164_2⟩ := hQ163
  have f165 := f152.keep K164
  have f166 := f153.keep K164 (ninS ne_b1_b151 nin0)
  have f167 := f154.keep K164
  have f168 := f155.keep K164 (ninS ne_b48_b151 nin0)
  have f169 := f156.keep K164
  have f170 := f157.keep K164 (ninS ne_b119_b151 nin0)
  have f171 := A151.keep K164
  have k172 := k158.trans K164 (allS (Or.inr sz_b151) all0)
  have nf173 := Fr.app nf147 N164
  have hT := own_mktree p2 p3
  obtain ⟨x_, hx_, hx5⟩ := own_br p0
  obtain ⟨y_, hy_, hy5⟩ := own_br p1
  have zs174 : n0 ≤ T163.heap.size := Nat.le_trans Z0 k172.1
  obtain ⟨cq176, kq176, q176a, q176b, q176c⟩ := isOf hZ rfl f171
  obtain ⟨_, _, ⟨T175, L175, k175, n175⟩, -, X175, ⟨Lc175, hQ175, l175, y175, z175⟩, st175⟩ := X163.virtualBack hx (y := (⟨"com/example/unfold/unfold/reduction/Splitting", "separation", "(II)I"⟩ : MethodName)) (z := (⟨"com/example/unfold/unfold/reduction/Splitting", "separation", "(II)I"⟩ : MethodName)) hown (mvT hZ (hw _ (List.mem_of_getElem? (i := 17) rfl))) (mvT hZ (hw _ (List.mem_of_getElem? (i := 18) rfl))) (notFace_of_selects (args := #[]) (mvT hZ (hw _ (List.mem_of_getElem? (i := 20) rfl)))) (mvT hZ (hw _ (List.mem_of_getElem? (i := 20) rfl))) (mvT hZ (hw _ (List.mem_of_getElem? (i := 19) rfl))) (by decide) (backOf (W := 0) (own_rm_sep l Z a0 hw [] b151 b119 b1 b48 (own_v2 (own_b p0) (own_b p1)) (own_v5 (0 : Int32) (0 : Int32) (own_q2 p2) (own_q3 p2) (own_q4 p2)) (own_v5 (0 : Int32) (own_s1 p3) (own_s2 p2 p3) (own_s3 p2 p3) (own_s4 p2 p3)) x_ y_ T163.heap n0 zs174 c164_0 c164_1 c164_2 f170 f166 f168 hx_ hx5 hy_ hy5 hT) hZ (hw _ (List.mem_of_getElem? (i := 21) rfl)) (hw _ (List.mem_of_getElem? (i := 4) rfl)) (by decide) (by decide)) q176a q176c (g := (mkF m 171 #[.val (.int p0), .val (.int p1), .val (.int p2), .val (.int p3), .val (.ref b1), .val (.ref b48), .val (.int (own_b p0)), .val (.int (own_b p1)), .val (.ref b119), .val (.ref b151), .unset, .unset] [(.int (1 : Int32)), (.int (0 : Int32)), (.ref b151)])) rfl (by rw [hml]; rfl) (Steps.refl _) (argsL := [(.int (0 : Int32)), (.int (1 : Int32))]) (rest := []) (lenOf own_pd1 rfl) rfl (by show 2 * 0 + _ ≤ _; exact Nat.le_of_eq rfl) (hb hby at_171) (fun _ _ => ⟨rfl, rfl, (by decide : 4 + 0 ≤ _), (by decide : 15 + 0 ≤ _)⟩)
  dsimp only [Pt.U, Pt.locs, Pt.cells, Pt.slots] at X175 l175 y175 z175 st175 hQ175
  rw [l175, (y175 : k175 = 4), (z175 : n175 = 15)] at X175
  clear l175 y175 z175
  obtain ⟨rfl, N177, eq177⟩ := hQ175
  have nf178 := Fr.app nf173 N177
  have pre179 : ∀ t, Steps p.tables e below (T175.setTop (mkF m 176 #[.val (.int p0), .val (.int p1), .val (.int p2), .val (.int p3), .val (.ref b1), .val (.ref b48), .val (.int (own_b p0)), .val (.int (own_b p1)), .val (.ref b119), .val (.ref b151), .val (.int (own_sep (own_v5 (0 : Int32) (0 : Int32) (own_q2 p2) (own_q3 p2) (own_q4 p2)) (own_v5 (0 : Int32) (own_s1 p3) (own_s2 p2 p3) (own_s3 p2 p3) (own_s4 p2 p3)) 9 x_ y_ 0)), .unset] [])) t → Steps p.tables e below (s₁.setTop (entryFrame m #[(.int p0), (.int p1), (.int p2), (.int p3)] maxLocals)) t := by
    intro t kt
    refine pre150 t ?_
    show Steps p.tables e below (T139.setTop (mkF m 152 #[.val (.int p0), .val (.int p1), .val (.int p2), .val (.int p3), .val (.ref b1), .val (.ref b48), .val (.int (own_b p0)), .val (.int (own_b p1)), .val (.ref b119), .unset, .unset, .unset] [])) _
    refine st151 _ ?_
    show Steps p.tables e below (T151.setTop (mkF m 155 #[.val (.int p0), .val (.int p1), .val (.int p2), .val (.int p3), .val (.ref b1), .val (.ref b48), .val (.int (own_b p0)), .val (.int (own_b p1)), .val (.ref b119), .unset, .unset, .unset] [(.ref b151)])) _
    refine XS.dup X151.here hx rfl (hb hby at_155) rfl rfl ?_
    show Steps p.tables e below (T151.setTop (mkF m 156 #[.val (.int p0), .val (.int p1), .val (.int p2), .val (.int p3), .val (.ref b1), .val (.ref b48), .val (.int (own_b p0)), .val (.int (own_b p1)), .val (.ref b119), .unset, .unset, .unset] [(.ref b151), (.ref b151)])) _
    refine XS.aload X151.here hx rfl (hb hby at_156) rfl rfl ?_
    show Steps p.tables e below (T151.setTop (mkF m 158 #[.val (.int p0), .val (.int p1), .val (.int p2), .val (.int p3), .val (.ref b1), .val (.ref b48), .val (.int (own_b p0)), .val (.int (own_b p1)), .val (.ref b119), .unset, .unset, .unset] [(.ref b119), (.ref b151), (.ref b151)])) _
    refine XS.aload X151.here hx rfl (hb hby at_158) rfl rfl ?_
    show Steps p.tables e below (T151.setTop (mkF m 160 #[.val (.int p0), .val (.int p1), .val (.int p2), .val (.int p3), .val (.ref b1), .val (.ref b48), .val (.int (own_b p0)), .val (.int (own_b p1)), .val (.ref b119), .unset, .unset, .unset] [(.ref b1), (.ref b119), (.ref b151), (.ref b151)])) _
    refine XS.aload X151.here hx rfl (hb hby at_160) rfl rfl ?_
    show Steps p.tables e below (T151.setTop (mkF m 162 #[.val (.int p0), .val (.int p1), .val (.int p2), .val (.int p3), .val (.ref b1), .val (.ref b48), .val (.int (own_b p0)), .val (.int (own_b p1)), .val (.ref b119), .unset, .unset, .unset] [(.ref b48), (.ref b1), (.ref b119), (.ref b151), (.ref b151)])) _
    refine st163.trans ?_
    show Steps p.tables e below (T163.setTop (mkF m 165 #[.val (.int p0), .val (.int p1), .val (.int p2), .val (.int p3), .val (.ref b1), .val (.ref b48), .val (.int (own_b p0)), .val (.int (own_b p1)), .val (.ref b119), .unset, .unset, .unset] [(.ref b151)])) _
    refine XS.astore X163.here hx rfl (hb hby at_165) rfl rfl (l' := #[.val (.int p0), .val (.int p1), .val (.int p2), .val (.int p3), .val (.ref b1), .val (.ref b48), .val (.int (own_b p0)), .val (.int (own_b p1)), .val (.ref b119), .val (.ref b151), .unset, .unset]) rfl ?_
    show Steps p.tables e below (T163.setTop (mkF m 167 #[.val (.int p0), .val (.int p1), .val (.int p2), .val (.int p3), .val (.ref b1), .val (.ref b48), .val (.int (own_b p0)), .val (.int (own_b p1)), .val (.ref b119), .val (.ref b151), .unset, .unset] [])) _
    refine XS.aload X163.here hx rfl (hb hby at_167) rfl rfl ?_
    show Steps p.tables e below (T163.setTop (mkF m 169 #[.val (.int p0), .val (.int p1), .val (.int p2), .val (.int p3), .val (.ref b1), .val (.ref b48), .val (.int (own_b p0)), .val (.int (own_b p1)), .val (.ref b119), .val (.ref b151), .unset, .unset] [(.ref b151)])) _
    refine XS.iconst X163.here hx rfl (hb hby at_169) ?_
    show Steps p.tables e below (T163.setTop (mkF m 170 #[.val (.int p0), .val (.int p1), .val (.int p2), .val (.int p3), .val (.ref b1), .val (.ref b48), .val (.int (own_b p0)), .val (.int (own_b p1)), .val (.ref b119), .val (.ref b151), .unset, .unset] [(.int (0 : Int32)), (.ref b151)])) _
    refine XS.iconst X163.here hx rfl (hb hby at_170) ?_
    show Steps p.tables e below (T163.setTop (mkF m 171 #[.val (.int p0), .val (.int p1), .val (.int p2), .val (.int p3), .val (.ref b1), .val (.ref b48), .val (.int (own_b p0)), .val (.int (own_b p1)), .val (.ref b119), .val (.ref b151), .unset, .unset] [(.int (1 : Int32)), (.int (0 : Int32)), (.ref b151)])) _
    refine st175.trans ?_
    show Steps p.tables e below (T175.setTop (mkF m 174 #[.val (.int p0), .val (.int p1), .val (.int p2), .val (.int p3), .val (.ref b1), .val (.ref b48), .val (.int (own_b p0)), .val (.int (own_b p1)), .val (.ref b119), .val (.ref b151), .unset, .unset] [(.int (own_sep (own_v5 (0 : Int32) (0 : Int32) (own_q2 p2) (own_q3 p2) (own_q4 p2)) (own_v5 (0 : Int32) (own_s1 p3) (own_s2 p2 p3) (own_s3 p2 p3) (own_s4 p2 p3)) 9 x_ y_ 0))])) _
    refine XS.istore X175.here hx rfl (hb hby at_174) rfl (l' := #[.val (.int p0), .val (.int p1), .val (.int p2), .val (.int p3), .val (.ref b1), .val (.ref b48), .val (.int (own_b p0)), .val (.int (own_b p1)), .val (.ref b119), .val (.ref b151), .val (.int (own_sep (own_v5 (0 : Int32) (0 : Int32) (own_q2 p2) (own_q3 p2) (own_q4 p2)) (own_v5 (0 : Int32) (own_s1 p3) (own_s2 p2 p3) (own_s3 p2 p3) (own_s4 p2 p3)) 9 x_ y_ 0)), .unset]) rfl ?_
    exact kt
  have zs180 : n0 ≤ T163.heap.size := Nat.le_trans Z0 k172.1
  obtain ⟨_, _, ⟨T181, L181, k181, n181⟩, -, X181, ⟨Lc181, hQ181, l181, y181, z181⟩, st181⟩ := Jvm.LawKit.callS X175 hx (y := (⟨"com/example/unfold/unfold/reduction/SplittingSeparationPinLaw", "consider", "(IIII[I[I)I"⟩ : MethodName)) hown (mvT hZ (hw _ (List.mem_of_getElem? (i := 22) rfl))) (mvT hZ (hw _ (List.mem_of_getElem? (i := 23) rfl))) (mvT hZ (hw _ (List.mem_of_getElem? (i := 24) rfl))) (mvT hZ (hw _ (List.mem_of_getElem? (i := 25) rfl))) (by decide) (backOf (W := 0) (own_rm_con l Z a0 hw [] (0 : Int32) (1 : Int32) (own_b p0) (own_b p1) b1 b48 1 x_ y_ (own_v5 (0 : Int32) (0 : Int32) (own_q2 p2) (own_q3 p2) (own_q4 p2)) (own_v5 (0 : Int32) (own_s1 p3) (own_s2 p2 p3) (own_s3 p2 p3) (own_s4 p2 p3)) T163.heap n0 zs180 f166 f168 rfl (by decide) hx_ hx5 hy_ hy5 hT) hZ (hw _ (List.mem_of_getElem? (i := 25) rfl)) (hw _ (List.mem_of_getElem? (i := 24) rfl)) (by decide) (by decide)) (g := (mkF m 190 #[.val (.int p0), .val (.int p1), .val (.int p2), .val (.int p3), .val (.ref b1), .val (.ref b48), .val (.int (own_b p0)), .val (.int (own_b p1)), .val (.ref b119), .val (.ref b151), .val (.int (own_sep (own_v5 (0 : Int32) (0 : Int32) (own_q2 p2) (own_q3 p2) (own_q4 p2)) (own_v5 (0 : Int32) (own_s1 p3) (own_s2 p2 p3) (own_s3 p2 p3) (own_s4 p2 p3)) 9 x_ y_ 0)), .val (.int (0 : Int32))] [(.ref b48), (.ref b1), (.int (own_b p1)), (.int (own_b p0)), (.int (1 : Int32)), (.int (0 : Int32))])) rfl (by rw [hml]; rfl) (argsL := [(.int (0 : Int32)), (.int (1 : Int32)), (.int (own_b p0)), (.int (own_b p1)), (.ref b1), (.ref b48)]) (rest := []) (lenOf own_pd3 rfl) rfl (by show 2 * 0 + _ ≤ _; exact Nat.le_of_eq rfl) (hb hby at_190) (fun _ _ => ⟨rfl, eq177, (by decide : 4 + 0 ≤ _), (by decide : 15 + 0 ≤ _)⟩)
  dsimp only [Pt.U, Pt.locs, Pt.cells, Pt.slots] at X181 l181 y181 z181 st181 hQ181
  rw [l181, (y181 : k181 = 4), (z181 : n181 = 15)] at X181
  clear l181 y181 z181
  obtain ⟨rfl, N182, eq182⟩ := hQ181
  have nf183 := Fr.app nf178 N182
  have pre184 : ∀ t, Steps p.tables e below (T181.setTop (mkF m 198 #[.val (.int p0), .val (.int p1), .val (.int p2), .val (.int p3), .val (.ref b1), .val (.ref b48), .val (.int (own_b p0)), .val (.int (own_b p1)), .val (.ref b119), .val (.ref b151), .val (.int (own_sep (own_v5 (0 : Int32) (0 : Int32) (own_q2 p2) (own_q3 p2) (own_q4 p2)) (own_v5 (0 : Int32) (own_s1 p3) (own_s2 p2 p3) (own_s3 p2 p3) (own_s4 p2 p3)) 9 x_ y_ 0)), .val (.int (own_con (own_v5 (0 : Int32) (0 : Int32) (own_q2 p2) (own_q3 p2) (own_q4 p2)) (own_v5 (0 : Int32) (own_s1 p3) (own_s2 p2 p3) (own_s3 p2 p3) (own_s4 p2 p3)) (0 : Int32) (1 : Int32) 1 x_ y_))] [(.int (2 : Int32)), (.int (own_con (own_v5 (0 : Int32) (0 : Int32) (own_q2 p2) (own_q3 p2) (own_q4 p2)) (own_v5 (0 : Int32) (own_s1 p3) (own_s2 p2 p3) (own_s3 p2 p3) (own_s4 p2 p3)) (0 : Int32) (1 : Int32) 1 x_ y_))])) t → Steps p.tables e below (s₁.setTop (entryFrame m #[(.int p0), (.int p1), (.int p2), (.int p3)] maxLocals)) t := by
    intro t kt
    refine pre179 t ?_
    show Steps p.tables e below (T175.setTop (mkF m 176 #[.val (.int p0), .val (.int p1), .val (.int p2), .val (.int p3), .val (.ref b1), .val (.ref b48), .val (.int (own_b p0)), .val (.int (own_b p1)), .val (.ref b119), .val (.ref b151), .val (.int (own_sep (own_v5 (0 : Int32) (0 : Int32) (own_q2 p2) (own_q3 p2) (own_q4 p2)) (own_v5 (0 : Int32) (own_s1 p3) (own_s2 p2 p3) (own_s3 p2 p3) (own_s4 p2 p3)) 9 x_ y_ 0)), .unset] [])) _
    refine XS.iconst X175.here hx rfl (hb hby at_176) ?_
    show Steps p.tables e below (T175.setTop (mkF m 177 #[.val (.int p0), .val (.int p1), .val (.int p2), .val (.int p3), .val (.ref b1), .val (.ref b48), .val (.int (own_b p0)), .val (.int (own_b p1)), .val (.ref b119), .val (.ref b151), .val (.int (own_sep (own_v5 (0 : Int32) (0 : Int32) (own_q2 p2) (own_q3 p2) (own_q4 p2)) (own_v5 (0 : Int32) (own_s1 p3) (own_s2 p2 p3) (own_s3 p2 p3) (own_s4 p2 p3)) 9 x_ y_ 0)), .unset] [(.int (0 : Int32))])) _
    refine XS.istore X175.here hx rfl (hb hby at_177) rfl (l' := #[.val (.int p0), .val (.int p1), .val (.int p2), .val (.int p3), .val (.ref b1), .val (.ref b48), .val (.int (own_b p0)), .val (.int (own_b p1)), .val (.ref b119), .val (.ref b151), .val (.int (own_sep (own_v5 (0 : Int32) (0 : Int32) (own_q2 p2) (own_q3 p2) (own_q4 p2)) (own_v5 (0 : Int32) (own_s1 p3) (own_s2 p2 p3) (own_s3 p2 p3) (own_s4 p2 p3)) 9 x_ y_ 0)), .val (.int (0 : Int32))]) rfl ?_
    show Steps p.tables e below (T175.setTop (mkF m 179 #[.val (.int p0), .val (.int p1), .val (.int p2), .val (.int p3), .val (.ref b1), .val (.ref b48), .val (.int (own_b p0)), .val (.int (own_b p1)), .val (.ref b119), .val (.ref b151), .val (.int (own_sep (own_v5 (0 : Int32) (0 : Int32) (own_q2 p2) (own_q3 p2) (own_q4 p2)) (own_v5 (0 : Int32) (own_s1 p3) (own_s2 p2 p3) (own_s3 p2 p3) (own_s4 p2 p3)) 9 x_ y_ 0)), .val (.int (0 : Int32))] [])) _
    refine XS.iload X175.here hx rfl (hb hby at_179) rfl ?_
    show Steps p.tables e below (T175.setTop (mkF m 181 #[.val (.int p0), .val (.int p1), .val (.int p2), .val (.int p3), .val (.ref b1), .val (.ref b48), .val (.int (own_b p0)), .val (.int (own_b p1)), .val (.ref b119), .val (.ref b151), .val (.int (own_sep (own_v5 (0 : Int32) (0 : Int32) (own_q2 p2) (own_q3 p2) (own_q4 p2)) (own_v5 (0 : Int32) (own_s1 p3) (own_s2 p2 p3) (own_s3 p2 p3) (own_s4 p2 p3)) 9 x_ y_ 0)), .val (.int (0 : Int32))] [(.int (0 : Int32))])) _
    refine XS.iconst X175.here hx rfl (hb hby at_181) ?_
    show Steps p.tables e below (T175.setTop (mkF m 182 #[.val (.int p0), .val (.int p1), .val (.int p2), .val (.int p3), .val (.ref b1), .val (.ref b48), .val (.int (own_b p0)), .val (.int (own_b p1)), .val (.ref b119), .val (.ref b151), .val (.int (own_sep (own_v5 (0 : Int32) (0 : Int32) (own_q2 p2) (own_q3 p2) (own_q4 p2)) (own_v5 (0 : Int32) (own_s1 p3) (own_s2 p2 p3) (own_s3 p2 p3) (own_s4 p2 p3)) 9 x_ y_ 0)), .val (.int (0 : Int32))] [(.int (1 : Int32)), (.int (0 : Int32))])) _
    refine XS.iload X175.here hx rfl (hb hby at_182) rfl ?_
    show Steps p.tables e below (T175.setTop (mkF m 184 #[.val (.int p0), .val (.int p1), .val (.int p2), .val (.int p3), .val (.ref b1), .val (.ref b48), .val (.int (own_b p0)), .val (.int (own_b p1)), .val (.ref b119), .val (.ref b151), .val (.int (own_sep (own_v5 (0 : Int32) (0 : Int32) (own_q2 p2) (own_q3 p2) (own_q4 p2)) (own_v5 (0 : Int32) (own_s1 p3) (own_s2 p2 p3) (own_s3 p2 p3) (own_s4 p2 p3)) 9 x_ y_ 0)), .val (.int (0 : Int32))] [(.int (own_b p0)), (.int (1 : Int32)), (.int (0 : Int32))])) _
    refine XS.iload X175.here hx rfl (hb hby at_184) rfl ?_
    show Steps p.tables e below (T175.setTop (mkF m 186 #[.val (.int p0), .val (.int p1), .val (.int p2), .val (.int p3), .val (.ref b1), .val (.ref b48), .val (.int (own_b p0)), .val (.int (own_b p1)), .val (.ref b119), .val (.ref b151), .val (.int (own_sep (own_v5 (0 : Int32) (0 : Int32) (own_q2 p2) (own_q3 p2) (own_q4 p2)) (own_v5 (0 : Int32) (own_s1 p3) (own_s2 p2 p3) (own_s3 p2 p3) (own_s4 p2 p3)) 9 x_ y_ 0)), .val (.int (0 : Int32))] [(.int (own_b p1)), (.int (own_b p0)), (.int (1 : Int32)), (.int (0 : Int32))])) _
    refine XS.aload X175.here hx rfl (hb hby at_186) rfl rfl ?_
    show Steps p.tables e below (T175.setTop (mkF m 188 #[.val (.int p0), .val (.int p1), .val (.int p2), .val (.int p3), .val (.ref b1), .val (.ref b48), .val (.int (own_b p0)), .val (.int (own_b p1)), .val (.ref b119), .val (.ref b151), .val (.int (own_sep (own_v5 (0 : Int32) (0 : Int32) (own_q2 p2) (own_q3 p2) (own_q4 p2)) (own_v5 (0 : Int32) (own_s1 p3) (own_s2 p2 p3) (own_s3 p2 p3) (own_s4 p2 p3)) 9 x_ y_ 0)), .val (.int (0 : Int32))] [(.ref b1), (.int (own_b p1)), (.int (own_b p0)), (.int (1 : Int32)), (.int (0 : Int32))])) _
    refine XS.aload X175.here hx rfl (hb hby at_188) rfl rfl ?_
    show Steps p.tables e below (T175.setTop (mkF m 190 #[.val (.int p0), .val (.int p1), .val (.int p2), .val (.int p3), .val (.ref b1), .val (.ref b48), .val (.int (own_b p0)), .val (.int (own_b p1)), .val (.ref b119), .val (.ref b151), .val (.int (own_sep (own_v5 (0 : Int32) (0 : Int32) (own_q2 p2) (own_q3 p2) (own_q4 p2)) (own_v5 (0 : Int32) (own_s1 p3) (own_s2 p2 p3) (own_s3 p2 p3) (own_s4 p2 p3)) 9 x_ y_ 0)), .val (.int (0 : Int32))] [(.ref b48), (.ref b1), (.int (own_b p1)), (.int (own_b p0)), (.int (1 : Int32)), (.int (0 : Int32))])) _
    refine st181 _ ?_
    show Steps p.tables e below (T181.setTop (mkF m 193 #[.val (.int p0), .val (.int p1), .val (.int p2), .val (.int p3), .val (.ref b1), .val (.ref b48), .val (.int (own_b p0)), .val (.int (own_b p1)), .val (.ref b119), .val (.ref b151), .val (.int (own_sep (own_v5 (0 : Int32) (0 : Int32) (own_q2 p2) (own_q3 p2) (own_q4 p2)) (own_v5 (0 : Int32) (own_s1 p3) (own_s2 p2 p3) (own_s3 p2 p3) (own_s4 p2 p3)) 9 x_ y_ 0)), .val (.int (0 : Int32))] [(.int (own_con (own_v5 (0 : Int32) (0 : Int32) (own_q2 p2) (own_q3 p2) (own_q4 p2)) (own_v5 (0 : Int32) (own_s1 p3) (own_s2 p2 p3) (own_s3 p2 p3) (own_s4 p2 p3)) (0 : Int32) (1 : Int32) 1 x_ y_))])) _
    refine XS.istore X181.here hx rfl (hb hby at_193) rfl (l' := #[.val (.int p0), .val (.int p1), .val (.int p2), .val (.int p3), .val (.ref b1), .val (.ref b48), .val (.int (own_b p0)), .val (.int (own_b p1)), .val (.ref b119), .val (.ref b151), .val (.int (own_sep (own_v5 (0 : Int32) (0 : Int32) (own_q2 p2) (own_q3 p2) (own_q4 p2)) (own_v5 (0 : Int32) (own_s1 p3) (own_s2 p2 p3) (own_s3 p2 p3) (own_s4 p2 p3)) 9 x_ y_ 0)), .val (.int (own_con (own_v5 (0 : Int32) (0 : Int32) (own_q2 p2) (own_q3 p2) (own_q4 p2)) (own_v5 (0 : Int32) (own_s1 p3) (own_s2 p2 p3) (own_s3 p2 p3) (own_s4 p2 p3)) (0 : Int32) (1 : Int32) 1 x_ y_))]) rfl ?_
    show Steps p.tables e below (T181.setTop (mkF m 195 #[.val (.int p0), .val (.int p1), .val (.int p2), .val (.int p3), .val (.ref b1), .val (.ref b48), .val (.int (own_b p0)), .val (.int (own_b p1)), .val (.ref b119), .val (.ref b151), .val (.int (own_sep (own_v5 (0 : Int32) (0 : Int32) (own_q2 p2) (own_q3 p2) (own_q4 p2)) (own_v5 (0 : Int32) (own_s1 p3) (own_s2 p2 p3) (own_s3 p2 p3) (own_s4 p2 p3)) 9 x_ y_ 0)), .val (.int (own_con (own_v5 (0 : Int32) (0 : Int32) (own_q2 p2) (own_q3 p2) (own_q4 p2)) (own_v5 (0 : Int32) (own_s1 p3) (own_s2 p2 p3) (own_s3 p2 p3) (own_s4 p2 p3)) (0 : Int32) (1 : Int32) 1 x_ y_))] [])) _
    refine XS.iload X181.here hx rfl (hb hby at_195) rfl ?_
    show Steps p.tables e below (T181.setTop (mkF m 197 #[.val (.int p0), .val (.int p1), .val (.int p2), .val (.int p3), .val (.ref b1), .val (.ref b48), .val (.int (own_b p0)), .val (.int (own_b p1)), .val (.ref b119), .val (.ref b151), .val (.int (own_sep (own_v5 (0 : Int32) (0 : Int32) (own_q2 p2) (own_q3 p2) (own_q4 p2)) (own_v5 (0 : Int32) (own_s1 p3) (own_s2 p2 p3) (own_s3 p2 p3) (own_s4 p2 p3)) 9 x_ y_ 0)), .val (.int (own_con (own_v5 (0 : Int32) (0 : Int32) (own_q2 p2) (own_q3 p2) (own_q4 p2)) (own_v5 (0 : Int32) (own_s1 p3) (own_s2 p2 p3) (own_s3 p2 p3) (own_s4 p2 p3)) (0 : Int32) (1 : Int32) 1 x_ y_))] [(.int (own_con (own_v5 (0 : Int32) (0 : Int32) (own_q2 p2) (own_q3 p2) (own_q4 p2)) (own_v5 (0 : Int32) (own_s1 p3) (own_s2 p2 p3) (own_s3 p2 p3) (own_s4 p2 p3)) (0 : Int32) (1 : Int32) 1 x_ y_))])) _
    refine XS.iconst X181.here hx rfl (hb hby at_197) ?_
    exact kt
  have zs185 : n0 ≤ T163.heap.size := Nat.le_trans Z0 k172.1
  obtain ⟨_, _, ⟨T186, L186, k186, n186⟩, -, X186, ⟨Lc186, hQ186, l186, y186, z186⟩, st186⟩ := Jvm.LawKit.callS X181 hx (y := (⟨"com/example/unfold/unfold/reduction/SplittingSeparationPinLaw", "consider", "(IIII[I[I)I"⟩ : MethodName)) hown (mvT hZ (hw _ (List.mem_of_getElem? (i := 22) rfl))) (mvT hZ (hw _ (List.mem_of_getElem? (i := 23) rfl))) (mvT hZ (hw _ (List.mem_of_getElem? (i := 24) rfl))) (mvT hZ (hw _ (List.mem_of_getElem? (i := 25) rfl))) (by decide) (backOf (W := 0) (own_rm_con l Z a0 hw [] (own_con (own_v5 (0 : Int32) (0 : Int32) (own_q2 p2) (own_q3 p2) (own_q4 p2)) (own_v5 (0 : Int32) (own_s1 p3) (own_s2 p2 p3) (own_s3 p2 p3) (own_s4 p2 p3)) (0 : Int32) (1 : Int32) 1 x_ y_) (2 : Int32) (own_b p0) (own_b p1) b1 b48 2 x_ y_ (own_v5 (0 : Int32) (0 : Int32) (own_q2 p2) (own_q3 p2) (own_q4 p2)) (own_v5 (0 : Int32) (own_s1 p3) (own_s2 p2 p3) (own_s3 p2 p3) (own_s4 p2 p3)) T163.heap n0 zs185 f166 f168 rfl (by decide) hx_ hx5 hy_ hy5 hT) hZ (hw _ (List.mem_of_getElem? (i := 25) rfl)) (hw _ (List.mem_of_getElem? (i := 24) rfl)) (by decide) (by decide)) (g := (mkF m 206 #[.val (.int p0), .val (.int p1), .val (.int p2), .val (.int p3), .val (.ref b1), .val (.ref b48), .val (.int (own_b p0)), .val (.int (own_b p1)), .val (.ref b119), .val (.ref b151), .val (.int (own_sep (own_v5 (0 : Int32) (0 : Int32) (own_q2 p2) (own_q3 p2) (own_q4 p2)) (own_v5 (0 : Int32) (own_s1 p3) (own_s2 p2 p3) (own_s3 p2 p3) (own_s4 p2 p3)) 9 x_ y_ 0)), .val (.int (own_con (own_v5 (0 : Int32) (0 : Int32) (own_q2 p2) (own_q3 p2) (own_q4 p2)) (own_v5 (0 : Int32) (own_s1 p3) (own_s2 p2 p3) (own_s3 p2 p3) (own_s4 p2 p3)) (0 : Int32) (1 : Int32) 1 x_ y_))] [(.ref b48), (.ref b1), (.int (own_b p1)), (.int (own_b p0)), (.int (2 : Int32)), (.int (own_con (own_v5 (0 : Int32) (0 : Int32) (own_q2 p2) (own_q3 p2) (own_q4 p2)) (own_v5 (0 : Int32) (own_s1 p3) (own_s2 p2 p3) (own_s3 p2 p3) (own_s4 p2 p3)) (0 : Int32) (1 : Int32) 1 x_ y_))])) rfl (by rw [hml]; rfl) (argsL := [(.int (own_con (own_v5 (0 : Int32) (0 : Int32) (own_q2 p2) (own_q3 p2) (own_q4 p2)) (own_v5 (0 : Int32) (own_s1 p3) (own_s2 p2 p3) (own_s3 p2 p3) (own_s4 p2 p3)) (0 : Int32) (1 : Int32) 1 x_ y_)), (.int (2 : Int32)), (.int (own_b p0)), (.int (own_b p1)), (.ref b1), (.ref b48)]) (rest := []) (lenOf own_pd3 rfl) rfl (by show 2 * 0 + _ ≤ _; exact Nat.le_of_eq rfl) (hb hby at_206) (fun _ _ => ⟨rfl, eq182, (by decide : 4 + 0 ≤ _), (by decide : 15 + 0 ≤ _)⟩)
  dsimp only [Pt.U, Pt.locs, Pt.cells, Pt.slots] at X186 l186 y186 z186 st186 hQ186
  rw [l186, (y186 : k186 = 4), (z186 : n186 = 15)] at X186
  clear l186 y186 z186
  obtain ⟨rfl, N187, eq187⟩ := hQ186
  have nf188 := Fr.app nf183 N187
  have pre189 : ∀ t, Steps p.tables e below (T186.setTop (mkF m 222 #[.val (.int p0), .val (.int p1), .val (.int p2), .val (.int p3), .val (.ref b1), .val (.ref b48), .val (.int (own_b p0)), .val (.int (own_b p1)), .val (.ref b119), .val (.ref b151), .val (.int (own_sep (own_v5 (0 : Int32) (0 : Int32) (own_q2 p2) (own_q3 p2) (own_q4 p2)) (own_v5 (0 : Int32) (own_s1 p3) (own_s2 p2 p3) (own_s3 p2 p3) (own_s4 p2 p3)) 9 x_ y_ 0)), .val (.int (own_con (own_v5 (0 : Int32) (0 : Int32) (own_q2 p2) (own_q3 p2) (own_q4 p2)) (own_v5 (0 : Int32) (own_s1 p3) (own_s2 p2 p3) (own_s3 p2 p3) (own_s4 p2 p3)) (own_con (own_v5 (0 : Int32) (0 : Int32) (own_q2 p2) (own_q3 p2) (own_q4 p2)) (own_v5 (0 : Int32) (own_s1 p3) (own_s2 p2 p3) (own_s3 p2 p3) (own_s4 p2 p3)) (0 : Int32) (1 : Int32) 1 x_ y_) (2 : Int32) 2 x_ y_))] [(.ref b48), (.ref b1), (.int (own_b p1)), (.int (own_b p0)), (.int (3 : Int32)), (.int (own_con (own_v5 (0 : Int32) (0 : Int32) (own_q2 p2) (own_q3 p2) (own_q4 p2)) (own_v5 (0 : Int32) (own_s1 p3) (own_s2 p2 p3) (own_s3 p2 p3) (own_s4 p2 p3)) (own_con (own_v5 (0 : Int32) (0 : Int32) (own_q2 p2) (own_q3 p2) (own_q4 p2)) (own_v5 (0 : Int32) (own_s1 p3) (own_s2 p2 p3) (own_s3 p2 p3) (own_s4 p2 p3)) (0 : Int32) (1 : Int32) 1 x_ y_) (2 : Int32) 2 x_ y_))])) t → Steps p.tables e below (s₁.setTop (entryFrame m #[(.int p0), (.int p1), (.int p2), (.int p3)] maxLocals)) t := by
    intro t kt
    refine pre184 t ?_
    show Steps p.tables e below (T181.setTop (mkF m 198 #[.val (.int p0), .val (.int p1), .val (.int p2), .val (.int p3), .val (.ref b1), .val (.ref b48), .val (.int (own_b p0)), .val (.int (own_b p1)), .val (.ref b119), .val (.ref b151), .val (.int (own_sep (own_v5 (0 : Int32) (0 : Int32) (own_q2 p2) (own_q3 p2) (own_q4 p2)) (own_v5 (0 : Int32) (own_s1 p3) (own_s2 p2 p3) (own_s3 p2 p3) (own_s4 p2 p3)) 9 x_ y_ 0)), .val (.int (own_con (own_v5 (0 : Int32) (0 : Int32) (own_q2 p2) (own_q3 p2) (own_q4 p2)) (own_v5 (0 : Int32) (own_s1 p3) (own_s2 p2 p3) (own_s3 p2 p3) (own_s4 p2 p3)) (0 : Int32) (1 : Int32) 1 x_ y_))] [(.int (2 : Int32)), (.int (own_con (own_v5 (0 : Int32) (0 : Int32) (own_q2 p2) (own_q3 p2) (own_q4 p2)) (own_v5 (0 : Int32) (own_s1 p3) (own_s2 p2 p3) (own_s3 p2 p3) (own_s4 p2 p3)) (0 : Int32) (1 : Int32) 1 x_ y_))])) _
    refine XS.iload X181.here hx rfl (hb hby at_198) rfl ?_
    show Steps p.tables e below (T181.setTop (mkF m 200 #[.val (.int p0), .val (.int p1), .val (.int p2), .val (.int p3), .val (.ref b1), .val (.ref b48), .val (.int (own_b p0)), .val (.int (own_b p1)), .val (.ref b119), .val (.ref b151), .val (.int (own_sep (own_v5 (0 : Int32) (0 : Int32) (own_q2 p2) (own_q3 p2) (own_q4 p2)) (own_v5 (0 : Int32) (own_s1 p3) (own_s2 p2 p3) (own_s3 p2 p3) (own_s4 p2 p3)) 9 x_ y_ 0)), .val (.int (own_con (own_v5 (0 : Int32) (0 : Int32) (own_q2 p2) (own_q3 p2) (own_q4 p2)) (own_v5 (0 : Int32) (own_s1 p3) (own_s2 p2 p3) (own_s3 p2 p3) (own_s4 p2 p3)) (0 : Int32) (1 : Int32) 1 x_ y_))] [(.int (own_b p0)), (.int (2 : Int32)), (.int (own_con (own_v5 (0 : Int32) (0 : Int32) (own_q2 p2) (own_q3 p2) (own_q4 p2)) (own_v5 (0 : Int32) (own_s1 p3) (own_s2 p2 p3) (own_s3 p2 p3) (own_s4 p2 p3)) (0 : Int32) (1 : Int32) 1 x_ y_))])) _
    refine XS.iload X181.here hx rfl (hb hby at_200) rfl ?_
    show Steps p.tables e below (T181.setTop (mkF m 202 #[.val (.int p0), .val (.int p1), .val (.int p2), .val (.int p3), .val (.ref b1), .val (.ref b48), .val (.int (own_b p0)), .val (.int (own_b p1)), .val (.ref b119), .val (.ref b151), .val (.int (own_sep (own_v5 (0 : Int32) (0 : Int32) (own_q2 p2) (own_q3 p2) (own_q4 p2)) (own_v5 (0 : Int32) (own_s1 p3) (own_s2 p2 p3) (own_s3 p2 p3) (own_s4 p2 p3)) 9 x_ y_ 0)), .val (.int (own_con (own_v5 (0 : Int32) (0 : Int32) (own_q2 p2) (own_q3 p2) (own_q4 p2)) (own_v5 (0 : Int32) (own_s1 p3) (own_s2 p2 p3) (own_s3 p2 p3) (own_s4 p2 p3)) (0 : Int32) (1 : Int32) 1 x_ y_))] [(.int (own_b p1)), (.int (own_b p0)), (.int (2 : Int32)), (.int (own_con (own_v5 (0 : Int32) (0 : Int32) (own_q2 p2) (own_q3 p2) (own_q4 p2)) (own_v5 (0 : Int32) (own_s1 p3) (own_s2 p2 p3) (own_s3 p2 p3) (own_s4 p2 p3)) (0 : Int32) (1 : Int32) 1 x_ y_))])) _
    refine XS.aload X181.here hx rfl (hb hby at_202) rfl rfl ?_
    show Steps p.tables e below (T181.setTop (mkF m 204 #[.val (.int p0), .val (.int p1), .val (.int p2), .val (.int p3), .val (.ref b1), .val (.ref b48), .val (.int (own_b p0)), .val (.int (own_b p1)), .val (.ref b119), .val (.ref b151), .val (.int (own_sep (own_v5 (0 : Int32) (0 : Int32) (own_q2 p2) (own_q3 p2) (own_q4 p2)) (own_v5 (0 : Int32) (own_s1 p3) (own_s2 p2 p3) (own_s3 p2 p3) (own_s4 p2 p3)) 9 x_ y_ 0)), .val (.int (own_con (own_v5 (0 : Int32) (0 : Int32) (own_q2 p2) (own_q3 p2) (own_q4 p2)) (own_v5 (0 : Int32) (own_s1 p3) (own_s2 p2 p3) (own_s3 p2 p3) (own_s4 p2 p3)) (0 : Int32) (1 : Int32) 1 x_ y_))] [(.ref b1), (.int (own_b p1)), (.int (own_b p0)), (.int (2 : Int32)), (.int (own_con (own_v5 (0 : Int32) (0 : Int32) (own_q2 p2) (own_q3 p2) (own_q4 p2)) (own_v5 (0 : Int32) (own_s1 p3) (own_s2 p2 p3) (own_s3 p2 p3) (own_s4 p2 p3)) (0 : Int32) (1 : Int32) 1 x_ y_))])) _
    refine XS.aload X181.here hx rfl (hb hby at_204) rfl rfl ?_
    show Steps p.tables e below (T181.setTop (mkF m 206 #[.val (.int p0), .val (.int p1), .val (.int p2), .val (.int p3), .val (.ref b1), .val (.ref b48), .val (.int (own_b p0)), .val (.int (own_b p1)), .val (.ref b119), .val (.ref b151), .val (.int (own_sep (own_v5 (0 : Int32) (0 : Int32) (own_q2 p2) (own_q3 p2) (own_q4 p2)) (own_v5 (0 : Int32) (own_s1 p3) (own_s2 p2 p3) (own_s3 p2 p3) (own_s4 p2 p3)) 9 x_ y_ 0)), .val (.int (own_con (own_v5 (0 : Int32) (0 : Int32) (own_q2 p2) (own_q3 p2) (own_q4 p2)) (own_v5 (0 : Int32) (own_s1 p3) (own_s2 p2 p3) (own_s3 p2 p3) (own_s4 p2 p3)) (0 : Int32) (1 : Int32) 1 x_ y_))] [(.ref b48), (.ref b1), (.int (own_b p1)), (.int (own_b p0)), (.int (2 : Int32)), (.int (own_con (own_v5 (0 : Int32) (0 : Int32) (own_q2 p2) (own_q3 p2) (own_q4 p2)) (own_v5 (0 : Int32) (own_s1 p3) (own_s2 p2 p3) (own_s3 p2 p3) (own_s4 p2 p3)) (0 : Int32) (1 : Int32) 1 x_ y_))])) _
    refine st186 _ ?_
    show Steps p.tables e below (T186.setTop (mkF m 209 #[.val (.int p0), .val (.int p1), .val (.int p2), .val (.int p3), .val (.ref b1), .val (.ref b48), .val (.int (own_b p0)), .val (.int (own_b p1)), .val (.ref b119), .val (.ref b151), .val (.int (own_sep (own_v5 (0 : Int32) (0 : Int32) (own_q2 p2) (own_q3 p2) (own_q4 p2)) (own_v5 (0 : Int32) (own_s1 p3) (own_s2 p2 p3) (own_s3 p2 p3) (own_s4 p2 p3)) 9 x_ y_ 0)), .val (.int (own_con (own_v5 (0 : Int32) (0 : Int32) (own_q2 p2) (own_q3 p2) (own_q4 p2)) (own_v5 (0 : Int32) (own_s1 p3) (own_s2 p2 p3) (own_s3 p2 p3) (own_s4 p2 p3)) (0 : Int32) (1 : Int32) 1 x_ y_))] [(.int (own_con (own_v5 (0 : Int32) (0 : Int32) (own_q2 p2) (own_q3 p2) (own_q4 p2)) (own_v5 (0 : Int32) (own_s1 p3) (own_s2 p2 p3) (own_s3 p2 p3) (own_s4 p2 p3)) (own_con (own_v5 (0 : Int32) (0 : Int32) (own_q2 p2) (own_q3 p2) (own_q4 p2)) (own_v5 (0 : Int32) (own_s1 p3) (own_s2 p2 p3) (own_s3 p2 p3) (own_s4 p2 p3)) (0 : Int32) (1 : Int32) 1 x_ y_) (2 : Int32) 2 x_ y_))])) _
    refine XS.istore X186.here hx rfl (hb hby at_209) rfl (l' := #[.val (.int p0), .val (.int p1), .val (.int p2), .val (.int p3), .val (.ref b1), .val (.ref b48), .val (.int (own_b p0)), .val (.int (own_b p1)), .val (.ref b119), .val (.ref b151), .val (.int (own_sep (own_v5 (0 : Int32) (0 : Int32) (own_q2 p2) (own_q3 p2) (own_q4 p2)) (own_v5 (0 : Int32) (own_s1 p3) (own_s2 p2 p3) (own_s3 p2 p3) (own_s4 p2 p3)) 9 x_ y_ 0)), .val (.int (own_con (own_v5 (0 : Int32) (0 : Int32) (own_q2 p2) (own_q3 p2) (own_q4 p2)) (own_v5 (0 : Int32) (own_s1 p3) (own_s2 p2 p3) (own_s3 p2 p3) (own_s4 p2 p3)) (own_con (own_v5 (0 : Int32) (0 : Int32) (own_q2 p2) (own_q3 p2) (own_q4 p2)) (own_v5 (0 : Int32) (own_s1 p3) (own_s2 p2 p3) (own_s3 p2 p3) (own_s4 p2 p3)) (0 : Int32) (1 : Int32) 1 x_ y_) (2 : Int32) 2 x_ y_))]) rfl ?_
    show Steps p.tables e below (T186.setTop (mkF m 211 #[.val (.int p0), .val (.int p1), .val (.int p2), .val (.int p3), .val (.ref b1), .val (.ref b48), .val (.int (own_b p0)), .val (.int (own_b p1)), .val (.ref b119), .val (.ref b151), .val (.int (own_sep (own_v5 (0 : Int32) (0 : Int32) (own_q2 p2) (own_q3 p2) (own_q4 p2)) (own_v5 (0 : Int32) (own_s1 p3) (own_s2 p2 p3) (own_s3 p2 p3) (own_s4 p2 p3)) 9 x_ y_ 0)), .val (.int (own_con (own_v5 (0 : Int32) (0 : Int32) (own_q2 p2) (own_q3 p2) (own_q4 p2)) (own_v5 (0 : Int32) (own_s1 p3) (own_s2 p2 p3) (own_s3 p2 p3) (own_s4 p2 p3)) (own_con (own_v5 (0 : Int32) (0 : Int32) (own_q2 p2) (own_q3 p2) (own_q4 p2)) (own_v5 (0 : Int32) (own_s1 p3) (own_s2 p2 p3) (own_s3 p2 p3) (own_s4 p2 p3)) (0 : Int32) (1 : Int32) 1 x_ y_) (2 : Int32) 2 x_ y_))] [])) _
    refine XS.iload X186.here hx rfl (hb hby at_211) rfl ?_
    show Steps p.tables e below (T186.setTop (mkF m 213 #[.val (.int p0), .val (.int p1), .val (.int p2), .val (.int p3), .val (.ref b1), .val (.ref b48), .val (.int (own_b p0)), .val (.int (own_b p1)), .val (.ref b119), .val (.ref b151), .val (.int (own_sep (own_v5 (0 : Int32) (0 : Int32) (own_q2 p2) (own_q3 p2) (own_q4 p2)) (own_v5 (0 : Int32) (own_s1 p3) (own_s2 p2 p3) (own_s3 p2 p3) (own_s4 p2 p3)) 9 x_ y_ 0)), .val (.int (own_con (own_v5 (0 : Int32) (0 : Int32) (own_q2 p2) (own_q3 p2) (own_q4 p2)) (own_v5 (0 : Int32) (own_s1 p3) (own_s2 p2 p3) (own_s3 p2 p3) (own_s4 p2 p3)) (own_con (own_v5 (0 : Int32) (0 : Int32) (own_q2 p2) (own_q3 p2) (own_q4 p2)) (own_v5 (0 : Int32) (own_s1 p3) (own_s2 p2 p3) (own_s3 p2 p3) (own_s4 p2 p3)) (0 : Int32) (1 : Int32) 1 x_ y_) (2 : Int32) 2 x_ y_))] [(.int (own_con (own_v5 (0 : Int32) (0 : Int32) (own_q2 p2) (own_q3 p2) (own_q4 p2)) (own_v5 (0 : Int32) (own_s1 p3) (own_s2 p2 p3) (own_s3 p2 p3) (own_s4 p2 p3)) (own_con (own_v5 (0 : Int32) (0 : Int32) (own_q2 p2) (own_q3 p2) (own_q4 p2)) (own_v5 (0 : Int32) (own_s1 p3) (own_s2 p2 p3) (own_s3 p2 p3) (own_s4 p2 p3)) (0 : Int32) (1 : Int32) 1 x_ y_) (2 : Int32) 2 x_ y_))])) _
    refine XS.iconst X186.here hx rfl (hb hby at_213) ?_
    show Steps p.tables e below (T186.setTop (mkF m 214 #[.val (.int p0), .val (.int p1), .val (.int p2), .val (.int p3), .val (.ref b1), .val (.ref b48), .val (.int (own_b p0)), .val (.int (own_b p1)), .val (.ref b119), .val (.ref b151), .val (.int (own_sep (own_v5 (0 : Int32) (0 : Int32) (own_q2 p2) (own_q3 p2) (own_q4 p2)) (own_v5 (0 : Int32) (own_s1 p3) (own_s2 p2 p3) (own_s3 p2 p3) (own_s4 p2 p3)) 9 x_ y_ 0)), .val (.int (own_con (own_v5 (0 : Int32) (0 : Int32) (own_q2 p2) (own_q3 p2) (own_q4 p2)) (own_v5 (0 : Int32) (own_s1 p3) (own_s2 p2 p3) (own_s3 p2 p3) (own_s4 p2 p3)) (own_con (own_v5 (0 : Int32) (0 : Int32) (own_q2 p2) (own_q3 p2) (own_q4 p2)) (own_v5 (0 : Int32) (own_s1 p3) (own_s2 p2 p3) (own_s3 p2 p3) (own_s4 p2 p3)) (0 : Int32) (1 : Int32) 1 x_ y_) (2 : Int32) 2 x_ y_))] [(.int (3 : Int32)), (.int (own_con (own_v5 (0 : Int32) (0 : Int32) (own_q2 p2) (own_q3 p2) (own_q4 p2)) (own_v5 (0 : Int32) (own_s1 p3) (own_s2 p2 p3) (own_s3 p2 p3) (own_s4 p2 p3)) (own_con (own_v5 (0 : Int32) (0 : Int32) (own_q2 p2) (own_q3 p2) (own_q4 p2)) (own_v5 (0 : Int32) (own_s1 p3) (own_s2 p2 p3) (own_s3 p2 p3) (own_s4 p2 p3)) (0 : Int32) (1 : Int32) 1 x_ y_) (2 : Int32) 2 x_ y_))])) _
    refine XS.iload X186.here hx rfl (hb hby at_214) rfl ?_
    show Steps p.tables e below (T186.setTop (mkF m 216 #[.val (.int p0), .val (.int p1), .val (.int p2), .val (.int p3), .val (.ref b1), .val (.ref b48), .val (.int (own_b p0)), .val (.int (own_b p1)), .val (.ref b119), .val (.ref b151), .val (.int (own_sep (own_v5 (0 : Int32) (0 : Int32) (own_q2 p2) (own_q3 p2) (own_q4 p2)) (own_v5 (0 : Int32) (own_s1 p3) (own_s2 p2 p3) (own_s3 p2 p3) (own_s4 p2 p3)) 9 x_ y_ 0)), .val (.int (own_con (own_v5 (0 : Int32) (0 : Int32) (own_q2 p2) (own_q3 p2) (own_q4 p2)) (own_v5 (0 : Int32) (own_s1 p3) (own_s2 p2 p3) (own_s3 p2 p3) (own_s4 p2 p3)) (own_con (own_v5 (0 : Int32) (0 : Int32) (own_q2 p2) (own_q3 p2) (own_q4 p2)) (own_v5 (0 : Int32) (own_s1 p3) (own_s2 p2 p3) (own_s3 p2 p3) (own_s4 p2 p3)) (0 : Int32) (1 : Int32) 1 x_ y_) (2 : Int32) 2 x_ y_))] [(.int (own_b p0)), (.int (3 : Int32)), (.int (own_con (own_v5 (0 : Int32) (0 : Int32) (own_q2 p2) (own_q3 p2) (own_q4 p2)) (own_v5 (0 : Int32) (own_s1 p3) (own_s2 p2 p3) (own_s3 p2 p3) (own_s4 p2 p3)) (own_con (own_v5 (0 : Int32) (0 : Int32) (own_q2 p2) (own_q3 p2) (own_q4 p2)) (own_v5 (0 : Int32) (own_s1 p3) (own_s2 p2 p3) (own_s3 p2 p3) (own_s4 p2 p3)) (0 : Int32) (1 : Int32) 1 x_ y_) (2 : Int32) 2 x_ y_))])) _
    refine XS.iload X186.here hx rfl (hb hby at_216) rfl ?_
    show Steps p.tables e below (T186.setTop (mkF m 218 #[.val (.int p0), .val (.int p1), .val (.int p2), .val (.int p3), .val (.ref b1), .val (.ref b48), .val (.int (own_b p0)), .val (.int (own_b p1)), .val (.ref b119), .val (.ref b151), .val (.int (own_sep (own_v5 (0 : Int32) (0 : Int32) (own_q2 p2) (own_q3 p2) (own_q4 p2)) (own_v5 (0 : Int32) (own_s1 p3) (own_s2 p2 p3) (own_s3 p2 p3) (own_s4 p2 p3)) 9 x_ y_ 0)), .val (.int (own_con (own_v5 (0 : Int32) (0 : Int32) (own_q2 p2) (own_q3 p2) (own_q4 p2)) (own_v5 (0 : Int32) (own_s1 p3) (own_s2 p2 p3) (own_s3 p2 p3) (own_s4 p2 p3)) (own_con (own_v5 (0 : Int32) (0 : Int32) (own_q2 p2) (own_q3 p2) (own_q4 p2)) (own_v5 (0 : Int32) (own_s1 p3) (own_s2 p2 p3) (own_s3 p2 p3) (own_s4 p2 p3)) (0 : Int32) (1 : Int32) 1 x_ y_) (2 : Int32) 2 x_ y_))] [(.int (own_b p1)), (.int (own_b p0)), (.int (3 : Int32)), (.int (own_con (own_v5 (0 : Int32) (0 : Int32) (own_q2 p2) (own_q3 p2) (own_q4 p2)) (own_v5 (0 : Int32) (own_s1 p3) (own_s2 p2 p3) (own_s3 p2 p3) (own_s4 p2 p3)) (own_con (own_v5 (0 : Int32) (0 : Int32) (own_q2 p2) (own_q3 p2) (own_q4 p2)) (own_v5 (0 : Int32) (own_s1 p3) (own_s2 p2 p3) (own_s3 p2 p3) (own_s4 p2 p3)) (0 : Int32) (1 : Int32) 1 x_ y_) (2 : Int32) 2 x_ y_))])) _
    refine XS.aload X186.here hx rfl (hb hby at_218) rfl rfl ?_
    show Steps p.tables e below (T186.setTop (mkF m 220 #[.val (.int p0), .val (.int p1), .val (.int p2), .val (.int p3), .val (.ref b1), .val (.ref b48), .val (.int (own_b p0)), .val (.int (own_b p1)), .val (.ref b119), .val (.ref b151), .val (.int (own_sep (own_v5 (0 : Int32) (0 : Int32) (own_q2 p2) (own_q3 p2) (own_q4 p2)) (own_v5 (0 : Int32) (own_s1 p3) (own_s2 p2 p3) (own_s3 p2 p3) (own_s4 p2 p3)) 9 x_ y_ 0)), .val (.int (own_con (own_v5 (0 : Int32) (0 : Int32) (own_q2 p2) (own_q3 p2) (own_q4 p2)) (own_v5 (0 : Int32) (own_s1 p3) (own_s2 p2 p3) (own_s3 p2 p3) (own_s4 p2 p3)) (own_con (own_v5 (0 : Int32) (0 : Int32) (own_q2 p2) (own_q3 p2) (own_q4 p2)) (own_v5 (0 : Int32) (own_s1 p3) (own_s2 p2 p3) (own_s3 p2 p3) (own_s4 p2 p3)) (0 : Int32) (1 : Int32) 1 x_ y_) (2 : Int32) 2 x_ y_))] [(.ref b1), (.int (own_b p1)), (.int (own_b p0)), (.int (3 : Int32)), (.int (own_con (own_v5 (0 : Int32) (0 : Int32) (own_q2 p2) (own_q3 p2) (own_q4 p2)) (own_v5 (0 : Int32) (own_s1 p3) (own_s2 p2 p3) (own_s3 p2 p3) (own_s4 p2 p3)) (own_con (own_v5 (0 : Int32) (0 : Int32) (own_q2 p2) (own_q3 p2) (own_q4 p2)) (own_v5 (0 : Int32) (own_s1 p3) (own_s2 p2 p3) (own_s3 p2 p3) (own_s4 p2 p3)) (0 : Int32) (1 : Int32) 1 x_ y_) (2 : Int32) 2 x_ y_))])) _
    refine XS.aload X186.here hx rfl (hb hby at_220) rfl rfl ?_
    exact kt
  have zs190 : n0 ≤ T163.heap.size := Nat.le_trans Z0 k172.1
  obtain ⟨_, _, ⟨T191, L191, k191, n191⟩, -, X191, ⟨Lc191, hQ191, l191, y191, z191⟩, st191⟩ := Jvm.LawKit.callS X186 hx (y := (⟨"com/example/unfold/unfold/reduction/SplittingSeparationPinLaw", "consider", "(IIII[I[I)I"⟩ : MethodName)) hown (mvT hZ (hw _ (List.mem_of_getElem? (i := 22) rfl))) (mvT hZ (hw _ (List.mem_of_getElem? (i := 23) rfl))) (mvT hZ (hw _ (List.mem_of_getElem? (i := 24) rfl))) (mvT hZ (hw _ (List.mem_of_getElem? (i := 25) rfl))) (by decide) (backOf (W := 0) (own_rm_con l Z a0 hw [] (own_con (own_v5 (0 : Int32) (0 : Int32) (own_q2 p2) (own_q3 p2) (own_q4 p2)) (own_v5 (0 : Int32) (own_s1 p3) (own_s2 p2 p3) (own_s3 p2 p3) (own_s4 p2 p3)) (own_con (own_v5 (0 : Int32) (0 : Int32) (own_q2 p2) (own_q3 p2) (own_q4 p2)) (own_v5 (0 : Int32) (own_s1 p3) (own_s2 p2 p3) (own_s3 p2 p3) (own_s4 p2 p3)) (0 : Int32) (1 : Int32) 1 x_ y_) (2 : Int32) 2 x_ y_) (3 : Int32) (own_b p0) (own_b p1) b1 b48 3 x_ y_ (own_v5 (0 : Int32) (0 : Int32) (own_q2 p2) (own_q3 p2) (own_q4 p2)) (own_v5 (0 : Int32) (own_s1 p3) (own_s2 p2 p3) (own_s3 p2 p3) (own_s4 p2 p3)) T163.heap n0 zs190 f166 f168 rfl (by decide) hx_ hx5 hy_ hy5 hT) hZ (hw _ (List.mem_of_getElem? (i := 25) rfl)) (hw _ (List.mem_of_getElem? (i := 24) rfl)) (by decide) (by decide)) (g := (mkF m 222 #[.val (.int p0), .val (.int p1), .val (.int p2), .val (.int p3), .val (.ref b1), .val (.ref b48), .val (.int (own_b p0)), .val (.int (own_b p1)), .val (.ref b119), .val (.ref b151), .val (.int (own_sep (own_v5 (0 : Int32) (0 : Int32) (own_q2 p2) (own_q3 p2) (own_q4 p2)) (own_v5 (0 : Int32) (own_s1 p3) (own_s2 p2 p3) (own_s3 p2 p3) (own_s4 p2 p3)) 9 x_ y_ 0)), .val (.int (own_con (own_v5 (0 : Int32) (0 : Int32) (own_q2 p2) (own_q3 p2) (own_q4 p2)) (own_v5 (0 : Int32) (own_s1 p3) (own_s2 p2 p3) (own_s3 p2 p3) (own_s4 p2 p3)) (own_con (own_v5 (0 : Int32) (0 : Int32) (own_q2 p2) (own_q3 p2) (own_q4 p2)) (own_v5 (0 : Int32) (own_s1 p3) (own_s2 p2 p3) (own_s3 p2 p3) (own_s4 p2 p3)) (0 : Int32) (1 : Int32) 1 x_ y_) (2 : Int32) 2 x_ y_))] [(.ref b48), (.ref b1), (.int (own_b p1)), (.int (own_b p0)), (.int (3 : Int32)), (.int (own_con (own_v5 (0 : Int32) (0 : Int32) (own_q2 p2) (own_q3 p2) (own_q4 p2)) (own_v5 (0 : Int32) (own_s1 p3) (own_s2 p2 p3) (own_s3 p2 p3) (own_s4 p2 p3)) (own_con (own_v5 (0 : Int32) (0 : Int32) (own_q2 p2) (own_q3 p2) (own_q4 p2)) (own_v5 (0 : Int32) (own_s1 p3) (own_s2 p2 p3) (own_s3 p2 p3) (own_s4 p2 p3)) (0 : Int32) (1 : Int32) 1 x_ y_) (2 : Int32) 2 x_ y_))])) rfl (by rw [hml]; rfl) (argsL := [(.int (own_con (own_v5 (0 : Int32) (0 : Int32) (own_q2 p2) (own_q3 p2) (own_q4 p2)) (own_v5 (0 : Int32) (own_s1 p3) (own_s2 p2 p3) (own_s3 p2 p3) (own_s4 p2 p3)) (own_con (own_v5 (0 : Int32) (0 : Int32) (own_q2 p2) (own_q3 p2) (own_q4 p2)) (own_v5 (0 : Int32) (own_s1 p3) (own_s2 p2 p3) (own_s3 p2 p3) (own_s4 p2 p3)) (0 : Int32) (1 : Int32) 1 x_ y_) (2 : Int32) 2 x_ y_)), (.int (3 : Int32)), (.int (own_b p0)), (.int (own_b p1)), (.ref b1), (.ref b48)]) (rest := []) (lenOf own_pd3 rfl) rfl (by show 2 * 0 + _ ≤ _; exact Nat.le_of_eq rfl) (hb hby at_222) (fun _ _ => ⟨rfl, eq187, (by decide : 4 + 0 ≤ _), (by decide : 15 + 0 ≤ _)⟩)
  dsimp only [Pt.U, Pt.locs, Pt.cells, Pt.slots] at X191 l191 y191 z191 st191 hQ191
  rw [l191, (y191 : k191 = 4), (z191 : n191 = 15)] at X191
  clear l191 y191 z191
  obtain ⟨rfl, N192, eq192⟩ := hQ191
  have nf193 := Fr.app nf188 N192
  have zs194 : n0 ≤ T163.heap.size := Nat.le_trans Z0 k172.1
  obtain ⟨_, _, ⟨T195, L195, k195, n195⟩, -, X195, ⟨Lc195, hQ195, l195, y195, z195⟩, st195⟩ := Jvm.LawKit.callS X191 hx (y := (⟨"com/example/unfold/unfold/reduction/SplittingSeparationPinLaw", "consider", "(IIII[I[I)I"⟩ : MethodName)) hown (mvT hZ (hw _ (List.mem_of_getElem? (i := 22) rfl))) (mvT hZ (hw _ (List.mem_of_getElem? (i := 23) rfl))) (mvT hZ (hw _ (List.mem_of_getElem? (i := 24) rfl))) (mvT hZ (hw _ (List.mem_of_getElem? (i := 25) rfl))) (by decide) (backOf (W := 0) (own_rm_con l Z a0 hw [] (own_con (own_v5 (0 : Int32) (0 : Int32) (own_q2 p2) (own_q3 p2) (own_q4 p2)) (own_v5 (0 : Int32) (own_s1 p3) (own_s2 p2 p3) (own_s3 p2 p3) (own_s4 p2 p3)) (own_con (own_v5 (0 : Int32) (0 : Int32) (own_q2 p2) (own_q3 p2) (own_q4 p2)) (own_v5 (0 : Int32) (own_s1 p3) (own_s2 p2 p3) (own_s3 p2 p3) (own_s4 p2 p3)) (own_con (own_v5 (0 : Int32) (0 : Int32) (own_q2 p2) (own_q3 p2) (own_q4 p2)) (own_v5 (0 : Int32) (own_s1 p3) (own_s2 p2 p3) (own_s3 p2 p3) (own_s4 p2 p3)) (0 : Int32) (1 : Int32) 1 x_ y_) (2 : Int32) 2 x_ y_) (3 : Int32) 3 x_ y_) (4 : Int32) (own_b p0) (own_b p1) b1 b48 4 x_ y_ (own_v5 (0 : Int32) (0 : Int32) (own_q2 p2) (own_q3 p2) (own_q4 p2)) (own_v5 (0 : Int32) (own_s1 p3) (own_s2 p2 p3) (own_s3 p2 p3) (own_s4 p2 p3)) T163.heap n0 zs194 f166 f168 rfl (by decide) hx_ hx5 hy_ hy5 hT) hZ (hw _ (List.mem_of_getElem? (i := 25) rfl)) (hw _ (List.mem_of_getElem? (i := 24) rfl)) (by decide) (by decide)) (g := (mkF m 238 #[.val (.int p0), .val (.int p1), .val (.int p2), .val (.int p3), .val (.ref b1), .val (.ref b48), .val (.int (own_b p0)), .val (.int (own_b p1)), .val (.ref b119), .val (.ref b151), .val (.int (own_sep (own_v5 (0 : Int32) (0 : Int32) (own_q2 p2) (own_q3 p2) (own_q4 p2)) (own_v5 (0 : Int32) (own_s1 p3) (own_s2 p2 p3) (own_s3 p2 p3) (own_s4 p2 p3)) 9 x_ y_ 0)), .val (.int (own_con (own_v5 (0 : Int32) (0 : Int32) (own_q2 p2) (own_q3 p2) (own_q4 p2)) (own_v5 (0 : Int32) (own_s1 p3) (own_s2 p2 p3) (own_s3 p2 p3) (own_s4 p2 p3)) (own_con (own_v5 (0 : Int32) (0 : Int32) (own_q2 p2) (own_q3 p2) (own_q4 p2)) (own_v5 (0 : Int32) (own_s1 p3) (own_s2 p2 p3) (own_s3 p2 p3) (own_s4 p2 p3)) (own_con (own_v5 (0 : Int32) (0 : Int32) (own_q2 p2) (own_q3 p2) (own_q4 p2)) (own_v5 (0 : Int32) (own_s1 p3) (own_s2 p2 p3) (own_s3 p2 p3) (own_s4 p2 p3)) (0 : Int32) (1 : Int32) 1 x_ y_) (2 : Int32) 2 x_ y_) (3 : Int32) 3 x_ y_))] [(.ref b48), (.ref b1), (.int (own_b p1)), (.int (own_b p0)), (.int (4 : Int32)), (.int (own_con (own_v5 (0 : Int32) (0 : Int32) (own_q2 p2) (own_q3 p2) (own_q4 p2)) (own_v5 (0 : Int32) (own_s1 p3) (own_s2 p2 p3) (own_s3 p2 p3) (own_s4 p2 p3)) (own_con (own_v5 (0 : Int32) (0 : Int32) (own_q2 p2) (own_q3 p2) (own_q4 p2)) (own_v5 (0 : Int32) (own_s1 p3) (own_s2 p2 p3) (own_s3 p2 p3) (own_s4 p2 p3)) (own_con (own_v5 (0 : Int32) (0 : Int32) (own_q2 p2) (own_q3 p2) (own_q4 p2)) (own_v5 (0 : Int32) (own_s1 p3) (own_s2 p2 p3) (own_s3 p2 p3) (own_s4 p2 p3)) (0 : Int32) (1 : Int32) 1 x_ y_) (2 : Int32) 2 x_ y_) (3 : Int32) 3 x_ y_))])) rfl (by rw [hml]; rfl) (argsL := [(.int (own_con (own_v5 (0 : Int32) (0 : Int32) (own_q2 p2) (own_q3 p2) (own_q4 p2)) (own_v5 (0 : Int32) (own_s1 p3) (own_s2 p2 p3) (own_s3 p2 p3) (own_s4 p2 p3)) (own_con (own_v5 (0 : Int32) (0 : Int32) (own_q2 p2) (own_q3 p2) (own_q4 p2)) (own_v5 (0 : Int32) (own_s1 p3) (own_s2 p2 p3) (own_s3 p2 p3) (own_s4 p2 p3)) (own_con (own_v5 (0 : Int32) (0 : Int32) (own_q2 p2) (own_q3 p2) (own_q4 p2)) (own_v5 (0 : Int32) (own_s1 p3) (own_s2 p2 p3) (own_s3 p2 p3) (own_s4 p2 p3)) (0 : Int32) (1 : Int32) 1 x_ y_) (2 : Int32) 2 x_ y_) (3 : Int32) 3 x_ y_)), (.int (4 : Int32)), (.int (own_b p0)), (.int (own_b p1)), (.ref b1), (.ref b48)]) (rest := []) (lenOf own_pd3 rfl) rfl (by show 2 * 0 + _ ≤ _; exact Nat.le_of_eq rfl) (hb hby at_238) (fun _ _ => ⟨rfl, eq192, (by decide : 4 + 0 ≤ _), (by decide : 15 + 0 ≤ _)⟩)
  dsimp only [Pt.U, Pt.locs, Pt.cells, Pt.slots] at X195 l195 y195 z195 st195 hQ195
  rw [l195, (y195 : k195 = 4), (z195 : n195 = 15)] at X195
  clear l195 y195 z195
  obtain ⟨rfl, N196, eq196⟩ := hQ195
  have nf197 := Fr.app nf193 N196
  have pre198 : ∀ t, Steps p.tables e below (T195.setTop (mkF m 247 #[.val (.int p0), .val (.int p1), .val (.int p2), .val (.int p3), .val (.ref b1), .val (.ref b48), .val (.int (own_b p0)), .val (.int (own_b p1)), .val (.ref b119), .val (.ref b151), .val (.int (own_sep (own_v5 (0 : Int32) (0 : Int32) (own_q2 p2) (own_q3 p2) (own_q4 p2)) (own_v5 (0 : Int32) (own_s1 p3) (own_s2 p2 p3) (own_s3 p2 p3) (own_s4 p2 p3)) 9 x_ y_ 0)), .val (.int (own_con (own_v5 (0 : Int32) (0 : Int32) (own_q2 p2) (own_q3 p2) (own_q4 p2)) (own_v5 (0 : Int32) (own_s1 p3) (own_s2 p2 p3) (own_s3 p2 p3) (own_s4 p2 p3)) (own_con (own_v5 (0 : Int32) (0 : Int32) (own_q2 p2) (own_q3 p2) (own_q4 p2)) (own_v5 (0 : Int32) (own_s1 p3) (own_s2 p2 p3) (own_s3 p2 p3) (own_s4 p2 p3)) (own_con (own_v5 (0 : Int32) (0 : Int32) (own_q2 p2) (own_q3 p2) (own_q4 p2)) (own_v5 (0 : Int32) (own_s1 p3) (own_s2 p2 p3) (own_s3 p2 p3) (own_s4 p2 p3)) (own_con (own_v5 (0 : Int32) (0 : Int32) (own_q2 p2) (own_q3 p2) (own_q4 p2)) (own_v5 (0 : Int32) (own_s1 p3) (own_s2 p2 p3) (own_s3 p2 p3) (own_s4 p2 p3)) (0 : Int32) (1 : Int32) 1 x_ y_) (2 : Int32) 2 x_ y_) (3 : Int32) 3 x_ y_) (4 : Int32) 4 x_ y_))] [(.int (own_con (own_v5 (0 : Int32) (0 : Int32) (own_q2 p2) (own_q3 p2) (own_q4 p2)) (own_v5 (0 : Int32) (own_s1 p3) (own_s2 p2 p3) (own_s3 p2 p3) (own_s4 p2 p3)) (own_con (own_v5 (0 : Int32) (0 : Int32) (own_q2 p2) (own_q3 p2) (own_q4 p2)) (own_v5 (0 : Int32) (own_s1 p3) (own_s2 p2 p3) (own_s3 p2 p3) (own_s4 p2 p3)) (own_con (own_v5 (0 : Int32) (0 : Int32) (own_q2 p2) (own_q3 p2) (own_q4 p2)) (own_v5 (0 : Int32) (own_s1 p3) (own_s2 p2 p3) (own_s3 p2 p3) (own_s4 p2 p3)) (own_con (own_v5 (0 : Int32) (0 : Int32) (own_q2 p2) (own_q3 p2) (own_q4 p2)) (own_v5 (0 : Int32) (own_s1 p3) (own_s2 p2 p3) (own_s3 p2 p3) (own_s4 p2 p3)) (0 : Int32) (1 : Int32) 1 x_ y_) (2 : Int32) 2 x_ y_) (3 : Int32) 3 x_ y_) (4 : Int32) 4 x_ y_)), (.int (own_sep (own_v5 (0 : Int32) (0 : Int32) (own_q2 p2) (own_q3 p2) (own_q4 p2)) (own_v5 (0 : Int32) (own_s1 p3) (own_s2 p2 p3) (own_s3 p2 p3) (own_s4 p2 p3)) 9 x_ y_ 0))])) t → Steps p.tables e below (s₁.setTop (entryFrame m #[(.int p0), (.int p1), (.int p2), (.int p3)] maxLocals)) t := by
    intro t kt
    refine pre189 t ?_
    show Steps p.tables e below (T186.setTop (mkF m 222 #[.val (.int p0), .val (.int p1), .val (.int p2), .val (.int p3), .val (.ref b1), .val (.ref b48), .val (.int (own_b p0)), .val (.int (own_b p1)), .val (.ref b119), .val (.ref b151), .val (.int (own_sep (own_v5 (0 : Int32) (0 : Int32) (own_q2 p2) (own_q3 p2) (own_q4 p2)) (own_v5 (0 : Int32) (own_s1 p3) (own_s2 p2 p3) (own_s3 p2 p3) (own_s4 p2 p3)) 9 x_ y_ 0)), .val (.int (own_con (own_v5 (0 : Int32) (0 : Int32) (own_q2 p2) (own_q3 p2) (own_q4 p2)) (own_v5 (0 : Int32) (own_s1 p3) (own_s2 p2 p3) (own_s3 p2 p3) (own_s4 p2 p3)) (own_con (own_v5 (0 : Int32) (0 : Int32) (own_q2 p2) (own_q3 p2) (own_q4 p2)) (own_v5 (0 : Int32) (own_s1 p3) (own_s2 p2 p3) (own_s3 p2 p3) (own_s4 p2 p3)) (0 : Int32) (1 : Int32) 1 x_ y_) (2 : Int32) 2 x_ y_))] [(.ref b48), (.ref b1), (.int (own_b p1)), (.int (own_b p0)), (.int (3 : Int32)), (.int (own_con (own_v5 (0 : Int32) (0 : Int32) (own_q2 p2) (own_q3 p2) (own_q4 p2)) (own_v5 (0 : Int32) (own_s1 p3) (own_s2 p2 p3) (own_s3 p2 p3) (own_s4 p2 p3)) (own_con (own_v5 (0 : Int32) (0 : Int32) (own_q2 p2) (own_q3 p2) (own_q4 p2)) (own_v5 (0 : Int32) (own_s1 p3) (own_s2 p2 p3) (own_s3 p2 p3) (own_s4 p2 p3)) (0 : Int32) (1 : Int32) 1 x_ y_) (2 : Int32) 2 x_ y_))])) _
    refine st191 _ ?_
    show Steps p.tables e below (T191.setTop (mkF m 225 #[.val (.int p0), .val (.int p1), .val (.int p2), .val (.int p3), .val (.ref b1), .val (.ref b48), .val (.int (own_b p0)), .val (.int (own_b p1)), .val (.ref b119), .val (.ref b151), .val (.int (own_sep (own_v5 (0 : Int32) (0 : Int32) (own_q2 p2) (own_q3 p2) (own_q4 p2)) (own_v5 (0 : Int32) (own_s1 p3) (own_s2 p2 p3) (own_s3 p2 p3) (own_s4 p2 p3)) 9 x_ y_ 0)), .val (.int (own_con (own_v5 (0 : Int32) (0 : Int32) (own_q2 p2) (own_q3 p2) (own_q4 p2)) (own_v5 (0 : Int32) (own_s1 p3) (own_s2 p2 p3) (own_s3 p2 p3) (own_s4 p2 p3)) (own_con (own_v5 (0 : Int32) (0 : Int32) (own_q2 p2) (own_q3 p2) (own_q4 p2)) (own_v5 (0 : Int32) (own_s1 p3) (own_s2 p2 p3) (own_s3 p2 p3) (own_s4 p2 p3)) (0 : Int32) (1 : Int32) 1 x_ y_) (2 : Int32) 2 x_ y_))] [(.int (own_con (own_v5 (0 : Int32) (0 : Int32) (own_q2 p2) (own_q3 p2) (own_q4 p2)) (own_v5 (0 : Int32) (own_s1 p3) (own_s2 p2 p3) (own_s3 p2 p3) (own_s4 p2 p3)) (own_con (own_v5 (0 : Int32) (0 : Int32) (own_q2 p2) (own_q3 p2) (own_q4 p2)) (own_v5 (0 : Int32) (own_s1 p3) (own_s2 p2 p3) (own_s3 p2 p3) (own_s4 p2 p3)) (own_con (own_v5 (0 : Int32) (0 : Int32) (own_q2 p2) (own_q3 p2) (own_q4 p2)) (own_v5 (0 : Int32) (own_s1 p3) (own_s2 p2 p3) (own_s3 p2 p3) (own_s4 p2 p3)) (0 : Int32) (1 : Int32) 1 x_ y_) (2 : Int32) 2 x_ y_) (3 : Int32) 3 x_ y_))])) _
    refine XS.istore X191.here hx rfl (hb hby at_225) rfl (l' := #[.val (.int p0), .val (.int p1), .val (.int p2), .val (.int p3), .val (.ref b1), .val (.ref b48), .val (.int (own_b p0)), .val (.int (own_b p1)), .val (.ref b119), .val (.ref b151), .val (.int (own_sep (own_v5 (0 : Int32) (0 : Int32) (own_q2 p2) (own_q3 p2) (own_q4 p2)) (own_v5 (0 : Int32) (own_s1 p3) (own_s2 p2 p3) (own_s3 p2 p3) (own_s4 p2 p3)) 9 x_ y_ 0)), .val (.int (own_con (own_v5 (0 : Int32) (0 : Int32) (own_q2 p2) (own_q3 p2) (own_q4 p2)) (own_v5 (0 : Int32) (own_s1 p3) (own_s2 p2 p3) (own_s3 p2 p3) (own_s4 p2 p3)) (own_con (own_v5 (0 : Int32) (0 : Int32) (own_q2 p2) (own_q3 p2) (own_q4 p2)) (own_v5 (0 : Int32) (own_s1 p3) (own_s2 p2 p3) (own_s3 p2 p3) (own_s4 p2 p3)) (own_con (own_v5 (0 : Int32) (0 : Int32) (own_q2 p2) (own_q3 p2) (own_q4 p2)) (own_v5 (0 : Int32) (own_s1 p3) (own_s2 p2 p3) (own_s3 p2 p3) (own_s4 p2 p3)) (0 : Int32) (1 : Int32) 1 x_ y_) (2 : Int32) 2 x_ y_) (3 : Int32) 3 x_ y_))]) rfl ?_
    show Steps p.tables e below (T191.setTop (mkF m 227 #[.val (.int p0), .val (.int p1), .val (.int p2), .val (.int p3), .val (.ref b1), .val (.ref b48), .val (.int (own_b p0)), .val (.int (own_b p1)), .val (.ref b119), .val (.ref b151), .val (.int (own_sep (own_v5 (0 : Int32) (0 : Int32) (own_q2 p2) (own_q3 p2) (own_q4 p2)) (own_v5 (0 : Int32) (own_s1 p3) (own_s2 p2 p3) (own_s3 p2 p3) (own_s4 p2 p3)) 9 x_ y_ 0)), .val (.int (own_con (own_v5 (0 : Int32) (0 : Int32) (own_q2 p2) (own_q3 p2) (own_q4 p2)) (own_v5 (0 : Int32) (own_s1 p3) (own_s2 p2 p3) (own_s3 p2 p3) (own_s4 p2 p3)) (own_con (own_v5 (0 : Int32) (0 : Int32) (own_q2 p2) (own_q3 p2) (own_q4 p2)) (own_v5 (0 : Int32) (own_s1 p3) (own_s2 p2 p3) (own_s3 p2 p3) (own_s4 p2 p3)) (own_con (own_v5 (0 : Int32) (0 : Int32) (own_q2 p2) (own_q3 p2) (own_q4 p2)) (own_v5 (0 : Int32) (own_s1 p3) (own_s2 p2 p3) (own_s3 p2 p3) (own_s4 p2 p3)) (0 : Int32) (1 : Int32) 1 x_ y_) (2 : Int32) 2 x_ y_) (3 : Int32) 3 x_ y_))] [])) _
    refine XS.iload X191.here hx rfl (hb hby at_227) rfl ?_
    show Steps p.tables e below (T191.setTop (mkF m 229 #[.val (.int p0), .val (.int p1), .val (.int p2), .val (.int p3), .val (.ref b1), .val (.ref b48), .val (.int (own_b p0)), .val (.int (own_b p1)), .val (.ref b119), .val (.ref b151), .val (.int (own_sep (own_v5 (0 : Int32) (0 : Int32) (own_q2 p2) (own_q3 p2) (own_q4 p2)) (own_v5 (0 : Int32) (own_s1 p3) (own_s2 p2 p3) (own_s3 p2 p3) (own_s4 p2 p3)) 9 x_ y_ 0)), .val (.int (own_con (own_v5 (0 : Int32) (0 : Int32) (own_q2 p2) (own_q3 p2) (own_q4 p2)) (own_v5 (0 : Int32) (own_s1 p3) (own_s2 p2 p3) (own_s3 p2 p3) (own_s4 p2 p3)) (own_con (own_v5 (0 : Int32) (0 : Int32) (own_q2 p2) (own_q3 p2) (own_q4 p2)) (own_v5 (0 : Int32) (own_s1 p3) (own_s2 p2 p3) (own_s3 p2 p3) (own_s4 p2 p3)) (own_con (own_v5 (0 : Int32) (0 : Int32) (own_q2 p2) (own_q3 p2) (own_q4 p2)) (own_v5 (0 : Int32) (own_s1 p3) (own_s2 p2 p3) (own_s3 p2 p3) (own_s4 p2 p3)) (0 : Int32) (1 : Int32) 1 x_ y_) (2 : Int32) 2 x_ y_) (3 : Int32) 3 x_ y_))] [(.int (own_con (own_v5 (0 : Int32) (0 : Int32) (own_q2 p2) (own_q3 p2) (own_q4 p2)) (own_v5 (0 : Int32) (own_s1 p3) (own_s2 p2 p3) (own_s3 p2 p3) (own_s4 p2 p3)) (own_con (own_v5 (0 : Int32) (0 : Int32) (own_q2 p2) (own_q3 p2) (own_q4 p2)) (own_v5 (0 : Int32) (own_s1 p3) (own_s2 p2 p3) (own_s3 p2 p3) (own_s4 p2 p3)) (own_con (own_v5 (0 : Int32) (0 : Int32) (own_q2 p2) (own_q3 p2) (own_q4 p2)) (own_v5 (0 : Int32) (own_s1 p3) (own_s2 p2 p3) (own_s3 p2 p3) (own_s4 p2 p3)) (0 : Int32) (1 : Int32) 1 x_ y_) (2 : Int32) 2 x_ y_) (3 : Int32) 3 x_ y_))])) _
    refine XS.iconst X191.here hx rfl (hb hby at_229) ?_
    show Steps p.tables e below (T191.setTop (mkF m 230 #[.val (.int p0), .val (.int p1), .val (.int p2), .val (.int p3), .val (.ref b1), .val (.ref b48), .val (.int (own_b p0)), .val (.int (own_b p1)), .val (.ref b119), .val (.ref b151), .val (.int (own_sep (own_v5 (0 : Int32) (0 : Int32) (own_q2 p2) (own_q3 p2) (own_q4 p2)) (own_v5 (0 : Int32) (own_s1 p3) (own_s2 p2 p3) (own_s3 p2 p3) (own_s4 p2 p3)) 9 x_ y_ 0)), .val (.int (own_con (own_v5 (0 : Int32) (0 : Int32) (own_q2 p2) (own_q3 p2) (own_q4 p2)) (own_v5 (0 : Int32) (own_s1 p3) (own_s2 p2 p3) (own_s3 p2 p3) (own_s4 p2 p3)) (own_con (own_v5 (0 : Int32) (0 : Int32) (own_q2 p2) (own_q3 p2) (own_q4 p2)) (own_v5 (0 : Int32) (own_s1 p3) (own_s2 p2 p3) (own_s3 p2 p3) (own_s4 p2 p3)) (own_con (own_v5 (0 : Int32) (0 : Int32) (own_q2 p2) (own_q3 p2) (own_q4 p2)) (own_v5 (0 : Int32) (own_s1 p3) (own_s2 p2 p3) (own_s3 p2 p3) (own_s4 p2 p3)) (0 : Int32) (1 : Int32) 1 x_ y_) (2 : Int32) 2 x_ y_) (3 : Int32) 3 x_ y_))] [(.int (4 : Int32)), (.int (own_con (own_v5 (0 : Int32) (0 : Int32) (own_q2 p2) (own_q3 p2) (own_q4 p2)) (own_v5 (0 : Int32) (own_s1 p3) (own_s2 p2 p3) (own_s3 p2 p3) (own_s4 p2 p3)) (own_con (own_v5 (0 : Int32) (0 : Int32) (own_q2 p2) (own_q3 p2) (own_q4 p2)) (own_v5 (0 : Int32) (own_s1 p3) (own_s2 p2 p3) (own_s3 p2 p3) (own_s4 p2 p3)) (own_con (own_v5 (0 : Int32) (0 : Int32) (own_q2 p2) (own_q3 p2) (own_q4 p2)) (own_v5 (0 : Int32) (own_s1 p3) (own_s2 p2 p3) (own_s3 p2 p3) (own_s4 p2 p3)) (0 : Int32) (1 : Int32) 1 x_ y_) (2 : Int32) 2 x_ y_) (3 : Int32) 3 x_ y_))])) _
    refine XS.iload X191.here hx rfl (hb hby at_230) rfl ?_
    show Steps p.tables e below (T191.setTop (mkF m 232 #[.val (.int p0), .val (.int p1), .val (.int p2), .val (.int p3), .val (.ref b1), .val (.ref b48), .val (.int (own_b p0)), .val (.int (own_b p1)), .val (.ref b119), .val (.ref b151), .val (.int (own_sep (own_v5 (0 : Int32) (0 : Int32) (own_q2 p2) (own_q3 p2) (own_q4 p2)) (own_v5 (0 : Int32) (own_s1 p3) (own_s2 p2 p3) (own_s3 p2 p3) (own_s4 p2 p3)) 9 x_ y_ 0)), .val (.int (own_con (own_v5 (0 : Int32) (0 : Int32) (own_q2 p2) (own_q3 p2) (own_q4 p2)) (own_v5 (0 : Int32) (own_s1 p3) (own_s2 p2 p3) (own_s3 p2 p3) (own_s4 p2 p3)) (own_con (own_v5 (0 : Int32) (0 : Int32) (own_q2 p2) (own_q3 p2) (own_q4 p2)) (own_v5 (0 : Int32) (own_s1 p3) (own_s2 p2 p3) (own_s3 p2 p3) (own_s4 p2 p3)) (own_con (own_v5 (0 : Int32) (0 : Int32) (own_q2 p2) (own_q3 p2) (own_q4 p2)) (own_v5 (0 : Int32) (own_s1 p3) (own_s2 p2 p3) (own_s3 p2 p3) (own_s4 p2 p3)) (0 : Int32) (1 : Int32) 1 x_ y_) (2 : Int32) 2 x_ y_) (3 : Int32) 3 x_ y_))] [(.int (own_b p0)), (.int (4 : Int32)), (.int (own_con (own_v5 (0 : Int32) (0 : Int32) (own_q2 p2) (own_q3 p2) (own_q4 p2)) (own_v5 (0 : Int32) (own_s1 p3) (own_s2 p2 p3) (own_s3 p2 p3) (own_s4 p2 p3)) (own_con (own_v5 (0 : Int32) (0 : Int32) (own_q2 p2) (own_q3 p2) (own_q4 p2)) (own_v5 (0 : Int32) (own_s1 p3) (own_s2 p2 p3) (own_s3 p2 p3) (own_s4 p2 p3)) (own_con (own_v5 (0 : Int32) (0 : Int32) (own_q2 p2) (own_q3 p2) (own_q4 p2)) (own_v5 (0 : Int32) (own_s1 p3) (own_s2 p2 p3) (own_s3 p2 p3) (own_s4 p2 p3)) (0 : Int32) (1 : Int32) 1 x_ y_) (2 : Int32) 2 x_ y_) (3 : Int32) 3 x_ y_))])) _
    refine XS.iload X191.here hx rfl (hb hby at_232) rfl ?_
    show Steps p.tables e below (T191.setTop (mkF m 234 #[.val (.int p0), .val (.int p1), .val (.int p2), .val (.int p3), .val (.ref b1), .val (.ref b48), .val (.int (own_b p0)), .val (.int (own_b p1)), .val (.ref b119), .val (.ref b151), .val (.int (own_sep (own_v5 (0 : Int32) (0 : Int32) (own_q2 p2) (own_q3 p2) (own_q4 p2)) (own_v5 (0 : Int32) (own_s1 p3) (own_s2 p2 p3) (own_s3 p2 p3) (own_s4 p2 p3)) 9 x_ y_ 0)), .val (.int (own_con (own_v5 (0 : Int32) (0 : Int32) (own_q2 p2) (own_q3 p2) (own_q4 p2)) (own_v5 (0 : Int32) (own_s1 p3) (own_s2 p2 p3) (own_s3 p2 p3) (own_s4 p2 p3)) (own_con (own_v5 (0 : Int32) (0 : Int32) (own_q2 p2) (own_q3 p2) (own_q4 p2)) (own_v5 (0 : Int32) (own_s1 p3) (own_s2 p2 p3) (own_s3 p2 p3) (own_s4 p2 p3)) (own_con (own_v5 (0 : Int32) (0 : Int32) (own_q2 p2) (own_q3 p2) (own_q4 p2)) (own_v5 (0 : Int32) (own_s1 p3) (own_s2 p2 p3) (own_s3 p2 p3) (own_s4 p2 p3)) (0 : Int32) (1 : Int32) 1 x_ y_) (2 : Int32) 2 x_ y_) (3 : Int32) 3 x_ y_))] [(.int (own_b p1)), (.int (own_b p0)), (.int (4 : Int32)), (.int (own_con (own_v5 (0 : Int32) (0 : Int32) (own_q2 p2) (own_q3 p2) (own_q4 p2)) (own_v5 (0 : Int32) (own_s1 p3) (own_s2 p2 p3) (own_s3 p2 p3) (own_s4 p2 p3)) (own_con (own_v5 (0 : Int32) (0 : Int32) (own_q2 p2) (own_q3 p2) (own_q4 p2)) (own_v5 (0 : Int32) (own_s1 p3) (own_s2 p2 p3) (own_s3 p2 p3) (own_s4 p2 p3)) (own_con (own_v5 (0 : Int32) (0 : Int32) (own_q2 p2) (own_q3 p2) (own_q4 p2)) (own_v5 (0 : Int32) (own_s1 p3) (own_s2 p2 p3) (own_s3 p2 p3) (own_s4 p2 p3)) (0 : Int32) (1 : Int32) 1 x_ y_) (2 : Int32) 2 x_ y_) (3 : Int32) 3 x_ y_))])) _
    refine XS.aload X191.here hx rfl (hb hby at_234) rfl rfl ?_
    show Steps p.tables e below (T191.setTop (mkF m 236 #[.val (.int p0), .val (.int p1), .val (.int p2), .val (.int p3), .val (.ref b1), .val (.ref b48), .val (.int (own_b p0)), .val (.int (own_b p1)), .val (.ref b119), .val (.ref b151), .val (.int (own_sep (own_v5 (0 : Int32) (0 : Int32) (own_q2 p2) (own_q3 p2) (own_q4 p2)) (own_v5 (0 : Int32) (own_s1 p3) (own_s2 p2 p3) (own_s3 p2 p3) (own_s4 p2 p3)) 9 x_ y_ 0)), .val (.int (own_con (own_v5 (0 : Int32) (0 : Int32) (own_q2 p2) (own_q3 p2) (own_q4 p2)) (own_v5 (0 : Int32) (own_s1 p3) (own_s2 p2 p3) (own_s3 p2 p3) (own_s4 p2 p3)) (own_con (own_v5 (0 : Int32) (0 : Int32) (own_q2 p2) (own_q3 p2) (own_q4 p2)) (own_v5 (0 : Int32) (own_s1 p3) (own_s2 p2 p3) (own_s3 p2 p3) (own_s4 p2 p3)) (own_con (own_v5 (0 : Int32) (0 : Int32) (own_q2 p2) (own_q3 p2) (own_q4 p2)) (own_v5 (0 : Int32) (own_s1 p3) (own_s2 p2 p3) (own_s3 p2 p3) (own_s4 p2 p3)) (0 : Int32) (1 : Int32) 1 x_ y_) (2 : Int32) 2 x_ y_) (3 : Int32) 3 x_ y_))] [(.ref b1), (.int (own_b p1)), (.int (own_b p0)), (.int (4 : Int32)), (.int (own_con (own_v5 (0 : Int32) (0 : Int32) (own_q2 p2) (own_q3 p2) (own_q4 p2)) (own_v5 (0 : Int32) (own_s1 p3) (own_s2 p2 p3) (own_s3 p2 p3) (own_s4 p2 p3)) (own_con (own_v5 (0 : Int32) (0 : Int32) (own_q2 p2) (own_q3 p2) (own_q4 p2)) (own_v5 (0 : Int32) (own_s1 p3) (own_s2 p2 p3) (own_s3 p2 p3) (own_s4 p2 p3)) (own_con (own_v5 (0 : Int32) (0 : Int32) (own_q2 p2) (own_q3 p2) (own_q4 p2)) (own_v5 (0 : Int32) (own_s1 p3) (own_s2 p2 p3) (own_s3 p2 p3) (own_s4 p2 p3)) (0 : Int32) (1 : Int32) 1 x_ y_) (2 : Int32) 2 x_ y_) (3 : Int32) 3 x_ y_))])) _
    refine XS.aload X191.here hx rfl (hb hby at_236) rfl rfl ?_
    show Steps p.tables e below (T191.setTop (mkF m 238 #[.val (.int p0), .val (.int p1), .val (.int p2), .val (.int p3), .val (.ref b1), .val (.ref b48), .val (.int (own_b p0)), .val (.int (own_b p1)), .val (.ref b119), .val (.ref b151), .val (.int (own_sep (own_v5 (0 : Int32) (0 : Int32) (own_q2 p2) (own_q3 p2) (own_q4 p2)) (own_v5 (0 : Int32) (own_s1 p3) (own_s2 p2 p3) (own_s3 p2 p3) (own_s4 p2 p3)) 9 x_ y_ 0)), .val (.int (own_con (own_v5 (0 : Int32) (0 : Int32) (own_q2 p2) (own_q3 p2) (own_q4 p2)) (own_v5 (0 : Int32) (own_s1 p3) (own_s2 p2 p3) (own_s3 p2 p3) (own_s4 p2 p3)) (own_con (own_v5 (0 : Int32) (0 : Int32) (own_q2 p2) (own_q3 p2) (own_q4 p2)) (own_v5 (0 : Int32) (own_s1 p3) (own_s2 p2 p3) (own_s3 p2 p3) (own_s4 p2 p3)) (own_con (own_v5 (0 : Int32) (0 : Int32) (own_q2 p2) (own_q3 p2) (own_q4 p2)) (own_v5 (0 : Int32) (own_s1 p3) (own_s2 p2 p3) (own_s3 p2 p3) (own_s4 p2 p3)) (0 : Int32) (1 : Int32) 1 x_ y_) (2 : Int32) 2 x_ y_) (3 : Int32) 3 x_ y_))] [(.ref b48), (.ref b1), (.int (own_b p1)), (.int (own_b p0)), (.int (4 : Int32)), (.int (own_con (own_v5 (0 : Int32) (0 : Int32) (own_q2 p2) (own_q3 p2) (own_q4 p2)) (own_v5 (0 : Int32) (own_s1 p3) (own_s2 p2 p3) (own_s3 p2 p3) (own_s4 p2 p3)) (own_con (own_v5 (0 : Int32) (0 : Int32) (own_q2 p2) (own_q3 p2) (own_q4 p2)) (own_v5 (0 : Int32) (own_s1 p3) (own_s2 p2 p3) (own_s3 p2 p3) (own_s4 p2 p3)) (own_con (own_v5 (0 : Int32) (0 : Int32) (own_q2 p2) (own_q3 p2) (own_q4 p2)) (own_v5 (0 : Int32) (own_s1 p3) (own_s2 p2 p3) (own_s3 p2 p3) (own_s4 p2 p3)) (0 : Int32) (1 : Int32) 1 x_ y_) (2 : Int32) 2 x_ y_) (3 : Int32) 3 x_ y_))])) _
    refine st195 _ ?_
    show Steps p.tables e below (T195.setTop (mkF m 241 #[.val (.int p0), .val (.int p1), .val (.int p2), .val (.int p3), .val (.ref b1), .val (.ref b48), .val (.int (own_b p0)), .val (.int (own_b p1)), .val (.ref b119), .val (.ref b151), .val (.int (own_sep (own_v5 (0 : Int32) (0 : Int32) (own_q2 p2) (own_q3 p2) (own_q4 p2)) (own_v5 (0 : Int32) (own_s1 p3) (own_s2 p2 p3) (own_s3 p2 p3) (own_s4 p2 p3)) 9 x_ y_ 0)), .val (.int (own_con (own_v5 (0 : Int32) (0 : Int32) (own_q2 p2) (own_q3 p2) (own_q4 p2)) (own_v5 (0 : Int32) (own_s1 p3) (own_s2 p2 p3) (own_s3 p2 p3) (own_s4 p2 p3)) (own_con (own_v5 (0 : Int32) (0 : Int32) (own_q2 p2) (own_q3 p2) (own_q4 p2)) (own_v5 (0 : Int32) (own_s1 p3) (own_s2 p2 p3) (own_s3 p2 p3) (own_s4 p2 p3)) (own_con (own_v5 (0 : Int32) (0 : Int32) (own_q2 p2) (own_q3 p2) (own_q4 p2)) (own_v5 (0 : Int32) (own_s1 p3) (own_s2 p2 p3) (own_s3 p2 p3) (own_s4 p2 p3)) (0 : Int32) (1 : Int32) 1 x_ y_) (2 : Int32) 2 x_ y_) (3 : Int32) 3 x_ y_))] [(.int (own_con (own_v5 (0 : Int32) (0 : Int32) (own_q2 p2) (own_q3 p2) (own_q4 p2)) (own_v5 (0 : Int32) (own_s1 p3) (own_s2 p2 p3) (own_s3 p2 p3) (own_s4 p2 p3)) (own_con (own_v5 (0 : Int32) (0 : Int32) (own_q2 p2) (own_q3 p2) (own_q4 p2)) (own_v5 (0 : Int32) (own_s1 p3) (own_s2 p2 p3) (own_s3 p2 p3) (own_s4 p2 p3)) (own_con (own_v5 (0 : Int32) (0 : Int32) (own_q2 p2) (own_q3 p2) (own_q4 p2)) (own_v5 (0 : Int32) (own_s1 p3) (own_s2 p2 p3) (own_s3 p2 p3) (own_s4 p2 p3)) (own_con (own_v5 (0 : Int32) (0 : Int32) (own_q2 p2) (own_q3 p2) (own_q4 p2)) (own_v5 (0 : Int32) (own_s1 p3) (own_s2 p2 p3) (own_s3 p2 p3) (own_s4 p2 p3)) (0 : Int32) (1 : Int32) 1 x_ y_) (2 : Int32) 2 x_ y_) (3 : Int32) 3 x_ y_) (4 : Int32) 4 x_ y_))])) _
    refine XS.istore X195.here hx rfl (hb hby at_241) rfl (l' := #[.val (.int p0), .val (.int p1), .val (.int p2), .val (.int p3), .val (.ref b1), .val (.ref b48), .val (.int (own_b p0)), .val (.int (own_b p1)), .val (.ref b119), .val (.ref b151), .val (.int (own_sep (own_v5 (0 : Int32) (0 : Int32) (own_q2 p2) (own_q3 p2) (own_q4 p2)) (own_v5 (0 : Int32) (own_s1 p3) (own_s2 p2 p3) (own_s3 p2 p3) (own_s4 p2 p3)) 9 x_ y_ 0)), .val (.int (own_con (own_v5 (0 : Int32) (0 : Int32) (own_q2 p2) (own_q3 p2) (own_q4 p2)) (own_v5 (0 : Int32) (own_s1 p3) (own_s2 p2 p3) (own_s3 p2 p3) (own_s4 p2 p3)) (own_con (own_v5 (0 : Int32) (0 : Int32) (own_q2 p2) (own_q3 p2) (own_q4 p2)) (own_v5 (0 : Int32) (own_s1 p3) (own_s2 p2 p3) (own_s3 p2 p3) (own_s4 p2 p3)) (own_con (own_v5 (0 : Int32) (0 : Int32) (own_q2 p2) (own_q3 p2) (own_q4 p2)) (own_v5 (0 : Int32) (own_s1 p3) (own_s2 p2 p3) (own_s3 p2 p3) (own_s4 p2 p3)) (own_con (own_v5 (0 : Int32) (0 : Int32) (own_q2 p2) (own_q3 p2) (own_q4 p2)) (own_v5 (0 : Int32) (own_s1 p3) (own_s2 p2 p3) (own_s3 p2 p3) (own_s4 p2 p3)) (0 : Int32) (1 : Int32) 1 x_ y_) (2 : Int32) 2 x_ y_) (3 : Int32) 3 x_ y_) (4 : Int32) 4 x_ y_))]) rfl ?_
    show Steps p.tables e below (T195.setTop (mkF m 243 #[.val (.int p0), .val (.int p1), .val (.int p2), .val (.int p3), .val (.ref b1), .val (.ref b48), .val (.int (own_b p0)), .val (.int (own_b p1)), .val (.ref b119), .val (.ref b151), .val (.int (own_sep (own_v5 (0 : Int32) (0 : Int32) (own_q2 p2) (own_q3 p2) (own_q4 p2)) (own_v5 (0 : Int32) (own_s1 p3) (own_s2 p2 p3) (own_s3 p2 p3) (own_s4 p2 p3)) 9 x_ y_ 0)), .val (.int (own_con (own_v5 (0 : Int32) (0 : Int32) (own_q2 p2) (own_q3 p2) (own_q4 p2)) (own_v5 (0 : Int32) (own_s1 p3) (own_s2 p2 p3) (own_s3 p2 p3) (own_s4 p2 p3)) (own_con (own_v5 (0 : Int32) (0 : Int32) (own_q2 p2) (own_q3 p2) (own_q4 p2)) (own_v5 (0 : Int32) (own_s1 p3) (own_s2 p2 p3) (own_s3 p2 p3) (own_s4 p2 p3)) (own_con (own_v5 (0 : Int32) (0 : Int32) (own_q2 p2) (own_q3 p2) (own_q4 p2)) (own_v5 (0 : Int32) (own_s1 p3) (own_s2 p2 p3) (own_s3 p2 p3) (own_s4 p2 p3)) (own_con (own_v5 (0 : Int32) (0 : Int32) (own_q2 p2) (own_q3 p2) (own_q4 p2)) (own_v5 (0 : Int32) (own_s1 p3) (own_s2 p2 p3) (own_s3 p2 p3) (own_s4 p2 p3)) (0 : Int32) (1 : Int32) 1 x_ y_) (2 : Int32) 2 x_ y_) (3 : Int32) 3 x_ y_) (4 : Int32) 4 x_ y_))] [])) _
    refine XS.iload X195.here hx rfl (hb hby at_243) rfl ?_
    show Steps p.tables e below (T195.setTop (mkF m 245 #[.val (.int p0), .val (.int p1), .val (.int p2), .val (.int p3), .val (.ref b1), .val (.ref b48), .val (.int (own_b p0)), .val (.int (own_b p1)), .val (.ref b119), .val (.ref b151), .val (.int (own_sep (own_v5 (0 : Int32) (0 : Int32) (own_q2 p2) (own_q3 p2) (own_q4 p2)) (own_v5 (0 : Int32) (own_s1 p3) (own_s2 p2 p3) (own_s3 p2 p3) (own_s4 p2 p3)) 9 x_ y_ 0)), .val (.int (own_con (own_v5 (0 : Int32) (0 : Int32) (own_q2 p2) (own_q3 p2) (own_q4 p2)) (own_v5 (0 : Int32) (own_s1 p3) (own_s2 p2 p3) (own_s3 p2 p3) (own_s4 p2 p3)) (own_con (own_v5 (0 : Int32) (0 : Int32) (own_q2 p2) (own_q3 p2) (own_q4 p2)) (own_v5 (0 : Int32) (own_s1 p3) (own_s2 p2 p3) (own_s3 p2 p3) (own_s4 p2 p3)) (own_con (own_v5 (0 : Int32) (0 : Int32) (own_q2 p2) (own_q3 p2) (own_q4 p2)) (own_v5 (0 : Int32) (own_s1 p3) (own_s2 p2 p3) (own_s3 p2 p3) (own_s4 p2 p3)) (own_con (own_v5 (0 : Int32) (0 : Int32) (own_q2 p2) (own_q3 p2) (own_q4 p2)) (own_v5 (0 : Int32) (own_s1 p3) (own_s2 p2 p3) (own_s3 p2 p3) (own_s4 p2 p3)) (0 : Int32) (1 : Int32) 1 x_ y_) (2 : Int32) 2 x_ y_) (3 : Int32) 3 x_ y_) (4 : Int32) 4 x_ y_))] [(.int (own_sep (own_v5 (0 : Int32) (0 : Int32) (own_q2 p2) (own_q3 p2) (own_q4 p2)) (own_v5 (0 : Int32) (own_s1 p3) (own_s2 p2 p3) (own_s3 p2 p3) (own_s4 p2 p3)) 9 x_ y_ 0))])) _
    refine XS.iload X195.here hx rfl (hb hby at_245) rfl ?_
    exact kt
  have pre199 : ∀ t, Steps p.tables e below (T195.setTop (mkF m 255 #[.val (.int p0), .val (.int p1), .val (.int p2), .val (.int p3), .val (.ref b1), .val (.ref b48), .val (.int (own_b p0)), .val (.int (own_b p1)), .val (.ref b119), .val (.ref b151), .val (.int (own_sep (own_v5 (0 : Int32) (0 : Int32) (own_q2 p2) (own_q3 p2) (own_q4 p2)) (own_v5 (0 : Int32) (own_s1 p3) (own_s2 p2 p3) (own_s3 p2 p3) (own_s4 p2 p3)) 9 x_ y_ 0)), .val (.int (own_con (own_v5 (0 : Int32) (0 : Int32) (own_q2 p2) (own_q3 p2) (own_q4 p2)) (own_v5 (0 : Int32) (own_s1 p3) (own_s2 p2 p3) (own_s3 p2 p3) (own_s4 p2 p3)) (own_con (own_v5 (0 : Int32) (0 : Int32) (own_q2 p2) (own_q3 p2) (own_q4 p2)) (own_v5 (0 : Int32) (own_s1 p3) (own_s2 p2 p3) (own_s3 p2 p3) (own_s4 p2 p3)) (own_con (own_v5 (0 : Int32) (0 : Int32) (own_q2 p2) (own_q3 p2) (own_q4 p2)) (own_v5 (0 : Int32) (own_s1 p3) (own_s2 p2 p3) (own_s3 p2 p3) (own_s4 p2 p3)) (own_con (own_v5 (0 : Int32) (0 : Int32) (own_q2 p2) (own_q3 p2) (own_q4 p2)) (own_v5 (0 : Int32) (own_s1 p3) (own_s2 p2 p3) (own_s3 p2 p3) (own_s4 p2 p3)) (0 : Int32) (1 : Int32) 1 x_ y_) (2 : Int32) 2 x_ y_) (3 : Int32) 3 x_ y_) (4 : Int32) 4 x_ y_))] [(.int (1 : Int32))])) t → Steps p.tables e below (s₁.setTop (entryFrame m #[(.int p0), (.int p1), (.int p2), (.int p3)] maxLocals)) t := by
    intro t kt
    refine pre198 t ?_
    show Steps p.tables e below (T195.setTop (mkF m 247 #[.val (.int p0), .val (.int p1), .val (.int p2), .val (.int p3), .val (.ref b1), .val (.ref b48), .val (.int (own_b p0)), .val (.int (own_b p1)), .val (.ref b119), .val (.ref b151), .val (.int (own_sep (own_v5 (0 : Int32) (0 : Int32) (own_q2 p2) (own_q3 p2) (own_q4 p2)) (own_v5 (0 : Int32) (own_s1 p3) (own_s2 p2 p3) (own_s3 p2 p3) (own_s4 p2 p3)) 9 x_ y_ 0)), .val (.int (own_con (own_v5 (0 : Int32) (0 : Int32) (own_q2 p2) (own_q3 p2) (own_q4 p2)) (own_v5 (0 : Int32) (own_s1 p3) (own_s2 p2 p3) (own_s3 p2 p3) (own_s4 p2 p3)) (own_con (own_v5 (0 : Int32) (0 : Int32) (own_q2 p2) (own_q3 p2) (own_q4 p2)) (own_v5 (0 : Int32) (own_s1 p3) (own_s2 p2 p3) (own_s3 p2 p3) (own_s4 p2 p3)) (own_con (own_v5 (0 : Int32) (0 : Int32) (own_q2 p2) (own_q3 p2) (own_q4 p2)) (own_v5 (0 : Int32) (own_s1 p3) (own_s2 p2 p3) (own_s3 p2 p3) (own_s4 p2 p3)) (own_con (own_v5 (0 : Int32) (0 : Int32) (own_q2 p2) (own_q3 p2) (own_q4 p2)) (own_v5 (0 : Int32) (own_s1 p3) (own_s2 p2 p3) (own_s3 p2 p3) (own_s4 p2 p3)) (0 : Int32) (1 : Int32) 1 x_ y_) (2 : Int32) 2 x_ y_) (3 : Int32) 3 x_ y_) (4 : Int32) 4 x_ y_))] [(.int (own_con (own_v5 (0 : Int32) (0 : Int32) (own_q2 p2) (own_q3 p2) (own_q4 p2)) (own_v5 (0 : Int32) (own_s1 p3) (own_s2 p2 p3) (own_s3 p2 p3) (own_s4 p2 p3)) (own_con (own_v5 (0 : Int32) (0 : Int32) (own_q2 p2) (own_q3 p2) (own_q4 p2)) (own_v5 (0 : Int32) (own_s1 p3) (own_s2 p2 p3) (own_s3 p2 p3) (own_s4 p2 p3)) (own_con (own_v5 (0 : Int32) (0 : Int32) (own_q2 p2) (own_q3 p2) (own_q4 p2)) (own_v5 (0 : Int32) (own_s1 p3) (own_s2 p2 p3) (own_s3 p2 p3) (own_s4 p2 p3)) (own_con (own_v5 (0 : Int32) (0 : Int32) (own_q2 p2) (own_q3 p2) (own_q4 p2)) (own_v5 (0 : Int32) (own_s1 p3) (own_s2 p2 p3) (own_s3 p2 p3) (own_s4 p2 p3)) (0 : Int32) (1 : Int32) 1 x_ y_) (2 : Int32) 2 x_ y_) (3 : Int32) 3 x_ y_) (4 : Int32) 4 x_ y_)), (.int (own_sep (own_v5 (0 : Int32) (0 : Int32) (own_q2 p2) (own_q3 p2) (own_q4 p2)) (own_v5 (0 : Int32) (own_s1 p3) (own_s2 p2 p3) (own_s3 p2 p3) (own_s4 p2 p3)) 9 x_ y_ 0))])) _
    refine XS.icmpNo X195.here hx rfl (hb hby at_247) rfl (teq (own_fin hT hx5 hy5)).2 ?_
    show Steps p.tables e below (T195.setTop (mkF m 250 #[.val (.int p0), .val (.int p1), .val (.int p2), .val (.int p3), .val (.ref b1), .val (.ref b48), .val (.int (own_b p0)), .val (.int (own_b p1)), .val (.ref b119), .val (.ref b151), .val (.int (own_sep (own_v5 (0 : Int32) (0 : Int32) (own_q2 p2) (own_q3 p2) (own_q4 p2)) (own_v5 (0 : Int32) (own_s1 p3) (own_s2 p2 p3) (own_s3 p2 p3) (own_s4 p2 p3)) 9 x_ y_ 0)), .val (.int (own_con (own_v5 (0 : Int32) (0 : Int32) (own_q2 p2) (own_q3 p2) (own_q4 p2)) (own_v5 (0 : Int32) (own_s1 p3) (own_s2 p2 p3) (own_s3 p2 p3) (own_s4 p2 p3)) (own_con (own_v5 (0 : Int32) (0 : Int32) (own_q2 p2) (own_q3 p2) (own_q4 p2)) (own_v5 (0 : Int32) (own_s1 p3) (own_s2 p2 p3) (own_s3 p2 p3) (own_s4 p2 p3)) (own_con (own_v5 (0 : Int32) (0 : Int32) (own_q2 p2) (own_q3 p2) (own_q4 p2)) (own_v5 (0 : Int32) (own_s1 p3) (own_s2 p2 p3) (own_s3 p2 p3) (own_s4 p2 p3)) (own_con (own_v5 (0 : Int32) (0 : Int32) (own_q2 p2) (own_q3 p2) (own_q4 p2)) (own_v5 (0 : Int32) (own_s1 p3) (own_s2 p2 p3) (own_s3 p2 p3) (own_s4 p2 p3)) (0 : Int32) (1 : Int32) 1 x_ y_) (2 : Int32) 2 x_ y_) (3 : Int32) 3 x_ y_) (4 : Int32) 4 x_ y_))] [])) _
    refine XS.iconst X195.here hx rfl (hb hby at_250) ?_
    show Steps p.tables e below (T195.setTop (mkF m 251 #[.val (.int p0), .val (.int p1), .val (.int p2), .val (.int p3), .val (.ref b1), .val (.ref b48), .val (.int (own_b p0)), .val (.int (own_b p1)), .val (.ref b119), .val (.ref b151), .val (.int (own_sep (own_v5 (0 : Int32) (0 : Int32) (own_q2 p2) (own_q3 p2) (own_q4 p2)) (own_v5 (0 : Int32) (own_s1 p3) (own_s2 p2 p3) (own_s3 p2 p3) (own_s4 p2 p3)) 9 x_ y_ 0)), .val (.int (own_con (own_v5 (0 : Int32) (0 : Int32) (own_q2 p2) (own_q3 p2) (own_q4 p2)) (own_v5 (0 : Int32) (own_s1 p3) (own_s2 p2 p3) (own_s3 p2 p3) (own_s4 p2 p3)) (own_con (own_v5 (0 : Int32) (0 : Int32) (own_q2 p2) (own_q3 p2) (own_q4 p2)) (own_v5 (0 : Int32) (own_s1 p3) (own_s2 p2 p3) (own_s3 p2 p3) (own_s4 p2 p3)) (own_con (own_v5 (0 : Int32) (0 : Int32) (own_q2 p2) (own_q3 p2) (own_q4 p2)) (own_v5 (0 : Int32) (own_s1 p3) (own_s2 p2 p3) (own_s3 p2 p3) (own_s4 p2 p3)) (own_con (own_v5 (0 : Int32) (0 : Int32) (own_q2 p2) (own_q3 p2) (own_q4 p2)) (own_v5 (0 : Int32) (own_s1 p3) (own_s2 p2 p3) (own_s3 p2 p3) (own_s4 p2 p3)) (0 : Int32) (1 : Int32) 1 x_ y_) (2 : Int32) 2 x_ y_) (3 : Int32) 3 x_ y_) (4 : Int32) 4 x_ y_))] [(.int (1 : Int32))])) _
    refine XS.goto X195.here hx rfl (pc0 := 251) (pc' := 255) rfl (hb hby at_251) (by decide) (by decide) ?_
    exact kt
  obtain ⟨fs, hr, hrun, hended, hW, hsame⟩ := X195.leave (v := some (.int (1 : Int32))) (fun h => by rw [Bd.returns] at h; cases h)
  refine ⟨_, _, pre199 _ ?_, hrun, hended, _, _, rfl, ?_, ⟨_, rfl⟩, hW, hsame.mono (by decide) (by decide)⟩
  · show Steps p.tables e below (T195.setTop (mkF m 255 #[.val (.int p0), .val (.int p1), .val (.int p2), .val (.int p3), .val (.ref b1), .val (.ref b48), .val (.int (own_b p0)), .val (.int (own_b p1)), .val (.ref b119), .val (.ref b151), .val (.int (own_sep (own_v5 (0 : Int32) (0 : Int32) (own_q2 p2) (own_q3 p2) (own_q4 p2)) (own_v5 (0 : Int32) (own_s1 p3) (own_s2 p2 p3) (own_s3 p2 p3) (own_s4 p2 p3)) 9 x_ y_ 0)), .val (.int (own_con (own_v5 (0 : Int32) (0 : Int32) (own_q2 p2) (own_q3 p2) (own_q4 p2)) (own_v5 (0 : Int32) (own_s1 p3) (own_s2 p2 p3) (own_s3 p2 p3) (own_s4 p2 p3)) (own_con (own_v5 (0 : Int32) (0 : Int32) (own_q2 p2) (own_q3 p2) (own_q4 p2)) (own_v5 (0 : Int32) (own_s1 p3) (own_s2 p2 p3) (own_s3 p2 p3) (own_s4 p2 p3)) (own_con (own_v5 (0 : Int32) (0 : Int32) (own_q2 p2) (own_q3 p2) (own_q4 p2)) (own_v5 (0 : Int32) (own_s1 p3) (own_s2 p2 p3) (own_s3 p2 p3) (own_s4 p2 p3)) (own_con (own_v5 (0 : Int32) (0 : Int32) (own_q2 p2) (own_q3 p2) (own_q4 p2)) (own_v5 (0 : Int32) (own_s1 p3) (own_s2 p2 p3) (own_s3 p2 p3) (own_s4 p2 p3)) (0 : Int32) (1 : Int32) 1 x_ y_) (2 : Int32) 2 x_ y_) (3 : Int32) 3 x_ y_) (4 : Int32) 4 x_ y_))] [(.int (1 : Int32))])) _
    exact retN X195 hx (t := .boolean) Bd.returns (by simp) (hb hby at_255) hr
  · show own_Q_law Z p0 p1 p2 p3 h0 n0 (some (.int (1 : Int32))) T195.heap _
    rw [eq196]
    exact ⟨rfl, nf197⟩
set_option maxRecDepth 65536 in
set_option maxHeartbeats 40000000 in
theorem own_comes {Post : Tables → Env → Array Value → State → Outcome → State → Prop} (hpost : ∀ tb e args s v u, (limb_1_1.after args s (.returned v) u = true ∧ limb_1_2.after args s (.returned v) u = true ∧ True) → FrameEnd s (.returned v) u (Jvm.fieldLocs frame_1_writes args s ++ Jvm.arrayLocs frame_1_arrays args s ++ Jvm.staticLocs frame_1_statics s) 16 128 → Post tb e args s (.returned v) u) :
    ArmFor flags0 classFile x code maxLocals ret World_1 tables_1 room_1 Calls_1 rest_1 Pre_1 Post := by
  intro l hfl _ _ p e ha hc hk s m args below hf hA hF happ hP
  obtain ⟨hcalls, hrest, hpre⟩ := hP
  obtain ⟨-, -, -, hnamed, -, -, -, hat⟩ := (Spec.applies_iff hf).mp happ
  obtain ⟨hg, hn⟩ := and_e (Cond.before_iff.mp (show (Jvm.Cond.and given_1 narrow_1).before args s = true from hpre))
  obtain ⟨hcount, hq0⟩ := and_e hg
  obtain ⟨hi0, hq1⟩ := and_e hq0
  obtain ⟨hi1, hq2⟩ := and_e hq1
  obtain ⟨hi2, hq3⟩ := and_e hq2
  have hi3 := hq3
  obtain ⟨w0, w1, w2, w3, rfl⟩ : ∃ w0 w1 w2 w3 : Value, args = #[w0, w1, w2, w3] := by
    have hs : args.size = 4 := by simpa [Cond.value, given_1] using hcount
    obtain ⟨L⟩ := args
    match L, hs with
    | [w0, w1, w2, w3], _ => exact ⟨w0, w1, w2, w3, rfl⟩
  have hw := fun d (hd : d ∈ tables_1) => atoms_spec (ws := Jvm.Cond.code x code maxLocals ret :: tables_1) hat d (List.mem_cons_of_mem _ hd)
  have hfit : Fit s := fun {y c} hc i hi => by
    obtain ⟨ha, rfl⟩ := Array.getElem?_eq_some_iff.mp hc
    have q := List.all_eq_true.mp ((Array.all_eq_true_iff_forall_mem.mp hF) _ (Array.getElem_mem ha)) i (List.mem_range.mpr hi)
    simpa [Array.getElem?_eq_getElem hi] using q
  obtain ⟨i0, ei0⟩ := is_v hi0
  obtain rfl : w0 = (.int i0) := Option.some.inj ei0
  obtain ⟨i1, ei1⟩ := is_v hi1
  obtain rfl : w1 = (.int i1) := Option.some.inj ei1
  obtain ⟨i2, ei2⟩ := is_v hi2
  obtain rfl : w2 = (.int i2) := Option.some.inj ei2
  obtain ⟨i3, ei3⟩ := is_v hi3
  obtain rfl : w3 = (.int i3) := Option.some.inj ei3
  obtain ⟨n, o, h1, h2, h3, _, L, rfl, ⟨rfl, N⟩, hq⟩ := own_rm_law l s _ hw tables_1 i0 i1 i2 i3  s.heap s.heap.size (Nat.le_refl _)  p e ha hc hk s m _ below hf ((Spec.applies_iff_loose hf).mp happ).1 ⟨rfl, State.Warmed39.refl s, rfl⟩ trivial
  refine ⟨n, _, h1, h2, h3, hpost _ _ _ _ _ _ ⟨Cond.after_iff.mpr rfl, Cond.after_iff.mpr (eq_i res_at (Term.int_eval (1)) rfl), trivial⟩ ⟨hq.1, hq.2.1, (hq.2.2.sift fun y hy => Or.inr (N y hy)).mono (by decide) (by decide)⟩⟩
theorem main_1_1 : Claimed_1_1 := own_comes fun _ _ _ _ _ _ h hF => ⟨h.1, hF⟩
theorem main_1_2 : Claimed_1_2 := own_comes fun _ _ _ _ _ _ h hF => ⟨h.2.1, hF⟩
end Jvm.Pilot.@@N@@
namespace Jvm.Pilot.@@N@@
open Jvm Jvm.ClassFile Sem Op Lib Jvm.Free Jvm.Stand Jvm.Pilot.@@N@@.Jvm.D
/-! MADE BY PROGRAM (witnessworld.py) out of the Statement's table words and the real class files: 10 classes; the members and pool entries that the words name. The judged class is class 1, her method 1. -/
namespace start1
open Jvm.ClassFile
def u (s : String) : CpInfo := .utf8 (stringToUtf16 s)
/-- a pool by its gaps: so many unusable entries, then the entry; so many at the end -/
def gap : Nat → List CpInfo → List CpInfo
  | 0, r => r
  | n + 1, r => .unusable :: gap n r
def poolList (es : List (Nat × CpInfo)) (last : Nat) : List CpInfo := es.foldr (fun e r => gap e.1 (e.2 :: r)) (gap last [])
def pool (es : List (Nat × CpInfo)) (last : Nat) : Array CpInfo := ⟨poolList es last⟩
def fileOf (pool : Array CpInfo) (this : Nat) (attrs : Array Attribute := #[]) (ms : Array MethodInfo := #[]) (fl : Nat := 33) (sup : Nat := 0) (ifs : Array Nat := #[]) (fds : Array FieldInfo := #[]) : ClassFile where
  minorVersion := 0
  majorVersion := 65
  constantPool := pool
  accessFlags := fl
  thisClass := this
  superClass := sup
  interfaces := ifs
  fields := fds
  methods := ms
  attributes := attrs
def plain (name : String) (sup : Option ClassId) : Class where
  name := name
  kind := .ordinary
  loader := none
  accessFlags := 33
  super := sup
  interfaces := #[]
  cf := none
  fields := #[]
  methods := #[]
  instanceTypes := #[]
  staticTypes := #[]
  resolved := #[]
  callSites := []
  init := .initialized
  statics := none
  mirror := none

def pool0 : Array CpInfo := pool [(5, u "<init>"), (0, u "()V"), (1, .class_ 10), (1, u "java/lang/Object")] 113

def k0c0 : Code := { maxStack := 0, maxLocals := 1, code := object_method_1_code, exceptionTable := #[], attributes := #[] }
def k0m0 : Method := { name := "<init>", desc := "()V", sig := { parameters := [], returnType := none }, accessFlags := 1, code := some k0c0 }
/-- java/lang/Object -/
def k0 : Class := { plain "java/lang/Object" none with
  accessFlags := 33
  interfaces := #[]
  cf := some (fileOf pool0 8 #[] #[{ accessFlags := 1, nameIndex := 5, descriptorIndex := 6, attributes := #[] }] 33 0 #[] #[])
  fields := #[]
  methods := #[k0m0]
  instanceTypes := #[]
  staticTypes := #[]
  resolved := Array.replicate 124 none
  statics := none }

def pool1 : Array CpInfo := pool [(2, .class_ 4), (1, u "java/lang/Object"), (0, u "<init>"), (0, u "()V"), (0, .integer 2147483647), (0, .class_ 9), (0, u "com/example/unfold/unfold/reduction/Splitting"), (0, .methodref 8 11), (0, .nameAndType 5 12), (0, u "([I[I[I)V"), (0, .methodref 8 14), (0, .nameAndType 15 16), (0, u "separation"), (0, u "(II)I"), (0, .methodref 18 19), (0, .class_ 20), (0, .nameAndType 21 22), (0, u "com/example/unfold/unfold/reduction/SplittingSeparationPinLaw"), (0, u "consider"), (0, u "(IIII[I[I)I"), (0, .methodref 18 24), (0, .nameAndType 25 26), (0, u "isAnc"), (0, u "(II[I)Z"), (0, .methodref 28 29), (0, .class_ 30), (0, .nameAndType 31 16), (0, u "java/lang/Math"), (0, u "min"), (2, u "law"), (0, u "(IIII)Z")] 5

def k1m0 : Method := { name := "<init>", desc := "()V", sig := { parameters := [], returnType := none }, accessFlags := 1, code := none }
def k1c1 : Code := { maxStack := 6, maxLocals := 12, code := code, exceptionTable := #[], attributes := #[] }
def k1m1 : Method := { name := "law", desc := "(IIII)Z", sig := { parameters := [.int, .int, .int, .int], returnType := some .boolean }, accessFlags := 9, code := some k1c1 }
def k1c2 : Code := { maxStack := 2, maxLocals := 6, code := method_3_code, exceptionTable := #[], attributes := #[] }
def k1m2 : Method := { name := "isAnc", desc := "(II[I)Z", sig := { parameters := [.int, .int, (.array .int)], returnType := some .boolean }, accessFlags := 10, code := some k1c2 }
def k1c3 : Code := { maxStack := 4, maxLocals := 7, code := method_4_code, exceptionTable := #[], attributes := #[] }
def k1m3 : Method := { name := "consider", desc := "(IIII[I[I)I", sig := { parameters := [.int, .int, .int, .int, (.array .int), (.array .int)], returnType := some .int }, accessFlags := 10, code := some k1c3 }
/-- com/example/unfold/unfold/reduction/SplittingSeparationPinLaw -/
def k1 : Class := { plain "com/example/unfold/unfold/reduction/SplittingSeparationPinLaw" (some 0) with
  accessFlags := 49
  interfaces := #[]
  cf := some (fileOf pool1 18 #[] #[{ accessFlags := 1, nameIndex := 5, descriptorIndex := 6, attributes := #[] }, { accessFlags := 9, nameIndex := 34, descriptorIndex := 35, attributes := #[] }, { accessFlags := 10, nameIndex := 25, descriptorIndex := 26, attributes := #[] }, { accessFlags := 10, nameIndex := 21, descriptorIndex := 22, attributes := #[] }] 49 2 #[] #[])
  fields := #[]
  methods := #[k1m0, k1m1, k1m2, k1m3]
  instanceTypes := #[]
  staticTypes := #[]
  resolved := Array.replicate 41 none
  statics := none }

def pool2 : Array CpInfo := pool [(1, .methodref 2 3), (0, .class_ 4), (0, .nameAndType 5 6), (0, u "java/lang/Object"), (0, u "<init>"), (0, u "()V"), (0, .fieldref 8 9), (0, .class_ 10), (0, .nameAndType 11 12), (0, u "com/example/unfold/unfold/reduction/Splitting"), (0, u "blocks"), (0, u "[I"), (0, .fieldref 8 14), (0, .nameAndType 15 12), (0, u "parents"), (0, .fieldref 8 17), (0, .nameAndType 18 12), (0, u "rounds"), (0, u "([I[I[I)V"), (3, u "(II)I"), (1, u "separation")] 2

def k2c0 : Code := { maxStack := 2, maxLocals := 4, code := prog_132_method_1_code, exceptionTable := #[], attributes := #[] }
def k2m0 : Method := { name := "<init>", desc := "([I[I[I)V", sig := { parameters := [(.array .int), (.array .int), (.array .int)], returnType := none }, accessFlags := 0, code := some k2c0 }
def k2c1 : Code := { maxStack := 3, maxLocals := 6, code := prog_132_method_3_code, exceptionTable := #[], attributes := #[] }
def k2m1 : Method := { name := "separation", desc := "(II)I", sig := { parameters := [.int, .int], returnType := some .int }, accessFlags := 0, code := some k2c1 }
/-- com/example/unfold/unfold/reduction/Splitting -/
def k2 : Class := { plain "com/example/unfold/unfold/reduction/Splitting" (some 0) with
  accessFlags := 32
  interfaces := #[]
  cf := some (fileOf pool2 8 #[] #[{ accessFlags := 0, nameIndex := 5, descriptorIndex := 19, attributes := #[] }, { accessFlags := 0, nameIndex := 25, descriptorIndex := 23, attributes := #[] }] 32 2 #[] #[{ accessFlags := 18, nameIndex := 11, descriptorIndex := 12, attributes := #[] }, { accessFlags := 18, nameIndex := 15, descriptorIndex := 12, attributes := #[] }, { accessFlags := 18, nameIndex := 18, descriptorIndex := 12, attributes := #[] }])
  fields := #[{ name := "blocks", type := (.array .int), accessFlags := 18, slot := 0, constantValue := 0 }, { name := "parents", type := (.array .int), accessFlags := 18, slot := 1, constantValue := 0 }, { name := "rounds", type := (.array .int), accessFlags := 18, slot := 2, constantValue := 0 }]
  methods := #[k2m0, k2m1]
  instanceTypes := #[(.array .int), (.array .int), (.array .int)]
  staticTypes := #[]
  resolved := Array.replicate 28 none
  statics := none }

def pool3 : Array CpInfo := pool [(1, .class_ 2), (0, u "java/lang/Math"), (1, .class_ 6), (1, u "java/lang/Object"), (0, u "<init>"), (0, u "()V"), (89, .class_ 100), (1, u "java/lang/Math$RandomNumberGeneratorHolder"), (71, u "negativeZeroFloatBits"), (0, u "J"), (2, u "negativeZeroDoubleBits"), (24, u "min"), (43, u "$assertionsDisabled"), (0, u "Z"), (88, u "(II)I"), (2, u "twoToTheDoubleScaleDown"), (0, u "D"), (4, u "twoToTheDoubleScaleUp"), (9, u "E"), (3, u "PI"), (2, u "TAU"), (2, u "DEGREES_TO_RADIANS"), (0, u "RADIANS_TO_DEGREES")] 94

def k3m0 : Method := { name := "<init>", desc := "()V", sig := { parameters := [], returnType := none }, accessFlags := 2, code := none }
def k3c1 : Code := { maxStack := 2, maxLocals := 2, code := jdk_29_method_69_code, exceptionTable := #[], attributes := #[] }
def k3m1 : Method := { name := "min", desc := "(II)I", sig := { parameters := [.int, .int], returnType := some .int }, accessFlags := 9, code := some k3c1 }
/-- java/lang/Math -/
def k3 : Class := { plain "java/lang/Math" (some 0) with
  accessFlags := 49
  interfaces := #[]
  cf := some (fileOf pool3 1 #[.nestMembers #[98]] #[{ accessFlags := 2, nameIndex := 7, descriptorIndex := 8, attributes := #[] }, { accessFlags := 9, nameIndex := 201, descriptorIndex := 335, attributes := #[] }] 49 4 #[] #[{ accessFlags := 25, nameIndex := 354, descriptorIndex := 339, attributes := #[] }, { accessFlags := 25, nameIndex := 358, descriptorIndex := 339, attributes := #[] }, { accessFlags := 25, nameIndex := 361, descriptorIndex := 339, attributes := #[] }, { accessFlags := 26, nameIndex := 364, descriptorIndex := 339, attributes := #[] }, { accessFlags := 26, nameIndex := 365, descriptorIndex := 339, attributes := #[] }, { accessFlags := 26, nameIndex := 172, descriptorIndex := 173, attributes := #[] }, { accessFlags := 26, nameIndex := 176, descriptorIndex := 173, attributes := #[] }, { accessFlags := 8, nameIndex := 344, descriptorIndex := 339, attributes := #[] }, { accessFlags := 8, nameIndex := 338, descriptorIndex := 339, attributes := #[] }, { accessFlags := 4120, nameIndex := 245, descriptorIndex := 246, attributes := #[] }])
  fields := #[{ name := "E", type := .double, accessFlags := 25, slot := 0, constantValue := 0 }, { name := "PI", type := .double, accessFlags := 25, slot := 1, constantValue := 0 }, { name := "TAU", type := .double, accessFlags := 25, slot := 2, constantValue := 0 }, { name := "DEGREES_TO_RADIANS", type := .double, accessFlags := 26, slot := 3, constantValue := 0 }, { name := "RADIANS_TO_DEGREES", type := .double, accessFlags := 26, slot := 4, constantValue := 0 }, { name := "negativeZeroFloatBits", type := .long, accessFlags := 26, slot := 5, constantValue := 0 }, { name := "negativeZeroDoubleBits", type := .long, accessFlags := 26, slot := 6, constantValue := 0 }, { name := "twoToTheDoubleScaleUp", type := .double, accessFlags := 8, slot := 7, constantValue := 0 }, { name := "twoToTheDoubleScaleDown", type := .double, accessFlags := 8, slot := 8, constantValue := 0 }, { name := "$assertionsDisabled", type := .boolean, accessFlags := 4120, slot := 9, constantValue := 0 }]
  methods := #[k3m0, k3m1]
  instanceTypes := #[]
  staticTypes := #[.double, .double, .double, .double, .double, .long, .long, .double, .double, .boolean]
  resolved := Array.replicate 460 none
  statics := none }

def pool4 : Array CpInfo := pool [(1, u "java/lang/Cloneable"), (0, .class_ 1), (0, u "java/lang/Object"), (0, .class_ 3)] 3

/-- java/lang/Cloneable -/
def k4 : Class := { plain "java/lang/Cloneable" (some 0) with
  accessFlags := 1537
  interfaces := #[]
  cf := some (fileOf pool4 2 #[] #[] 1537 4 #[] #[])
  fields := #[]
  methods := #[]
  instanceTypes := #[]
  staticTypes := #[]
  resolved := Array.replicate 8 none
  statics := none }

def pool5 : Array CpInfo := pool [(1, u "java/io/Serializable"), (0, .class_ 1), (0, u "java/lang/Object"), (0, .class_ 3)] 3

/-- java/io/Serializable -/
def k5 : Class := { plain "java/io/Serializable" (some 0) with
  accessFlags := 1537
  interfaces := #[]
  cf := some (fileOf pool5 2 #[] #[] 1537 4 #[] #[])
  fields := #[]
  methods := #[]
  instanceTypes := #[]
  staticTypes := #[]
  resolved := Array.replicate 8 none
  statics := none }

/-- the primitive byte -/
def k6 : Class := { plain "byte" none with kind := .primitive 'B', accessFlags := 0x411 }
/-- [B -/
def k7 : Class := { plain "[B" (some 0) with kind := .array 6 .byte, interfaces := #[4, 5], accessFlags := 1041 }

/-- the primitive int -/
def k8 : Class := { plain "int" none with kind := .primitive 'I', accessFlags := 0x411 }
/-- [I -/
def k9 : Class := { plain "[I" (some 0) with kind := .array 8 .int, interfaces := #[4, 5], accessFlags := 1041 }

def heap : Heap := #[]
def classes : Array Class := #[k0, k1, k2, k3, k4, k5, k6, k7, k8, k9]
def interned : List (Array UInt16 × Addr) := []
def slotsUsed : Nat := 0
def theMethod : MethodId := ⟨1, 1⟩
def args0 : Array Value := #[.int 3, .int 6, .int 2, .int 1]
def aboutOver (below : List Frame) : State where
  vm := { classes := classes, interned := interned.toArray }
  heap := heap
  slotsUsed := slotsUsed
  threads := #[{ frames := .invoking theMethod args0 :: below }]
def below0 : List Frame := [.native { method := ⟨0, 0⟩, args := #[] }]
def about1 : State := aboutOver below0
def p0 : Program := .bare "" "" ""
def e0 : Env := launch0.env 0 0 0
theorem w_frames : about1.frames = Frame.invoking theMethod args0 :: below0 := rfl
set_option maxRecDepth 65536 in
theorem w_args : argsFit about1.vm theMethod args0 = true := by decide +kernel
set_option maxRecDepth 65536 in
theorem w_heap : heapFits about1 = true := by decide +kernel
set_option maxRecDepth 65536 in
theorem w_runnable : about1.curStatus? = some .runnable := by decide +kernel
set_option maxRecDepth 65536 in
theorem w_alone : about1.alone = true := by decide +kernel
set_option maxRecDepth 65536 in
theorem w_named : about1.methodNamed? x = some theMethod := by decide +kernel
set_option maxRecDepth 65536 in
theorem w_hears : about1.hears theMethod below0 = true := by decide +kernel
set_option maxRecDepth 65536 in
theorem w_ripe : about1.ripe theMethod args0 below0 = true := by decide +kernel
theorem w_running : about1.status = .running := rfl
set_option maxRecDepth 65536 in
theorem w_room : about1.hasRoom e0.platform room_1 = true :=
  launch0.hasRoom_least _ room_1 (by decide +kernel) (by decide +kernel) (by decide +kernel) (by decide +kernel) (by decide +kernel) (by decide +kernel)
theorem allAtoms_all (ts : List Jvm.Cond) (a : Array Jvm.Value) (st : Jvm.State) : (allAtoms ts).before a st = ts.all (fun c => c.before a st) := by
  induction ts with
  | nil => rfl
  | cons c t ih =>
    show (Jvm.Cond.and c (allAtoms t)).before a st = _
    rw [Jvm.Cond.before_and, ih, List.all_cons]
def words1 : List Jvm.Cond := Jvm.Cond.code x code maxLocals ret :: tables_1
/-- a 'code' word, met by the world's own term for the bytes: nothing is compared byte by byte -/
theorem code_word {y : MethodName} {bytes : ByteArray} {mx : Nat} {rt : Option FieldType} {a : Array Value} {s : State} {m : MethodId} {meth : Method} {c : Code} (h1 : s.methodNamed? y = some m) (h2 : s.vm.method? m = some meth) (h3 : meth.code = some c) (h4 : c.code = bytes)
    (h5 : (c.maxLocals == mx && c.exceptionTable.isEmpty && decide (c.maxStack ≤ mostOperands) && decide (meth.sig.returnType = rt) && !meth.locks && decide (parseMethodDescriptor y.desc = some meth.sig)) = true) : (Jvm.Cond.code y bytes mx rt).before a s = true := by
  simp only [Bool.and_eq_true, beq_iff_eq, Bool.not_eq_true', decide_eq_true_eq] at h5
  obtain ⟨⟨⟨⟨⟨g1, g2⟩, g3⟩, g4⟩, g5⟩, g6⟩ := h5
  simp [Cond.before, Cond.holds, Cond.value, h1, h2, h3, h4, g1, g2, g3, g4, g5, g6]
def isCode : Jvm.Cond → Bool
  | .code _ _ _ _ => true
  | _ => false
theorem all_split {L : List Jvm.Cond} {P : Jvm.Cond → Bool} (h1 : L.all (fun c => isCode c || P c) = true) (h2 : ∀ c ∈ L.filter isCode, P c = true) : L.all P = true := by
  refine List.all_eq_true.mpr fun c hc => ?_
  have h := List.all_eq_true.mp h1 c hc
  rcases Bool.eq_false_or_eq_true (isCode c) with hi | hi
  · exact h2 c (List.mem_filter.mpr ⟨hc, hi⟩)
  · simpa [hi] using h
set_option maxRecDepth 65536 in
theorem w_c0 : (Jvm.Cond.code x code maxLocals ret).before args0 about1 = true := code_word (m := ⟨1, 1⟩) (meth := k1m1) (c := k1c1) (by decide +kernel) rfl rfl rfl (by decide +kernel)
set_option maxRecDepth 65536 in
theorem w_c1 : (Jvm.Cond.code ({ cls := "com/example/unfold/unfold/reduction/Splitting", name := "<init>", desc := "([I[I[I)V" } : Jvm.MethodName) prog_132_method_1_code (4 : Nat) (Option.none : Option Jvm.ClassFile.FieldType)).before args0 about1 = true := code_word (m := ⟨2, 0⟩) (meth := k2m0) (c := k2c0) (by decide +kernel) rfl rfl rfl (by decide +kernel)
set_option maxRecDepth 65536 in
theorem w_c2 : (Jvm.Cond.code ({ cls := "java/lang/Object", name := "<init>", desc := "()V" } : Jvm.MethodName) object_method_1_code (1 : Nat) (Option.none : Option Jvm.ClassFile.FieldType)).before args0 about1 = true := code_word (m := ⟨0, 0⟩) (meth := k0m0) (c := k0c0) (by decide +kernel) rfl rfl rfl (by decide +kernel)
set_option maxRecDepth 65536 in
theorem w_c3 : (Jvm.Cond.code ({ cls := "com/example/unfold/unfold/reduction/Splitting", name := "separation", desc := "(II)I" } : Jvm.MethodName) prog_132_method_3_code (6 : Nat) (Option.some Jvm.ClassFile.FieldType.int)).before args0 about1 = true := code_word (m := ⟨2, 1⟩) (meth := k2m1) (c := k2c1) (by decide +kernel) rfl rfl rfl (by decide +kernel)
set_option maxRecDepth 65536 in
theorem w_c4 : (Jvm.Cond.code ({ cls := "com/example/unfold/unfold/reduction/SplittingSeparationPinLaw", name := "consider", desc := "(IIII[I[I)I" } : Jvm.MethodName) method_4_code (7 : Nat) (Option.some Jvm.ClassFile.FieldType.int)).before args0 about1 = true := code_word (m := ⟨1, 3⟩) (meth := k1m3) (c := k1c3) (by decide +kernel) rfl rfl rfl (by decide +kernel)
set_option maxRecDepth 65536 in
theorem w_c5 : (Jvm.Cond.code ({ cls := "com/example/unfold/unfold/reduction/SplittingSeparationPinLaw", name := "isAnc", desc := "(II[I)Z" } : Jvm.MethodName) method_3_code (6 : Nat) (Option.some Jvm.ClassFile.FieldType.boolean)).before args0 about1 = true := code_word (m := ⟨1, 2⟩) (meth := k1m2) (c := k1c2) (by decide +kernel) rfl rfl rfl (by decide +kernel)
set_option maxRecDepth 65536 in
theorem w_c6 : (Jvm.Cond.code ({ cls := "java/lang/Math", name := "min", desc := "(II)I" } : Jvm.MethodName) jdk_29_method_69_code (2 : Nat) (Option.some Jvm.ClassFile.FieldType.int)).before args0 about1 = true := code_word (m := ⟨3, 1⟩) (meth := k3m1) (c := k3c1) (by decide +kernel) rfl rfl rfl (by decide +kernel)
def codes1 : List Jvm.Cond := [Jvm.Cond.code x code maxLocals ret, Jvm.Cond.code ({ cls := "com/example/unfold/unfold/reduction/Splitting", name := "<init>", desc := "([I[I[I)V" } : Jvm.MethodName) prog_132_method_1_code (4 : Nat) (Option.none : Option Jvm.ClassFile.FieldType), Jvm.Cond.code ({ cls := "java/lang/Object", name := "<init>", desc := "()V" } : Jvm.MethodName) object_method_1_code (1 : Nat) (Option.none : Option Jvm.ClassFile.FieldType), Jvm.Cond.code ({ cls := "com/example/unfold/unfold/reduction/Splitting", name := "separation", desc := "(II)I" } : Jvm.MethodName) prog_132_method_3_code (6 : Nat) (Option.some Jvm.ClassFile.FieldType.int), Jvm.Cond.code ({ cls := "com/example/unfold/unfold/reduction/SplittingSeparationPinLaw", name := "consider", desc := "(IIII[I[I)I" } : Jvm.MethodName) method_4_code (7 : Nat) (Option.some Jvm.ClassFile.FieldType.int), Jvm.Cond.code ({ cls := "com/example/unfold/unfold/reduction/SplittingSeparationPinLaw", name := "isAnc", desc := "(II[I)Z" } : Jvm.MethodName) method_3_code (6 : Nat) (Option.some Jvm.ClassFile.FieldType.boolean), Jvm.Cond.code ({ cls := "java/lang/Math", name := "min", desc := "(II)I" } : Jvm.MethodName) jdk_29_method_69_code (2 : Nat) (Option.some Jvm.ClassFile.FieldType.int)]
set_option maxRecDepth 65536 in
theorem codes_eq : words1.filter isCode = codes1 := rfl
theorem w_codes : ∀ c ∈ words1.filter isCode, c.before args0 about1 = true := by
  rw [codes_eq]
  intro c hc
  simp only [codes1, List.mem_cons, List.not_mem_nil, or_false] at hc
  rcases hc with rfl | rfl | rfl | rfl | rfl | rfl | rfl
  · exact w_c0
  · exact w_c1
  · exact w_c2
  · exact w_c3
  · exact w_c4
  · exact w_c5
  · exact w_c6
set_option maxRecDepth 65536 in
theorem w_t1 : (words1.take 24).all (fun c => isCode c || c.before args0 about1) = true := by decide +kernel
set_option maxRecDepth 65536 in
theorem w_t2 : (words1.drop 24).all (fun c => isCode c || c.before args0 about1) = true := by decide +kernel
theorem w_tables : (allAtoms (Jvm.Cond.code x code maxLocals ret :: tables_1)).before args0 about1 = true := by
  rw [allAtoms_all]
  show words1.all (fun c => c.before args0 about1) = true
  refine all_split ?_ w_codes
  rw [← List.take_append_drop 24 words1, List.all_append, w_t1, w_t2]
  rfl
set_option maxRecDepth 65536 in
theorem w_case : (Jvm.Cond.and given_1 narrow_1).before args0 about1 = true := by decide +kernel
theorem w_applies : (headSpec (Jvm.Cond.code x code maxLocals ret :: tables_1) room_1).applies x e0.platform about1 = true :=
  (Spec.applies_iff w_frames).mpr ⟨w_running, w_runnable, w_alone, w_named, w_hears, w_ripe, w_room, w_tables⟩
theorem atStart : AtStart classFile x code maxLocals ret World_1 tables_1 room_1 Calls_1 rest_1 Pre_1 launch0 p0 e0 about1 theMethod args0 below0 :=
  ⟨lists_1, trivial, launch0.admits_env _ _ _, launch0.least_env, fairChoices_fair.cas, fairChoices_fair.clock, w_frames, w_args, w_heap, w_applies, trivial, trivial, w_case⟩
end start1
theorem witness_1 : WitnessClaimed_1 := ⟨start1.p0, start1.e0, start1.about1, start1.theMethod, start1.args0, start1.below0, start1.atStart⟩
end Jvm.Pilot.@@N@@
