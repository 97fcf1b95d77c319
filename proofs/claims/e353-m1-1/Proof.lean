import JvmDerived
import JvmDerived.Pilot.@@N@@Statement
import JvmDerived.Pilot.@@N@@Code
set_option linter.unusedVariables false
set_option linter.unusedSimpArgs false
namespace Jvm.RoadKit
open Sem ClassFile Op Lib Jvm.Stand Jvm.Free Jvm.LawKit
section New
variable {p : Program} {l : Launch} {e : Env} {R : Room} {s : State} {m : MethodId} {args : Array Value} {below : List Frame} {meth : Method} {c : Code} {T : State} {locs : List Loc} {cells slots : Nat}
theorem retI (X : Stand p l e R s m args below meth c T locs cells slots) (hx : p.tables.exec = Jvm.exec) {pc : Nat} {Ls : Array Slot} {z : Int32} {rest : List Value} (hret : meth.sig.returnType = some .int) (hd : decode c.code pc = .ok (.ireturn, 1)) {fs : List Frame}
    (hl : ∀ (f : JFrame) (acts : List Action), f.method = m → f.locked = none → f.entered = [] → (doReturn e (T.setTop f) acts (some (.int z))).1 = T.setFrames fs) : Steps p.tables e below (T.setTop (mkF m pc Ls (.int z :: rest))) (T.setFrames fs) := by
  have hm' : T.vm.method? m = some meth := X.method'
  have hn : narrow .int (.int z) = .int z := rfl
  show Steps p.tables e below (T.setTop { method := m, pc := pc, locals := Ls, stack := _ :: rest, locked := none }) _
  jvm_step X.here [X.here.top, hx, hd, hm', hret, hn]
  first | (intro acts; rw [hl _ acts rfl rfl rfl]) | rw [hl _ _ rfl rfl rfl]
  exact Steps.refl _
end New
end Jvm.RoadKit
namespace Jvm.Pilot.@@N@@
open Jvm Jvm.ClassFile Sem Op Lib Jvm.Free Jvm.Stand Jvm.LawKit Jvm.RoadKit Bundle Jvm.Pilot.@@N@@.Jvm.D
def own_A (Z : State) (h : Heap) (a : Addr) (n : Nat) (f : Nat → Int32) : Prop := ∃ c : Cell, Arr Z h a c .int ∧ c.slots.size = n ∧ ∀ j, j < n → c.slots[j]? = some (.int (f j))
def own_upd (f : Nat → Int32) (i : Nat) (x : Int32) : Nat → Int32 := fun j => if j = i then x else f j
section OwnA
variable {Z : State} {h h' : Heap} {a b : Addr} {n : Nat} {f g : Nat → Int32} {sl : Nat} {v : Value} {ws : List Addr} {c : Cell} {j x z : Int32}
theorem own_A.lt (F : own_A Z h a n f) : a < h.size := by obtain ⟨c, A, -⟩ := F; exact A.lt
theorem own_A.ext (F : own_A Z h a n f) (E : Ext h h') : own_A Z h' a n f := by obtain ⟨c, A, r⟩ := F; exact ⟨c, A.ext E, r⟩
theorem own_A.other (F : own_A Z h b n f) (W : Wr h h' a sl v) (q : b ≠ a) : own_A Z h' b n f := by obtain ⟨c, A, r⟩ := F; exact ⟨c, A.other W q, r⟩
theorem own_A.keep (F : own_A Z h a n f) (K : Keep h h' ws) (q : a ∉ ws) : own_A Z h' a n f := by obtain ⟨c, A, r⟩ := F; exact ⟨c, ⟨K.2.1 a c A.1 q, A.2⟩, r⟩
theorem own_A.set {i : Nat} (F : own_A Z h a n f) (W : Wr h h' a i (.int x)) : own_A Z h' a n (own_upd f i x) := by
  obtain ⟨c, A, S, H⟩ := F
  have hi : i < c.slots.size := by obtain ⟨c2, e1, -, e3, -⟩ := W; cases A.1.symm.trans e1; exact e3
  refine ⟨_, A.same W, by rw [sz_set]; exact S, fun k hk => ?_⟩
  by_cases u : k = i
  · subst u; simp [Cell.setSlot, own_upd, hi]
  · simp only [Cell.setSlot, own_upd, if_neg u]; rw [Array.getElem?_setIfInBounds_ne (Ne.symm u)]; exact H k hk
theorem own_A.congr (F : own_A Z h a n f) (q : ∀ j, j < n → f j = g j) : own_A Z h a n g := by obtain ⟨c, A, S, H⟩ := F; exact ⟨c, A, S, fun j hj => by rw [← q j hj]; exact H j hj⟩
theorem own_A.new {k : ClassId} (A : Arr Z h a (newA k .int z) .int) (e : z.toNatClampNeg = n) : own_A Z h a n (fun _ => 0) := ⟨_, A, by rw [sz_new]; exact e, fun i hi => by simp [newA, e, hi, defaultValue]⟩
theorem own_inb (S : c.slots.size = n) (q1 : ¬ j < 0) (q2 : j.toNatClampNeg < n) : ¬ (j < 0 ∨ c.slots.size ≤ j.toNatClampNeg) := by rw [S]; intro y; rcases y with y | y; exact q1 y; omega
theorem own_len (S : c.slots.size = n) (q : n.toInt32 = z) : c.slots.size.toInt32 = z := by rw [S]; exact q
theorem own_A.arv (F : own_A Z h a n f) (hn : n < 2 ^ 31) : ∃ k, Arv Z h a k .int (Int32.ofNat n) ((List.range n).map fun j => .int (f j)) (.int 0) := by
  obtain ⟨c, A, S, H⟩ := F
  have e : (Int32.ofNat n).toInt = n := Int32.toInt_ofNat_of_lt (by omega)
  have gt : ∀ i, i < n → ((List.range n).map fun j => Value.int (f j)).getD i (.int 0) = .int (f i) := fun i hi => by simp [List.getD_eq_getElem?_getD, hi]
  refine ⟨c.cls, c, A, rfl, by simp only [Int32.toNatClampNeg, e]; omega, by rw [Int32.lt_iff_toInt_lt, e]; show ¬ (n : Int) < 0; omega, fun i hi => ?_, fun i hi => ?_⟩
  · rw [gt i (by omega)]; exact H i (by omega)
  · rw [gt i (by omega)]; rfl
end OwnA
theorem own_ofI {m : Nat} (h : m ≤ 32) : (Int32.ofNat m).toInt = m := Int32.toInt_ofNat_of_lt (by omega)
theorem own_ofN {m : Nat} (h : m ≤ 32) : (Int32.ofNat m).toNatClampNeg = m := by simp only [Int32.toNatClampNeg, own_ofI h]; omega
theorem own_of0 {m : Nat} (h : m ≤ 32) : ¬ Int32.ofNat m < 0 := by rw [Int32.lt_iff_toInt_lt, own_ofI h]; show ¬ (m : Int) < 0; omega
theorem own_inj {m n : Nat} (hm : m ≤ 32) (hn : n ≤ 32) (e : Int32.ofNat m = Int32.ofNat n) : m = n := by
  have := congrArg Int32.toInt e; rw [own_ofI hm, own_ofI hn] at this; omega
theorem own_back {x : Int32} (h : ¬ x < 0) : Int32.ofNat x.toNatClampNeg = x := (back32 h).1
theorem own_nn {n : Int32} (h : 0 ≤ n.toInt) : ¬ n < 0 := by rw [Int32.lt_iff_toInt_lt]; have : (0 : Int32).toInt = 0 := rfl; omega
theorem own_tn {n : Int32} {k : Nat} (h : n.toInt < k) (hk : 0 < k) : n.toNatClampNeg < k := by simp only [Int32.toNatClampNeg]; omega
theorem own_gt {x y : Int32} : x < y ↔ x.toInt < y.toInt := Int32.lt_iff_toInt_lt
theorem own_z : (0 : Int32).toInt = 0 := rfl
/-- a tree of K nodes: each node's parent is smaller and has a smaller round -/
def own_tree (K : Nat) (fP fR : Nat → Int32) : Prop := fR 0 = 0 ∧ fP 0 = 0 ∧ (∀ x, x < K → ¬ fP x < 0) ∧ ∀ x, 0 < x → x < K → (fP x).toNatClampNeg < x ∧ (fR (fP x).toNatClampNeg).toInt < (fR x).toInt ∧ 0 < (fR x).toInt
theorem own_tree.lt {K : Nat} {fP fR : Nat → Int32} (T : own_tree K fP fR) (hK : 0 < K) {x : Nat} (h : x < K) : (fP x).toNatClampNeg < K := by
  by_cases u : x = 0
  · subst u; rw [T.2.1]; exact hK
  · have := (T.2.2.2 x (by omega) h).1; omega
theorem own_tree.r0 {K : Nat} {fP fR : Nat → Int32} (T : own_tree K fP fR) {x : Nat} (h : x < K) : 0 ≤ (fR x).toInt := by
  by_cases u : x = 0
  · subst u; rw [T.1]; decide
  · have := (T.2.2.2 x (by omega) h).2.2; omega
theorem own_d_prog_132_method_1_0 : decode prog_132_method_1_code 0 = .ok (.aload_n 0, 1) := by decide +kernel
theorem own_d_prog_132_method_1_1 : decode prog_132_method_1_code 1 = .ok (.invokespecial 1, 3) := by decide +kernel
theorem own_d_prog_132_method_1_4 : decode prog_132_method_1_code 4 = .ok (.aload_n 0, 1) := by decide +kernel
theorem own_d_prog_132_method_1_5 : decode prog_132_method_1_code 5 = .ok (.aload_n 1, 1) := by decide +kernel
theorem own_d_prog_132_method_1_6 : decode prog_132_method_1_code 6 = .ok (.putfield 7, 3) := by decide +kernel
theorem own_d_prog_132_method_1_9 : decode prog_132_method_1_code 9 = .ok (.aload_n 0, 1) := by decide +kernel
theorem own_d_prog_132_method_1_10 : decode prog_132_method_1_code 10 = .ok (.aload_n 2, 1) := by decide +kernel
theorem own_d_prog_132_method_1_11 : decode prog_132_method_1_code 11 = .ok (.putfield 13, 3) := by decide +kernel
theorem own_d_prog_132_method_1_14 : decode prog_132_method_1_code 14 = .ok (.aload_n 0, 1) := by decide +kernel
theorem own_d_prog_132_method_1_15 : decode prog_132_method_1_code 15 = .ok (.aload_n 3, 1) := by decide +kernel
theorem own_d_prog_132_method_1_16 : decode prog_132_method_1_code 16 = .ok (.putfield 16, 3) := by decide +kernel
theorem own_d_prog_132_method_1_19 : decode prog_132_method_1_code 19 = .ok (.return_, 1) := by decide +kernel
theorem own_pn0 : plainName "com/example/unfold/unfold/reduction/Splitting" = true := by first | (simp [plainName, overriddenIn]; done) | decide +kernel
theorem own_ef_ctor (m : MethodId) (a1 : Addr) (a2 : Addr) (a3 : Addr) (a4 : Addr) : entryFrame m #[(.ref a1), (.ref a2), (.ref a3), (.ref a4)] 4 = mkF m 0 #[.val (.ref a1), .val (.ref a2), .val (.ref a3), .val (.ref a4)] [] := by first | (simp [entryFrame, mkF, argsToLocals, Value.category]; done) | rfl
def own_Q_ctor (Z : State) (a1 : Addr) (a2 : Addr) (a3 : Addr) (a4 : Addr) (h0 : Heap) (n0 : Nat) (v : Option Value) (h : Heap) (L : List Loc) : Prop := v = none ∧ Fr n0 L ∧ Keep h0 h [a1] ∧ Fld Z h a1 "com/example/unfold/unfold/reduction/Splitting" "blocks" "[I" (.ref a2) ∧ Fld Z h a1 "com/example/unfold/unfold/reduction/Splitting" "parents" "[I" (.ref a3) ∧ Fld Z h a1 "com/example/unfold/unfold/reduction/Splitting" "rounds" "[I" (.ref a4)
set_option maxRecDepth 65536 in
set_option maxHeartbeats 40000000 in
theorem own_rm_ctor (l : Launch) (Z : State) (a0 : Array Value) (hw : ∀ d ∈ tables_1, d.before a0 Z = true) (ws : List Jvm.Cond) (a1 : Addr) (a2 : Addr) (a3 : Addr) (a4 : Addr) (h0 : Heap) (n0 : Nat) (Z0 : n0 ≤ h0.size) (E1 : Exa Z h0 a1 "com/example/unfold/unfold/reduction/Splitting") (F_blocks : Fld Z h0 a1 "com/example/unfold/unfold/reduction/Splitting" "blocks" "[I" .null) (F_parents : Fld Z h0 a1 "com/example/unfold/unfold/reduction/Splitting" "parents" "[I" .null) (F_rounds : Fld Z h0 a1 "com/example/unfold/unfold/reduction/Splitting" "rounds" "[I" .null) (g1 : n0 ≤ a1) :
    MetFree l (⟨"com/example/unfold/unfold/reduction/Splitting", "<init>", "([I[I[I)V"⟩ : MethodName) (head1 (Jvm.Cond.code (⟨"com/example/unfold/unfold/reduction/Splitting", "<init>", "([I[I[I)V"⟩ : MethodName) prog_132_method_1_code 4 none :: ws) ({ frames := 1, cells := 0, slots := 0, locals := 12 } : Room)) (fun a U => a = #[(.ref a1), (.ref a2), (.ref a3), (.ref a4)] ∧ Z.Warmed39 U.vm ∧ U.heap = h0) (fun _ _ _ _ _ => True) (fun _ U o U' => ∃ v L, o = .returned v ∧ own_Q_ctor Z a1 a2 a3 a4 h0 n0 v U'.heap L ∧ FrameEnd U o U' L ({ frames := 1, cells := 0, slots := 0, locals := 12 } : Room).cells ({ frames := 1, cells := 0, slots := 0, locals := 12 } : Room).slots) := by
  refine MetFree.of_bodySF (plainFor_of_name own_pn0) hisR ?_
  intro p e s m args below meth c s₁ Bd hml0 hP hK
  obtain ⟨rfl, hZ, hh⟩ := hP
  have hx := Bd.exec
  have hby := Bd.bytes
  have hml : c.maxLocals = 4 := hml0
  have hown : s.vm.findClass "com/example/unfold/unfold/reduction/Splitting" = some m.cls := findClass_of_methodNamed Bd.named
  have hnm := (name_of_methodNamed Bd.named Bd.method).1
  have X0 : Stand p l e ({ frames := 1, cells := 0, slots := 0, locals := 12 } : Room) s m #[(.ref a1), (.ref a2), (.ref a3), (.ref a4)] below meth c s₁ [] 0 0 := Stand.of_body Bd
  have e0 : s₁.heap = h0 := by rw [← hh, Bd.state]; rfl
  have N0 := Fr.nil n0
  have K0 : Keep h0 h0 [a1] := Keep.refl _ _
  have pre0 : ∀ t, Steps p.tables e below (s₁.setTop (mkF m 0 #[.val (.ref a1), .val (.ref a2), .val (.ref a3), .val (.ref a4)] [])) t → Steps p.tables e below (s₁.setTop (entryFrame m #[(.ref a1), (.ref a2), (.ref a3), (.ref a4)] 4)) t := fun t k => castTop (own_ef_ctor m a1 a2 a3 a4) k
  obtain ⟨T1, X1, e1, st1⟩ := initO X0 hx hZ hown (hw _ (List.mem_of_getElem? (i := 8) rfl)) (hw _ (List.mem_of_getElem? (i := 9) rfl)) (hw _ (List.mem_of_getElem? (i := 10) rfl)) e0 (g := (mkF m 1 #[.val (.ref a1), .val (.ref a2), .val (.ref a3), .val (.ref a4)] [(.ref a1)])) rfl (by rw [hml]; rfl) rfl (hb hby own_d_prog_132_method_1_1) (by decide) (W := 0) (by show 2 * 0 + _ ≤ _; exact Nat.le_of_eq rfl) (by decide)
  obtain ⟨T2, h2, X2, e2, W2, st2⟩ := putF X1 hx hZ hown (host := "") (Or.inl (hw _ (List.mem_of_getElem? (i := 11) rfl))) Via.refl e1 F_blocks E1 (Or.inr ⟨(hw _ (List.mem_of_getElem? (i := 12) rfl)), rfl, hnm⟩) (hw _ (List.mem_of_getElem? (i := 3) rfl)) (ty := (.array .int)) (by decide) rfl rfl (g := (mkF m 6 #[.val (.ref a1), .val (.ref a2), .val (.ref a3), .val (.ref a4)] [(.ref a2), (.ref a1)])) rfl rfl (hb hby own_d_prog_132_method_1_6)
  have f3 := E1.wr W2
  have f5 := F_parents.other W2 (Or.inr (slot_ne (Or.inr (hw _ (List.mem_of_getElem? (i := 14) rfl))) (Or.inr (hw _ (List.mem_of_getElem? (i := 12) rfl))) (by decide) (t := (.array .int)) (t' := (.array .int)) (by decide) (by decide)))
  have f6 := F_rounds.other W2 (Or.inr (slot_ne (Or.inr (hw _ (List.mem_of_getElem? (i := 16) rfl))) (Or.inr (hw _ (List.mem_of_getElem? (i := 12) rfl))) (by decide) (t := (.array .int)) (t' := (.array .int)) (by decide) (by decide)))
  have k7 := K0.wr W2 (Or.inl (List.mem_of_getElem? (i := 0) rfl))
  have nf8 := Fr.snoc X2 N0 g1
  have f9 := F_blocks.same W2
  obtain ⟨T10, h10, X10, e10, W10, st10⟩ := putF X2 hx hZ hown (host := "") (Or.inl (hw _ (List.mem_of_getElem? (i := 13) rfl))) Via.refl e2 f5 f3 (Or.inr ⟨(hw _ (List.mem_of_getElem? (i := 14) rfl)), rfl, hnm⟩) (hw _ (List.mem_of_getElem? (i := 3) rfl)) (ty := (.array .int)) (by decide) rfl rfl (g := (mkF m 11 #[.val (.ref a1), .val (.ref a2), .val (.ref a3), .val (.ref a4)] [(.ref a3), (.ref a1)])) rfl rfl (hb hby own_d_prog_132_method_1_11)
  have f11 := f3.wr W10
  have f12 := f9.other W10 (Or.inr (slot_ne (Or.inr (hw _ (List.mem_of_getElem? (i := 12) rfl))) (Or.inr (hw _ (List.mem_of_getElem? (i := 14) rfl))) (by decide) (t := (.array .int)) (t' := (.array .int)) (by decide) (by decide)))
  have f14 := f6.other W10 (Or.inr (slot_ne (Or.inr (hw _ (List.mem_of_getElem? (i := 16) rfl))) (Or.inr (hw _ (List.mem_of_getElem? (i := 14) rfl))) (by decide) (t := (.array .int)) (t' := (.array .int)) (by decide) (by decide)))
  have k15 := k7.wr W10 (Or.inl (List.mem_of_getElem? (i := 0) rfl))
  have nf16 := Fr.snoc X10 nf8 g1
  have f17 := f5.same W10
  obtain ⟨T18, h18, X18, e18, W18, st18⟩ := putF X10 hx hZ hown (host := "") (Or.inl (hw _ (List.mem_of_getElem? (i := 15) rfl))) Via.refl e10 f14 f11 (Or.inr ⟨(hw _ (List.mem_of_getElem? (i := 16) rfl)), rfl, hnm⟩) (hw _ (List.mem_of_getElem? (i := 3) rfl)) (ty := (.array .int)) (by decide) rfl rfl (g := (mkF m 16 #[.val (.ref a1), .val (.ref a2), .val (.ref a3), .val (.ref a4)] [(.ref a4), (.ref a1)])) rfl rfl (hb hby own_d_prog_132_method_1_16)
  have f19 := f11.wr W18
  have f20 := f12.other W18 (Or.inr (slot_ne (Or.inr (hw _ (List.mem_of_getElem? (i := 12) rfl))) (Or.inr (hw _ (List.mem_of_getElem? (i := 16) rfl))) (by decide) (t := (.array .int)) (t' := (.array .int)) (by decide) (by decide)))
  have f21 := f17.other W18 (Or.inr (slot_ne (Or.inr (hw _ (List.mem_of_getElem? (i := 14) rfl))) (Or.inr (hw _ (List.mem_of_getElem? (i := 16) rfl))) (by decide) (t := (.array .int)) (t' := (.array .int)) (by decide) (by decide)))
  have k23 := k15.wr W18 (Or.inl (List.mem_of_getElem? (i := 0) rfl))
  have nf24 := Fr.snoc X18 nf16 g1
  have f25 := f14.same W18
  have pre26 : ∀ t, Steps p.tables e below (T18.setTop (mkF m 19 #[.val (.ref a1), .val (.ref a2), .val (.ref a3), .val (.ref a4)] [])) t → Steps p.tables e below (s₁.setTop (entryFrame m #[(.ref a1), (.ref a2), (.ref a3), (.ref a4)] 4)) t := by
    intro t kt
    refine pre0 t ?_
    show Steps p.tables e below (s₁.setTop (mkF m 0 #[.val (.ref a1), .val (.ref a2), .val (.ref a3), .val (.ref a4)] [])) _
    refine XS.aloadN X0.here hx rfl (hb hby own_d_prog_132_method_1_0) rfl rfl ?_
    show Steps p.tables e below (s₁.setTop (mkF m 1 #[.val (.ref a1), .val (.ref a2), .val (.ref a3), .val (.ref a4)] [(.ref a1)])) _
    refine st1 _ ?_
    show Steps p.tables e below (T1.setTop (mkF m 4 #[.val (.ref a1), .val (.ref a2), .val (.ref a3), .val (.ref a4)] [])) _
    refine XS.aloadN X1.here hx rfl (hb hby own_d_prog_132_method_1_4) rfl rfl ?_
    show Steps p.tables e below (T1.setTop (mkF m 5 #[.val (.ref a1), .val (.ref a2), .val (.ref a3), .val (.ref a4)] [(.ref a1)])) _
    refine XS.aloadN X1.here hx rfl (hb hby own_d_prog_132_method_1_5) rfl rfl ?_
    show Steps p.tables e below (T1.setTop (mkF m 6 #[.val (.ref a1), .val (.ref a2), .val (.ref a3), .val (.ref a4)] [(.ref a2), (.ref a1)])) _
    refine st2 _ ?_
    show Steps p.tables e below (T2.setTop (mkF m 9 #[.val (.ref a1), .val (.ref a2), .val (.ref a3), .val (.ref a4)] [])) _
    refine XS.aloadN X2.here hx rfl (hb hby own_d_prog_132_method_1_9) rfl rfl ?_
    show Steps p.tables e below (T2.setTop (mkF m 10 #[.val (.ref a1), .val (.ref a2), .val (.ref a3), .val (.ref a4)] [(.ref a1)])) _
    refine XS.aloadN X2.here hx rfl (hb hby own_d_prog_132_method_1_10) rfl rfl ?_
    show Steps p.tables e below (T2.setTop (mkF m 11 #[.val (.ref a1), .val (.ref a2), .val (.ref a3), .val (.ref a4)] [(.ref a3), (.ref a1)])) _
    refine st10 _ ?_
    show Steps p.tables e below (T10.setTop (mkF m 14 #[.val (.ref a1), .val (.ref a2), .val (.ref a3), .val (.ref a4)] [])) _
    refine XS.aloadN X10.here hx rfl (hb hby own_d_prog_132_method_1_14) rfl rfl ?_
    show Steps p.tables e below (T10.setTop (mkF m 15 #[.val (.ref a1), .val (.ref a2), .val (.ref a3), .val (.ref a4)] [(.ref a1)])) _
    refine XS.aloadN X10.here hx rfl (hb hby own_d_prog_132_method_1_15) rfl rfl ?_
    show Steps p.tables e below (T10.setTop (mkF m 16 #[.val (.ref a1), .val (.ref a2), .val (.ref a3), .val (.ref a4)] [(.ref a4), (.ref a1)])) _
    refine st18 _ ?_
    exact kt
  obtain ⟨fs, hr, hrun, hended, hW, hsame⟩ := X18.leave (v := none) (fun _ => rfl)
  refine ⟨_, _, pre26 _ ?_, hrun, hended, _, _, rfl, ?_, ⟨_, rfl⟩, hW, hsame.mono (by decide) (by decide)⟩
  · show Steps p.tables e below (T18.setTop (mkF m 19 #[.val (.ref a1), .val (.ref a2), .val (.ref a3), .val (.ref a4)] [])) _
    exact X18.returnOut hx Bd.returns (hb hby own_d_prog_132_method_1_19) hr
  · show own_Q_ctor Z a1 a2 a3 a4 h0 n0 (none) T18.heap _
    rw [e18]
    exact ⟨rfl, nf24, k23, f20, f21, f25⟩
def own_v2 (x0 x1 : Int32) : Nat → Int32
  | 0 => x0
  | _ => x1
def own_v5 (x0 x1 x2 x3 x4 : Int32) : Nat → Int32
  | 0 => x0
  | 1 => x1
  | 2 => x2
  | 3 => x3
  | _ => x4
def own_min (x y : Int32) : Int32 := if y < x then y else x
def own_sep (fP fR : Nat → Int32) : Nat → Nat → Nat → Int32 → Int32
  | 0, _, _, r => r
  | k + 1, x, y, r => if x = y then r else if fR x < fR y then own_sep fP fR k x (fP y).toNatClampNeg (fR y) else own_sep fP fR k (fP x).toNatClampNeg y (fR x)
def own_anc (fP : Nat → Int32) (c : Int32) (s : Nat) : Int32 := if c = Int32.ofNat s ∨ c = fP s ∨ c = fP (fP s).toNatClampNeg ∨ c = fP (fP (fP s).toNatClampNeg).toNatClampNeg then 1 else 0
def own_con (fP fR : Nat → Int32) (best c : Int32) (cn x y : Nat) : Int32 := if own_anc fP c x = own_anc fP c y then best else if best = 0 then fR cn else own_min best (fR cn)
def own_nx (fP : Nat → Int32) (x : Nat) : Nat := (fP x).toNatClampNeg
def own_Anc (fP : Nat → Int32) (c x : Nat) : Prop := c = x ∨ c = own_nx fP x ∨ c = own_nx fP (own_nx fP x) ∨ c = own_nx fP (own_nx fP (own_nx fP x))
def own_D (fP : Nat → Int32) (c x y : Nat) : Prop := ¬ (own_Anc fP c x ↔ own_Anc fP c y)
section Plain
variable {fP fR : Nat → Int32}
theorem own_nxl (T : own_tree 5 fP fR) {x : Nat} (hx : x < 5) : own_nx fP x < 5 ∧ (own_nx fP x < x ∨ (x = 0 ∧ own_nx fP x = 0)) := by
  refine ⟨T.lt (by decide) hx, ?_⟩
  by_cases u : x = 0
  · right; refine ⟨u, ?_⟩; subst u; show (fP 0).toNatClampNeg = 0; rw [T.2.1]; rfl
  · left; exact (T.2.2.2 x (by omega) hx).1
theorem own_ancS (T : own_tree 5 fP fR) {c x : Nat} (hx : x < 5) (h0 : 0 < x) (hc : c ≠ 0) : own_Anc fP c x ↔ c = x ∨ own_Anc fP c (own_nx fP x) := by
  have a1 := own_nxl T hx
  have a2 := own_nxl T a1.1
  have a3 := own_nxl T a2.1
  have a4 := own_nxl T a3.1
  unfold own_Anc
  constructor
  · intro h; rcases h with h | h | h | h
    · exact Or.inl h
    · exact Or.inr (Or.inl h)
    · exact Or.inr (Or.inr (Or.inl h))
    · exact Or.inr (Or.inr (Or.inr (Or.inl h)))
  · intro h; rcases h with h | h | h | h | h
    · exact Or.inl h
    · exact Or.inr (Or.inl h)
    · exact Or.inr (Or.inr (Or.inl h))
    · exact Or.inr (Or.inr (Or.inr h))
    · exact absurd (show c = 0 by omega) hc
theorem own_nxR (T : own_tree 5 fP fR) {x : Nat} (hx : x < 5) : own_nx fP x = x ∨ (fR (own_nx fP x)).toInt < (fR x).toInt := by
  by_cases u : x = 0
  · left; have := (own_nxl T hx).2; omega
  · right; exact (T.2.2.2 x (by omega) hx).2.1
theorem own_ancR (T : own_tree 5 fP fR) {c x : Nat} (hx : x < 5) (h : own_Anc fP c x) : c = x ∨ (fR c).toInt < (fR x).toInt := by
  have a1 := own_nxl T hx
  have a2 := own_nxl T a1.1
  have b1 := own_nxR T hx
  have b2 := own_nxR T a1.1
  have b3 := own_nxR T a2.1
  rcases h with h | h | h | h
  · exact Or.inl h
  · rw [h]; exact b1
  · rw [h]; rcases b2 with e | e
    · rw [e]; exact b1
    · rcases b1 with e' | e'
      · rw [e'] at e ⊢; exact Or.inr e
      · right; omega
  · rw [h]
    have q : own_nx fP (own_nx fP x) = x ∨ (fR (own_nx fP (own_nx fP x))).toInt < (fR x).toInt := by
      rcases b2 with e | e
      · rw [e]; exact b1
      · rcases b1 with e' | e'
        · rw [e'] at e ⊢; exact Or.inr e
        · right; omega
    rcases b3 with e | e
    · rw [e]; exact q
    · rcases q with e' | e'
      · rw [e'] at e ⊢; exact Or.inr e
      · right; omega
/-- what is known of a candidate for the least round that parts x and y, among the nodes 1 to m -/
def own_Bst (fP fR : Nat → Int32) (m x y : Nat) (v : Int32) : Prop := (v = 0 ∧ ∀ c, 1 ≤ c → c ≤ m → ¬ own_D fP c x y) ∨ ∃ c, 1 ≤ c ∧ c ≤ m ∧ own_D fP c x y ∧ v = fR c ∧ ∀ c', 1 ≤ c' → c' ≤ m → own_D fP c' x y → (fR c).toInt ≤ (fR c').toInt
theorem own_mv (T : own_tree 5 fP fR) {x y : Nat} {v : Int32} (hx : x < 5) (hy : y < 5) (h0 : 0 < x) (ne : x ≠ y) (hR : (fR y).toInt ≤ (fR x).toInt)
    (H : (own_nx fP x = y ∧ v = fR x) ∨ ∃ c, 1 ≤ c ∧ c ≤ 4 ∧ own_D fP c (own_nx fP x) y ∧ v = fR c ∧ ∀ c', 1 ≤ c' → c' ≤ 4 → own_D fP c' (own_nx fP x) y → (fR c).toInt ≤ (fR c').toInt) :
    ∃ c, 1 ≤ c ∧ c ≤ 4 ∧ own_D fP c x y ∧ v = fR c ∧ ∀ c', 1 ≤ c' → c' ≤ 4 → own_D fP c' x y → (fR c).toInt ≤ (fR c').toInt := by
  have nxl := own_nxl T hx
  have nxR := (T.2.2.2 x h0 hx).2.1
  have nxy : ¬ own_Anc fP x y := fun h => by
    rcases own_ancR T hy h with e | e
    · exact ne e
    · omega
  have nxx : ¬ own_Anc fP x (own_nx fP x) := fun h => by
    rcases own_ancR T nxl.1 h with e | e
    · omega
    · change (fR (own_nx fP x)).toInt < _ at nxR; omega
  have AS : ∀ c, 1 ≤ c → (own_Anc fP c x ↔ c = x ∨ own_Anc fP c (own_nx fP x)) := fun c hc => own_ancS T hx h0 (by omega)
  rcases H with ⟨e, hv⟩ | ⟨c, h1, h2, hD, hv, hm⟩
  · refine ⟨x, h0, by omega, fun h => nxy (h.mp (Or.inl rfl)), hv, fun c' g1 g2 gD => ?_⟩
    by_cases u : c' = x
    · subst u; exact Int.le_refl _
    · exfalso; apply gD; rw [AS c' g1, e]; exact ⟨fun h => h.resolve_left u, Or.inr⟩
  · have cx : c ≠ x := fun e => by subst e; exact hD ⟨fun h => absurd h nxx, fun h => absurd h nxy⟩
    refine ⟨c, h1, h2, fun h => hD ⟨fun q => h.mp ((AS c h1).mpr (Or.inr q)), fun q => ((AS c h1).mp (h.mpr q)).resolve_left cx⟩, hv, fun c' g1 g2 gD => ?_⟩
    by_cases u : c' = x
    · subst u
      by_cases w : own_Anc fP c (own_nx fP c')
      · change (fR (own_nx fP c')).toInt < _ at nxR
        rcases own_ancR T nxl.1 w with e | e
        · rw [e]; omega
        · omega
      · by_cases w' : own_Anc fP c y
        · rcases own_ancR T hy w' with e | e
          · rw [e]; exact hR
          · omega
        · exact absurd ⟨fun h => absurd h w, fun h => absurd h w'⟩ hD
    · exact hm c' g1 g2 fun h => gD ⟨fun q => h.mp (((AS c' g1).mp q).resolve_left u), fun q => (AS c' g1).mpr (Or.inr (h.mpr q))⟩
theorem own_Dsym {c x y : Nat} (h : own_D fP c x y) : own_D fP c y x := fun q => h q.symm
theorem own_y0 (T : own_tree 5 fP fR) {x y : Nat} (hx : x < 5) (h : fR x < fR y) : 0 < y := by
  rw [own_gt] at h; have := T.r0 hx
  by_cases u : y = 0
  · subst u; rw [T.1, own_z] at h; omega
  · omega
theorem own_x0 (T : own_tree 5 fP fR) {x y : Nat} (hy : y < 5) (ne : x ≠ y) (h : ¬ fR x < fR y) : 0 < x := by
  rw [own_gt] at h
  by_cases u : x = 0
  · subst u; rw [T.1, own_z] at h; have := (T.2.2.2 y (by omega) hy).2.2; omega
  · omega
theorem own_spec (T : own_tree 5 fP fR) : ∀ (k x y : Nat) (r : Int32), x < 5 → y < 5 → x + y < k → (x = y ∧ own_sep fP fR k x y r = r) ∨ ∃ c, 1 ≤ c ∧ c ≤ 4 ∧ own_D fP c x y ∧ own_sep fP fR k x y r = fR c ∧ ∀ c', 1 ≤ c' → c' ≤ 4 → own_D fP c' x y → (fR c).toInt ≤ (fR c').toInt := by
  intro k
  induction k with
  | zero => intro x y r hx hy hk; omega
  | succ k ih =>
    intro x y r hx hy hk
    by_cases e : x = y
    · left; refine ⟨e, ?_⟩; simp [own_sep, e]
    · right
      by_cases g : fR x < fR y
      · have y0 := own_y0 T hx g
        have ly := own_nxl T hy
        have E : own_sep fP fR (k + 1) x y r = own_sep fP fR k x (own_nx fP y) (fR y) := by simp [own_sep, e, g, own_nx]
        rw [E]
        have q := own_mv T hy hx y0 (Ne.symm e) (by rw [own_gt] at g; omega) (v := own_sep fP fR k x (own_nx fP y) (fR y)) (by
          rcases ih x (own_nx fP y) (fR y) hx ly.1 (by omega) with ⟨h1, h2⟩ | ⟨c, h1, h2, h3, h4, h5⟩
          · exact Or.inl ⟨h1.symm, h2⟩
          · exact Or.inr ⟨c, h1, h2, own_Dsym h3, h4, fun c' g1 g2 g3 => h5 c' g1 g2 (own_Dsym g3)⟩)
        obtain ⟨c, h1, h2, h3, h4, h5⟩ := q
        exact ⟨c, h1, h2, own_Dsym h3, h4, fun c' g1 g2 g3 => h5 c' g1 g2 (own_Dsym g3)⟩
      · have x0 := own_x0 T hy e g
        have lx := own_nxl T hx
        have E : own_sep fP fR (k + 1) x y r = own_sep fP fR k (own_nx fP x) y (fR x) := by simp [own_sep, e, g, own_nx]
        rw [E]
        exact own_mv T hx hy x0 e (by rw [own_gt] at g; omega) (ih (own_nx fP x) y (fR x) lx.1 hy (by omega))
theorem own_ancV (T : own_tree 5 fP fR) {c x : Nat} (hx : x < 5) (hc : c ≤ 4) : (own_Anc fP c x → own_anc fP (Int32.ofNat c) x = 1) ∧ (¬ own_Anc fP c x → own_anc fP (Int32.ofNat c) x = 0) := by
  have a1 := own_nxl T hx
  have a2 := own_nxl T a1.1
  have a3 := own_nxl T a2.1
  have e1 : Int32.ofNat (own_nx fP x) = fP x := own_back (T.2.2.1 x hx)
  have e2 : Int32.ofNat (own_nx fP (own_nx fP x)) = fP (own_nx fP x) := own_back (T.2.2.1 _ a1.1)
  have e3 : Int32.ofNat (own_nx fP (own_nx fP (own_nx fP x))) = fP (own_nx fP (own_nx fP x)) := own_back (T.2.2.1 _ a2.1)
  constructor
  · intro h
    refine if_pos ?_
    rcases h with h | h | h | h
    · left; rw [h]
    · right; left; rw [h]; exact e1
    · right; right; left; rw [h]; exact e2
    · right; right; right; rw [h]; exact e3
  · intro h
    refine if_neg fun q => h ?_
    rcases q with q | q | q | q
    · left; exact own_inj (by omega) (by omega) q
    · right; left; exact own_inj (by omega) (by omega) (q.trans e1.symm)
    · right; right; left; exact own_inj (by omega) (by omega) (q.trans e2.symm)
    · right; right; right; exact own_inj (by omega) (by omega) (q.trans e3.symm)
theorem own_conD (T : own_tree 5 fP fR) {c x y : Nat} {best : Int32} (hx : x < 5) (hy : y < 5) (hc : c ≤ 4) : (own_D fP c x y → own_con fP fR best (Int32.ofNat c) c x y = if best = 0 then fR c else own_min best (fR c)) ∧ (¬ own_D fP c x y → own_con fP fR best (Int32.ofNat c) c x y = best) := by
  have v1 := own_ancV T hx hc
  have v2 := own_ancV T hy hc
  constructor
  · intro h
    refine if_neg fun q => h ?_
    by_cases u : own_Anc fP c x <;> by_cases w : own_Anc fP c y
    · exact ⟨fun _ => w, fun _ => u⟩
    · rw [v1.1 u, v2.2 w] at q; exact absurd q (by decide)
    · rw [v1.2 u, v2.1 w] at q; exact absurd q (by decide)
    · exact ⟨fun h => absurd h u, fun h => absurd h w⟩
  · intro h
    refine if_pos ?_
    by_cases u : own_Anc fP c x <;> by_cases w : own_Anc fP c y
    · rw [v1.1 u, v2.1 w]
    · exact absurd (fun q : own_Anc fP c x ↔ own_Anc fP c y => w (q.mp u)) h
    · exact absurd (fun q : own_Anc fP c x ↔ own_Anc fP c y => u (q.mpr w)) h
    · rw [v1.2 u, v2.2 w]
theorem own_bstS (T : own_tree 5 fP fR) {m x y : Nat} {best : Int32} (hx : x < 5) (hy : y < 5) (hm : m + 1 ≤ 4) (B : own_Bst fP fR m x y best) : own_Bst fP fR (m + 1) x y (own_con fP fR best (Int32.ofNat (m + 1)) (m + 1) x y) := by
  have cd := own_conD (best := best) T hx hy hm
  by_cases d : own_D fP (m + 1) x y
  · rw [cd.1 d]
    rcases B with ⟨rfl, h⟩ | ⟨c, h1, h2, h3, rfl, h5⟩
    · rw [if_pos rfl]
      refine Or.inr ⟨m + 1, by omega, Nat.le_refl _, d, rfl, fun c' g1 g2 g3 => ?_⟩
      by_cases u : c' = m + 1
      · subst u; exact Int.le_refl _
      · exact absurd g3 (h c' g1 (by omega))
    · have pc := (T.2.2.2 c (by omega) (by omega)).2.2
      rw [if_neg (fun e => by rw [e, own_z] at pc; omega)]
      unfold own_min
      by_cases u : fR (m + 1) < fR c
      · rw [if_pos u]; rw [own_gt] at u
        refine Or.inr ⟨m + 1, by omega, Nat.le_refl _, d, rfl, fun c' g1 g2 g3 => ?_⟩
        by_cases w : c' = m + 1
        · subst w; exact Int.le_refl _
        · have := h5 c' g1 (by omega) g3; omega
      · rw [if_neg u]; rw [own_gt] at u
        refine Or.inr ⟨c, h1, by omega, h3, rfl, fun c' g1 g2 g3 => ?_⟩
        by_cases w : c' = m + 1
        · subst w; omega
        · exact h5 c' g1 (by omega) g3
  · rw [cd.2 d]
    rcases B with ⟨rfl, h⟩ | ⟨c, h1, h2, h3, h4, h5⟩
    · refine Or.inl ⟨rfl, fun c g1 g2 => ?_⟩
      by_cases u : c = m + 1
      · subst u; exact d
      · exact h c g1 (by omega)
    · refine Or.inr ⟨c, h1, by omega, h3, h4, fun c' g1 g2 g3 => ?_⟩
      by_cases u : c' = m + 1
      · subst u; exact absurd g3 d
      · exact h5 c' g1 (by omega) g3
theorem own_bstU {m x y : Nat} {v w : Int32} (A : own_Bst fP fR m x y v) (B : own_Bst fP fR m x y w) : v = w := by
  rcases A with ⟨rfl, h⟩ | ⟨c, h1, h2, h3, rfl, h5⟩ <;> rcases B with ⟨rfl, g⟩ | ⟨d, g1, g2, g3, rfl, g5⟩
  · rfl
  · exact absurd g3 (h d g1 g2)
  · exact absurd h3 (g c h1 h2)
  · have := h5 d g1 g2 g3; have := g5 c h1 h2 h3
    exact Int32.toInt_inj.mp (by omega)
theorem own_fin (T : own_tree 5 fP fR) {x y : Nat} (hx : x < 5) (hy : y < 5) : own_sep fP fR 9 x y 0 = own_con fP fR (own_con fP fR (own_con fP fR (own_con fP fR 0 1 1 x y) 2 2 x y) 3 3 x y) 4 4 x y := by
  have B0 : own_Bst fP fR 0 x y 0 := Or.inl ⟨rfl, fun c h1 h2 => by omega⟩
  have B4 := own_bstS T hx hy (by decide) (own_bstS T hx hy (by decide) (own_bstS T hx hy (by decide) (own_bstS T hx hy (by decide) B0)))
  refine own_bstU (m := 4) ?_ B4
  rcases own_spec T 9 x y 0 hx hy (by omega) with ⟨h1, h2⟩ | h
  · refine Or.inl ⟨h2, fun c _ _ h => h ?_⟩
    rw [h1]
  · exact Or.inr h
end Plain
theorem own_d_jdk_29_method_69_0 : decode jdk_29_method_69_code 0 = .ok (.iload_n 0, 1) := by decide +kernel
theorem own_d_jdk_29_method_69_1 : decode jdk_29_method_69_code 1 = .ok (.iload_n 1, 1) := by decide +kernel
theorem own_d_jdk_29_method_69_2 : decode jdk_29_method_69_code 2 = .ok (.if_icmp .gt 7, 3) := by decide +kernel
theorem own_d_jdk_29_method_69_5 : decode jdk_29_method_69_code 5 = .ok (.iload_n 0, 1) := by decide +kernel
theorem own_d_jdk_29_method_69_6 : decode jdk_29_method_69_code 6 = .ok (.goto 4, 3) := by decide +kernel
theorem own_d_jdk_29_method_69_9 : decode jdk_29_method_69_code 9 = .ok (.iload_n 1, 1) := by decide +kernel
theorem own_d_jdk_29_method_69_10 : decode jdk_29_method_69_code 10 = .ok (.ireturn, 1) := by decide +kernel
theorem own_ef_min (m : MethodId) (p1 : Int32) (p2 : Int32) : entryFrame m #[(.int p1), (.int p2)] 2 = mkF m 0 #[.val (.int p1), .val (.int p2)] [] := by first | (simp [entryFrame, mkF, argsToLocals, Value.category]; done) | rfl
def own_Q_min (Z : State) (p1 : Int32) (p2 : Int32) (h0 : Heap) (n0 : Nat) (v : Option Value) (h : Heap) (L : List Loc) : Prop := v = some (.int (own_min p1 p2)) ∧ Fr n0 L ∧ h = h0
set_option maxRecDepth 65536 in
set_option maxHeartbeats 40000000 in
theorem own_rm_min (l : Launch) (Z : State) (a0 : Array Value) (hw : ∀ d ∈ tables_1, d.before a0 Z = true) (ws : List Jvm.Cond) (p1 : Int32) (p2 : Int32) (h0 : Heap) (n0 : Nat) (Z0 : n0 ≤ h0.size) :
    MetFree l (⟨"java/lang/Math", "min", "(II)I"⟩ : MethodName) (head1 (Jvm.Cond.code (⟨"java/lang/Math", "min", "(II)I"⟩ : MethodName) jdk_29_method_69_code 2 (some .int) :: ws) ({ frames := 0, cells := 0, slots := 0, locals := 0 } : Room)) (fun a U => a = #[(.int p1), (.int p2)] ∧ Z.Warmed39 U.vm ∧ U.heap = h0) (fun _ _ _ _ _ => True) (fun _ U o U' => ∃ v L, o = .returned v ∧ own_Q_min Z p1 p2 h0 n0 v U'.heap L ∧ FrameEnd U o U' L ({ frames := 0, cells := 0, slots := 0, locals := 0 } : Room).cells ({ frames := 0, cells := 0, slots := 0, locals := 0 } : Room).slots) := by
  refine MetFree.of_bodySF (Jvm.Free.JP.mathPlain rfl (by decide +kernel)) hisR ?_
  intro p e s m args below meth c s₁ Bd hml0 hP hK
  obtain ⟨rfl, hZ, hh⟩ := hP
  have hx := Bd.exec
  have hby := Bd.bytes
  have hml : c.maxLocals = 2 := hml0
  have hown : s.vm.findClass "java/lang/Math" = some m.cls := findClass_of_methodNamed Bd.named
  have hnm := (name_of_methodNamed Bd.named Bd.method).1
  have X0 : Stand p l e ({ frames := 0, cells := 0, slots := 0, locals := 0 } : Room) s m #[(.int p1), (.int p2)] below meth c s₁ [] 0 0 := Stand.of_body Bd
  have e0 : s₁.heap = h0 := by rw [← hh, Bd.state]; rfl
  have N0 := Fr.nil n0
  have K0 : Keep h0 h0 [] := Keep.refl _ _
  have pre0 : ∀ t, Steps p.tables e below (s₁.setTop (mkF m 0 #[.val (.int p1), .val (.int p2)] [])) t → Steps p.tables e below (s₁.setTop (entryFrame m #[(.int p1), (.int p2)] 2)) t := fun t k => castTop (own_ef_min m p1 p2) k
  have pre1 : ∀ t, Steps p.tables e below (s₁.setTop (mkF m 2 #[.val (.int p1), .val (.int p2)] [(.int p2), (.int p1)])) t → Steps p.tables e below (s₁.setTop (entryFrame m #[(.int p1), (.int p2)] 2)) t := by
    intro t kt
    refine pre0 t ?_
    show Steps p.tables e below (s₁.setTop (mkF m 0 #[.val (.int p1), .val (.int p2)] [])) _
    refine XS.iloadN X0.here hx rfl (hb hby own_d_jdk_29_method_69_0) rfl ?_
    show Steps p.tables e below (s₁.setTop (mkF m 1 #[.val (.int p1), .val (.int p2)] [(.int p1)])) _
    refine XS.iloadN X0.here hx rfl (hb hby own_d_jdk_29_method_69_1) rfl ?_
    exact kt
  by_cases hc2 : p2 < p1
  · have pre3 : ∀ t, Steps p.tables e below (s₁.setTop (mkF m 10 #[.val (.int p1), .val (.int p2)] [(.int p2)])) t → Steps p.tables e below (s₁.setTop (entryFrame m #[(.int p1), (.int p2)] 2)) t := by
      intro t kt
      refine pre1 t ?_
      show Steps p.tables e below (s₁.setTop (mkF m 2 #[.val (.int p1), .val (.int p2)] [(.int p2), (.int p1)])) _
      refine XS.icmpYes X0.here hx rfl (pc0 := 2) (pc' := 9) rfl (hb hby own_d_jdk_29_method_69_2) rfl (tlt hc2).2.2.1 (by decide) (by decide) ?_
      show Steps p.tables e below (s₁.setTop (mkF m 9 #[.val (.int p1), .val (.int p2)] [])) _
      refine XS.iloadN X0.here hx rfl (hb hby own_d_jdk_29_method_69_9) rfl ?_
      exact kt
    obtain ⟨fs, hr, hrun, hended, hW, hsame⟩ := X0.leave (v := some (.int p2)) (fun h => by rw [Bd.returns] at h; cases h)
    refine ⟨_, _, pre3 _ ?_, hrun, hended, _, _, rfl, ?_, ⟨_, rfl⟩, hW, hsame.mono (by decide) (by decide)⟩
    · show Steps p.tables e below (s₁.setTop (mkF m 10 #[.val (.int p1), .val (.int p2)] [(.int p2)])) _
      exact retI X0 hx Bd.returns (hb hby own_d_jdk_29_method_69_10) hr
    · show own_Q_min Z p1 p2 h0 n0 (some (.int p2)) s₁.heap _
      rw [e0]
      exact ⟨by simp [own_min, hc2], N0, rfl⟩
  · have pre4 : ∀ t, Steps p.tables e below (s₁.setTop (mkF m 10 #[.val (.int p1), .val (.int p2)] [(.int p1)])) t → Steps p.tables e below (s₁.setTop (entryFrame m #[(.int p1), (.int p2)] 2)) t := by
      intro t kt
      refine pre1 t ?_
      show Steps p.tables e below (s₁.setTop (mkF m 2 #[.val (.int p1), .val (.int p2)] [(.int p2), (.int p1)])) _
      refine XS.icmpNo X0.here hx rfl (hb hby own_d_jdk_29_method_69_2) rfl (flt hc2).2.2.1 ?_
      show Steps p.tables e below (s₁.setTop (mkF m 5 #[.val (.int p1), .val (.int p2)] [])) _
      refine XS.iloadN X0.here hx rfl (hb hby own_d_jdk_29_method_69_5) rfl ?_
      show Steps p.tables e below (s₁.setTop (mkF m 6 #[.val (.int p1), .val (.int p2)] [(.int p1)])) _
      refine XS.goto X0.here hx rfl (pc0 := 6) (pc' := 10) rfl (hb hby own_d_jdk_29_method_69_6) (by decide) (by decide) ?_
      exact kt
    obtain ⟨fs, hr, hrun, hended, hW, hsame⟩ := X0.leave (v := some (.int p1)) (fun h => by rw [Bd.returns] at h; cases h)
    refine ⟨_, _, pre4 _ ?_, hrun, hended, _, _, rfl, ?_, ⟨_, rfl⟩, hW, hsame.mono (by decide) (by decide)⟩
    · show Steps p.tables e below (s₁.setTop (mkF m 10 #[.val (.int p1), .val (.int p2)] [(.int p1)])) _
      exact retI X0 hx Bd.returns (hb hby own_d_jdk_29_method_69_10) hr
    · show own_Q_min Z p1 p2 h0 n0 (some (.int p1)) s₁.heap _
      rw [e0]
      exact ⟨by simp [own_min, hc2], N0, rfl⟩
theorem own_d_method_3_0 : decode method_3_code 0 = .ok (.aload_n 2, 1) := by decide +kernel
theorem own_d_method_3_1 : decode method_3_code 1 = .ok (.iload_n 1, 1) := by decide +kernel
theorem own_d_method_3_2 : decode method_3_code 2 = .ok (.iaload, 1) := by decide +kernel
theorem own_d_method_3_3 : decode method_3_code 3 = .ok (.istore_n 3, 1) := by decide +kernel
theorem own_d_method_3_4 : decode method_3_code 4 = .ok (.aload_n 2, 1) := by decide +kernel
theorem own_d_method_3_5 : decode method_3_code 5 = .ok (.iload_n 3, 1) := by decide +kernel
theorem own_d_method_3_6 : decode method_3_code 6 = .ok (.iaload, 1) := by decide +kernel
theorem own_d_method_3_7 : decode method_3_code 7 = .ok (.istore 4, 2) := by decide +kernel
theorem own_d_method_3_9 : decode method_3_code 9 = .ok (.aload_n 2, 1) := by decide +kernel
theorem own_d_method_3_10 : decode method_3_code 10 = .ok (.iload 4, 2) := by decide +kernel
theorem own_d_method_3_12 : decode method_3_code 12 = .ok (.iaload, 1) := by decide +kernel
theorem own_d_method_3_13 : decode method_3_code 13 = .ok (.istore 5, 2) := by decide +kernel
theorem own_d_method_3_15 : decode method_3_code 15 = .ok (.iload_n 0, 1) := by decide +kernel
theorem own_d_method_3_16 : decode method_3_code 16 = .ok (.iload_n 1, 1) := by decide +kernel
theorem own_d_method_3_17 : decode method_3_code 17 = .ok (.if_icmp .eq 20, 3) := by decide +kernel
theorem own_d_method_3_20 : decode method_3_code 20 = .ok (.iload_n 0, 1) := by decide +kernel
theorem own_d_method_3_21 : decode method_3_code 21 = .ok (.iload_n 3, 1) := by decide +kernel
theorem own_d_method_3_22 : decode method_3_code 22 = .ok (.if_icmp .eq 15, 3) := by decide +kernel
theorem own_d_method_3_25 : decode method_3_code 25 = .ok (.iload_n 0, 1) := by decide +kernel
theorem own_d_method_3_26 : decode method_3_code 26 = .ok (.iload 4, 2) := by decide +kernel
theorem own_d_method_3_28 : decode method_3_code 28 = .ok (.if_icmp .eq 9, 3) := by decide +kernel
theorem own_d_method_3_31 : decode method_3_code 31 = .ok (.iload_n 0, 1) := by decide +kernel
theorem own_d_method_3_32 : decode method_3_code 32 = .ok (.iload 5, 2) := by decide +kernel
theorem own_d_method_3_34 : decode method_3_code 34 = .ok (.if_icmp .ne 7, 3) := by decide +kernel
theorem own_d_method_3_37 : decode method_3_code 37 = .ok (.iconst 1, 1) := by decide +kernel
theorem own_d_method_3_38 : decode method_3_code 38 = .ok (.goto 4, 3) := by decide +kernel
theorem own_d_method_3_41 : decode method_3_code 41 = .ok (.iconst 0, 1) := by decide +kernel
theorem own_d_method_3_42 : decode method_3_code 42 = .ok (.ireturn, 1) := by decide +kernel
theorem own_pn1 : plainName "com/example/unfold/unfold/reduction/SplittingSeparationPinLaw" = true := by first | (simp [plainName, overriddenIn]; done) | decide +kernel
theorem own_ef_anc (m : MethodId) (p0 : Int32) (p1 : Int32) (a2 : Addr) : entryFrame m #[(.int p0), (.int p1), (.ref a2)] 6 = mkF m 0 #[.val (.int p0), .val (.int p1), .val (.ref a2), .unset, .unset, .unset] [] := by first | (simp [entryFrame, mkF, argsToLocals, Value.category]; done) | rfl
def own_Q_anc (Z : State) (p0 : Int32) (p1 : Int32) (a2 : Addr) (s_ : Nat) (fP : Nat → Int32) (fR : Nat → Int32) (h0 : Heap) (n0 : Nat) (v : Option Value) (h : Heap) (L : List Loc) : Prop := v = some (.int (own_anc fP p0 s_)) ∧ Fr n0 L ∧ h = h0
set_option maxRecDepth 65536 in
set_option maxHeartbeats 40000000 in
theorem own_rm_anc (l : Launch) (Z : State) (a0 : Array Value) (hw : ∀ d ∈ tables_1, d.before a0 Z = true) (ws : List Jvm.Cond) (p0 : Int32) (p1 : Int32) (a2 : Addr) (s_ : Nat) (fP : Nat → Int32) (fR : Nat → Int32) (h0 : Heap) (n0 : Nat) (Z0 : n0 ≤ h0.size) (AP : own_A Z h0 a2 5 fP) (hs : p1 = Int32.ofNat s_) (hs4 : s_ < 5) (hT : own_tree 5 fP fR) :
    MetFree l (⟨"com/example/unfold/unfold/reduction/SplittingSeparationPinLaw", "isAnc", "(II[I)Z"⟩ : MethodName) (head1 (Jvm.Cond.code (⟨"com/example/unfold/unfold/reduction/SplittingSeparationPinLaw", "isAnc", "(II[I)Z"⟩ : MethodName) method_3_code 6 (some .boolean) :: ws) ({ frames := 0, cells := 0, slots := 0, locals := 0 } : Room)) (fun a U => a = #[(.int p0), (.int p1), (.ref a2)] ∧ Z.Warmed39 U.vm ∧ U.heap = h0) (fun _ _ _ _ _ => True) (fun _ U o U' => ∃ v L, o = .returned v ∧ own_Q_anc Z p0 p1 a2 s_ fP fR h0 n0 v U'.heap L ∧ FrameEnd U o U' L ({ frames := 0, cells := 0, slots := 0, locals := 0 } : Room).cells ({ frames := 0, cells := 0, slots := 0, locals := 0 } : Room).slots) := by
  refine MetFree.of_bodySF (plainFor_of_name own_pn1) hisR ?_
  intro p e s m args below meth c s₁ Bd hml0 hP hK
  obtain ⟨rfl, hZ, hh⟩ := hP
  have hx := Bd.exec
  have hby := Bd.bytes
  have hml : c.maxLocals = 6 := hml0
  have hown : s.vm.findClass "com/example/unfold/unfold/reduction/SplittingSeparationPinLaw" = some m.cls := findClass_of_methodNamed Bd.named
  have hnm := (name_of_methodNamed Bd.named Bd.method).1
  have X0 : Stand p l e ({ frames := 0, cells := 0, slots := 0, locals := 0 } : Room) s m #[(.int p0), (.int p1), (.ref a2)] below meth c s₁ [] 0 0 := Stand.of_body Bd
  have e0 : s₁.heap = h0 := by rw [← hh, Bd.state]; rfl
  have N0 := Fr.nil n0
  have K0 : Keep h0 h0 [] := Keep.refl _ _
  have pre0 : ∀ t, Steps p.tables e below (s₁.setTop (mkF m 0 #[.val (.int p0), .val (.int p1), .val (.ref a2), .unset, .unset, .unset] [])) t → Steps p.tables e below (s₁.setTop (entryFrame m #[(.int p0), (.int p1), (.ref a2)] 6)) t := fun t k => castTop (own_ef_anc m p0 p1 a2) k
  obtain ⟨cl1, Ar1, S1, H1⟩ := id AP
  have hin1 : ¬ (p1 < 0 ∨ cl1.slots.size ≤ (p1).toNatClampNeg) := own_inb S1 (by rw [hs]; exact own_of0 (by omega)) (by rw [hs, own_ofN (by omega)]; exact hs4)
  have hat1 : cl1.slots[(p1).toNatClampNeg]? = some (.int (fP s_)) := (by rw [hs, own_ofN (by omega)]; exact H1 s_ hs4)
  obtain ⟨cl2, Ar2, S2, H2⟩ := id AP
  have hin2 : ¬ ((fP s_) < 0 ∨ cl2.slots.size ≤ ((fP s_)).toNatClampNeg) := own_inb S2 (hT.2.2.1 _ hs4) (hT.lt (by decide) hs4)
  have hat2 : cl2.slots[((fP s_)).toNatClampNeg]? = some (.int (fP (fP s_).toNatClampNeg)) := H2 _ (hT.lt (by decide) hs4)
  obtain ⟨cl3, Ar3, S3, H3⟩ := id AP
  have hin3 : ¬ ((fP (fP s_).toNatClampNeg) < 0 ∨ cl3.slots.size ≤ ((fP (fP s_).toNatClampNeg)).toNatClampNeg) := own_inb S3 (hT.2.2.1 _ (hT.lt (by decide) hs4)) (hT.lt (by decide) (hT.lt (by decide) hs4))
  have hat3 : cl3.slots[((fP (fP s_).toNatClampNeg)).toNatClampNeg]? = some (.int (fP (fP (fP s_).toNatClampNeg).toNatClampNeg)) := H3 _ (hT.lt (by decide) (hT.lt (by decide) hs4))
  have pre4 : ∀ t, Steps p.tables e below (s₁.setTop (mkF m 17 #[.val (.int p0), .val (.int p1), .val (.ref a2), .val (.int (fP s_)), .val (.int (fP (fP s_).toNatClampNeg)), .val (.int (fP (fP (fP s_).toNatClampNeg).toNatClampNeg))] [(.int p1), (.int p0)])) t → Steps p.tables e below (s₁.setTop (entryFrame m #[(.int p0), (.int p1), (.ref a2)] 6)) t := by
    intro t kt
    refine pre0 t ?_
    show Steps p.tables e below (s₁.setTop (mkF m 0 #[.val (.int p0), .val (.int p1), .val (.ref a2), .unset, .unset, .unset] [])) _
    refine XS.aloadN X0.here hx rfl (hb hby own_d_method_3_0) rfl rfl ?_
    show Steps p.tables e below (s₁.setTop (mkF m 1 #[.val (.int p0), .val (.int p1), .val (.ref a2), .unset, .unset, .unset] [(.ref a2)])) _
    refine XS.iloadN X0.here hx rfl (hb hby own_d_method_3_1) rfl ?_
    show Steps p.tables e below (s₁.setTop (mkF m 2 #[.val (.int p0), .val (.int p1), .val (.ref a2), .unset, .unset, .unset] [(.int p1), (.ref a2)])) _
    refine X0.iaload hx (j := p1) (v := (.int (fP s_))) (by rw [e0]; exact Ar1.1) (State.isArrayOf_alike hZ.alike Ar1.2.1) Ar1.2.2 hin1 hat1 (g := (mkF m 2 #[.val (.int p0), .val (.int p1), .val (.ref a2), .unset, .unset, .unset] [(.int p1), (.ref a2)])) rfl rfl (hb hby own_d_method_3_2) _ ?_
    show Steps p.tables e below (s₁.setTop (mkF m 3 #[.val (.int p0), .val (.int p1), .val (.ref a2), .unset, .unset, .unset] [(.int (fP s_))])) _
    refine XS.istoreN X0.here hx rfl (hb hby own_d_method_3_3) rfl (l' := #[.val (.int p0), .val (.int p1), .val (.ref a2), .val (.int (fP s_)), .unset, .unset]) rfl ?_
    show Steps p.tables e below (s₁.setTop (mkF m 4 #[.val (.int p0), .val (.int p1), .val (.ref a2), .val (.int (fP s_)), .unset, .unset] [])) _
    refine XS.aloadN X0.here hx rfl (hb hby own_d_method_3_4) rfl rfl ?_
    show Steps p.tables e below (s₁.setTop (mkF m 5 #[.val (.int p0), .val (.int p1), .val (.ref a2), .val (.int (fP s_)), .unset, .unset] [(.ref a2)])) _
    refine XS.iloadN X0.here hx rfl (hb hby own_d_method_3_5) rfl ?_
    show Steps p.tables e below (s₁.setTop (mkF m 6 #[.val (.int p0), .val (.int p1), .val (.ref a2), .val (.int (fP s_)), .unset, .unset] [(.int (fP s_)), (.ref a2)])) _
    refine X0.iaload hx (j := (fP s_)) (v := (.int (fP (fP s_).toNatClampNeg))) (by rw [e0]; exact Ar2.1) (State.isArrayOf_alike hZ.alike Ar2.2.1) Ar2.2.2 hin2 hat2 (g := (mkF m 6 #[.val (.int p0), .val (.int p1), .val (.ref a2), .val (.int (fP s_)), .unset, .unset] [(.int (fP s_)), (.ref a2)])) rfl rfl (hb hby own_d_method_3_6) _ ?_
    show Steps p.tables e below (s₁.setTop (mkF m 7 #[.val (.int p0), .val (.int p1), .val (.ref a2), .val (.int (fP s_)), .unset, .unset] [(.int (fP (fP s_).toNatClampNeg))])) _
    refine XS.istore X0.here hx rfl (hb hby own_d_method_3_7) rfl (l' := #[.val (.int p0), .val (.int p1), .val (.ref a2), .val (.int (fP s_)), .val (.int (fP (fP s_).toNatClampNeg)), .unset]) rfl ?_
    show Steps p.tables e below (s₁.setTop (mkF m 9 #[.val (.int p0), .val (.int p1), .val (.ref a2), .val (.int (fP s_)), .val (.int (fP (fP s_).toNatClampNeg)), .unset] [])) _
    refine XS.aloadN X0.here hx rfl (hb hby own_d_method_3_9) rfl rfl ?_
    show Steps p.tables e below (s₁.setTop (mkF m 10 #[.val (.int p0), .val (.int p1), .val (.ref a2), .val (.int (fP s_)), .val (.int (fP (fP s_).toNatClampNeg)), .unset] [(.ref a2)])) _
    refine XS.iload X0.here hx rfl (hb hby own_d_method_3_10) rfl ?_
    show Steps p.tables e below (s₁.setTop (mkF m 12 #[.val (.int p0), .val (.int p1), .val (.ref a2), .val (.int (fP s_)), .val (.int (fP (fP s_).toNatClampNeg)), .unset] [(.int (fP (fP s_).toNatClampNeg)), (.ref a2)])) _
    refine X0.iaload hx (j := (fP (fP s_).toNatClampNeg)) (v := (.int (fP (fP (fP s_).toNatClampNeg).toNatClampNeg))) (by rw [e0]; exact Ar3.1) (State.isArrayOf_alike hZ.alike Ar3.2.1) Ar3.2.2 hin3 hat3 (g := (mkF m 12 #[.val (.int p0), .val (.int p1), .val (.ref a2), .val (.int (fP s_)), .val (.int (fP (fP s_).toNatClampNeg)), .unset] [(.int (fP (fP s_).toNatClampNeg)), (.ref a2)])) rfl rfl (hb hby own_d_method_3_12) _ ?_
    show Steps p.tables e below (s₁.setTop (mkF m 13 #[.val (.int p0), .val (.int p1), .val (.ref a2), .val (.int (fP s_)), .val (.int (fP (fP s_).toNatClampNeg)), .unset] [(.int (fP (fP (fP s_).toNatClampNeg).toNatClampNeg))])) _
    refine XS.istore X0.here hx rfl (hb hby own_d_method_3_13) rfl (l' := #[.val (.int p0), .val (.int p1), .val (.ref a2), .val (.int (fP s_)), .val (.int (fP (fP s_).toNatClampNeg)), .val (.int (fP (fP (fP s_).toNatClampNeg).toNatClampNeg))]) rfl ?_
    show Steps p.tables e below (s₁.setTop (mkF m 15 #[.val (.int p0), .val (.int p1), .val (.ref a2), .val (.int (fP s_)), .val (.int (fP (fP s_).toNatClampNeg)), .val (.int (fP (fP (fP s_).toNatClampNeg).toNatClampNeg))] [])) _
    refine XS.iloadN X0.here hx rfl (hb hby own_d_method_3_15) rfl ?_
    show Steps p.tables e below (s₁.setTop (mkF m 16 #[.val (.int p0), .val (.int p1), .val (.ref a2), .val (.int (fP s_)), .val (.int (fP (fP s_).toNatClampNeg)), .val (.int (fP (fP (fP s_).toNatClampNeg).toNatClampNeg))] [(.int p0)])) _
    refine XS.iloadN X0.here hx rfl (hb hby own_d_method_3_16) rfl ?_
    exact kt
  by_cases hc5 : p0 = p1
  · have pre6 : ∀ t, Steps p.tables e below (s₁.setTop (mkF m 42 #[.val (.int p0), .val (.int p1), .val (.ref a2), .val (.int (fP s_)), .val (.int (fP (fP s_).toNatClampNeg)), .val (.int (fP (fP (fP s_).toNatClampNeg).toNatClampNeg))] [(.int (1 : Int32))])) t → Steps p.tables e below (s₁.setTop (entryFrame m #[(.int p0), (.int p1), (.ref a2)] 6)) t := by
      intro t kt
      refine pre4 t ?_
      show Steps p.tables e below (s₁.setTop (mkF m 17 #[.val (.int p0), .val (.int p1), .val (.ref a2), .val (.int (fP s_)), .val (.int (fP (fP s_).toNatClampNeg)), .val (.int (fP (fP (fP s_).toNatClampNeg).toNatClampNeg))] [(.int p1), (.int p0)])) _
      refine XS.icmpYes X0.here hx rfl (pc0 := 17) (pc' := 37) rfl (hb hby own_d_method_3_17) rfl (teq hc5).1 (by decide) (by decide) ?_
      show Steps p.tables e below (s₁.setTop (mkF m 37 #[.val (.int p0), .val (.int p1), .val (.ref a2), .val (.int (fP s_)), .val (.int (fP (fP s_).toNatClampNeg)), .val (.int (fP (fP (fP s_).toNatClampNeg).toNatClampNeg))] [])) _
      refine XS.iconst X0.here hx rfl (hb hby own_d_method_3_37) ?_
      show Steps p.tables e below (s₁.setTop (mkF m 38 #[.val (.int p0), .val (.int p1), .val (.ref a2), .val (.int (fP s_)), .val (.int (fP (fP s_).toNatClampNeg)), .val (.int (fP (fP (fP s_).toNatClampNeg).toNatClampNeg))] [(.int (1 : Int32))])) _
      refine XS.goto X0.here hx rfl (pc0 := 38) (pc' := 42) rfl (hb hby own_d_method_3_38) (by decide) (by decide) ?_
      exact kt
    obtain ⟨fs, hr, hrun, hended, hW, hsame⟩ := X0.leave (v := some (.int (1 : Int32))) (fun h => by rw [Bd.returns] at h; cases h)
    refine ⟨_, _, pre6 _ ?_, hrun, hended, _, _, rfl, ?_, ⟨_, rfl⟩, hW, hsame.mono (by decide) (by decide)⟩
    · show Steps p.tables e below (s₁.setTop (mkF m 42 #[.val (.int p0), .val (.int p1), .val (.ref a2), .val (.int (fP s_)), .val (.int (fP (fP s_).toNatClampNeg)), .val (.int (fP (fP (fP s_).toNatClampNeg).toNatClampNeg))] [(.int (1 : Int32))])) _
      exact retN X0 hx (t := .boolean) Bd.returns (by simp) (hb hby own_d_method_3_42) hr
    · show own_Q_anc Z p0 p1 a2 s_ fP fR h0 n0 (some (.int (1 : Int32))) s₁.heap _
      rw [e0]
      exact ⟨by simp [own_anc, ← hs, hc5], N0, rfl⟩
  · have pre7 : ∀ t, Steps p.tables e below (s₁.setTop (mkF m 22 #[.val (.int p0), .val (.int p1), .val (.ref a2), .val (.int (fP s_)), .val (.int (fP (fP s_).toNatClampNeg)), .val (.int (fP (fP (fP s_).toNatClampNeg).toNatClampNeg))] [(.int (fP s_)), (.int p0)])) t → Steps p.tables e below (s₁.setTop (entryFrame m #[(.int p0), (.int p1), (.ref a2)] 6)) t := by
      intro t kt
      refine pre4 t ?_
      show Steps p.tables e below (s₁.setTop (mkF m 17 #[.val (.int p0), .val (.int p1), .val (.ref a2), .val (.int (fP s_)), .val (.int (fP (fP s_).toNatClampNeg)), .val (.int (fP (fP (fP s_).toNatClampNeg).toNatClampNeg))] [(.int p1), (.int p0)])) _
      refine XS.icmpNo X0.here hx rfl (hb hby own_d_method_3_17) rfl (feq hc5).1 ?_
      show Steps p.tables e below (s₁.setTop (mkF m 20 #[.val (.int p0), .val (.int p1), .val (.ref a2), .val (.int (fP s_)), .val (.int (fP (fP s_).toNatClampNeg)), .val (.int (fP (fP (fP s_).toNatClampNeg).toNatClampNeg))] [])) _
      refine XS.iloadN X0.here hx rfl (hb hby own_d_method_3_20) rfl ?_
      show Steps p.tables e below (s₁.setTop (mkF m 21 #[.val (.int p0), .val (.int p1), .val (.ref a2), .val (.int (fP s_)), .val (.int (fP (fP s_).toNatClampNeg)), .val (.int (fP (fP (fP s_).toNatClampNeg).toNatClampNeg))] [(.int p0)])) _
      refine XS.iloadN X0.here hx rfl (hb hby own_d_method_3_21) rfl ?_
      exact kt
    by_cases hc8 : p0 = (fP s_)
    · have pre9 : ∀ t, Steps p.tables e below (s₁.setTop (mkF m 42 #[.val (.int p0), .val (.int p1), .val (.ref a2), .val (.int (fP s_)), .val (.int (fP (fP s_).toNatClampNeg)), .val (.int (fP (fP (fP s_).toNatClampNeg).toNatClampNeg))] [(.int (1 : Int32))])) t → Steps p.tables e below (s₁.setTop (entryFrame m #[(.int p0), (.int p1), (.ref a2)] 6)) t := by
        intro t kt
        refine pre7 t ?_
        show Steps p.tables e below (s₁.setTop (mkF m 22 #[.val (.int p0), .val (.int p1), .val (.ref a2), .val (.int (fP s_)), .val (.int (fP (fP s_).toNatClampNeg)), .val (.int (fP (fP (fP s_).toNatClampNeg).toNatClampNeg))] [(.int (fP s_)), (.int p0)])) _
        refine XS.icmpYes X0.here hx rfl (pc0 := 22) (pc' := 37) rfl (hb hby own_d_method_3_22) rfl (teq hc8).1 (by decide) (by decide) ?_
        show Steps p.tables e below (s₁.setTop (mkF m 37 #[.val (.int p0), .val (.int p1), .val (.ref a2), .val (.int (fP s_)), .val (.int (fP (fP s_).toNatClampNeg)), .val (.int (fP (fP (fP s_).toNatClampNeg).toNatClampNeg))] [])) _
        refine XS.iconst X0.here hx rfl (hb hby own_d_method_3_37) ?_
        show Steps p.tables e below (s₁.setTop (mkF m 38 #[.val (.int p0), .val (.int p1), .val (.ref a2), .val (.int (fP s_)), .val (.int (fP (fP s_).toNatClampNeg)), .val (.int (fP (fP (fP s_).toNatClampNeg).toNatClampNeg))] [(.int (1 : Int32))])) _
        refine XS.goto X0.here hx rfl (pc0 := 38) (pc' := 42) rfl (hb hby own_d_method_3_38) (by decide) (by decide) ?_
        exact kt
      obtain ⟨fs, hr, hrun, hended, hW, hsame⟩ := X0.leave (v := some (.int (1 : Int32))) (fun h => by rw [Bd.returns] at h; cases h)
      refine ⟨_, _, pre9 _ ?_, hrun, hended, _, _, rfl, ?_, ⟨_, rfl⟩, hW, hsame.mono (by decide) (by decide)⟩
      · show Steps p.tables e below (s₁.setTop (mkF m 42 #[.val (.int p0), .val (.int p1), .val (.ref a2), .val (.int (fP s_)), .val (.int (fP (fP s_).toNatClampNeg)), .val (.int (fP (fP (fP s_).toNatClampNeg).toNatClampNeg))] [(.int (1 : Int32))])) _
        exact retN X0 hx (t := .boolean) Bd.returns (by simp) (hb hby own_d_method_3_42) hr
      · show own_Q_anc Z p0 p1 a2 s_ fP fR h0 n0 (some (.int (1 : Int32))) s₁.heap _
        rw [e0]
        exact ⟨by simp [own_anc, ← hs, hc5, hc8], N0, rfl⟩
    · have pre10 : ∀ t, Steps p.tables e below (s₁.setTop (mkF m 28 #[.val (.int p0), .val (.int p1), .val (.ref a2), .val (.int (fP s_)), .val (.int (fP (fP s_).toNatClampNeg)), .val (.int (fP (fP (fP s_).toNatClampNeg).toNatClampNeg))] [(.int (fP (fP s_).toNatClampNeg)), (.int p0)])) t → Steps p.tables e below (s₁.setTop (entryFrame m #[(.int p0), (.int p1), (.ref a2)] 6)) t := by
        intro t kt
        refine pre7 t ?_
        show Steps p.tables e below (s₁.setTop (mkF m 22 #[.val (.int p0), .val (.int p1), .val (.ref a2), .val (.int (fP s_)), .val (.int (fP (fP s_).toNatClampNeg)), .val (.int (fP (fP (fP s_).toNatClampNeg).toNatClampNeg))] [(.int (fP s_)), (.int p0)])) _
        refine XS.icmpNo X0.here hx rfl (hb hby own_d_method_3_22) rfl (feq hc8).1 ?_
        show Steps p.tables e below (s₁.setTop (mkF m 25 #[.val (.int p0), .val (.int p1), .val (.ref a2), .val (.int (fP s_)), .val (.int (fP (fP s_).toNatClampNeg)), .val (.int (fP (fP (fP s_).toNatClampNeg).toNatClampNeg))] [])) _
        refine XS.iloadN X0.here hx rfl (hb hby own_d_method_3_25) rfl ?_
        show Steps p.tables e below (s₁.setTop (mkF m 26 #[.val (.int p0), .val (.int p1), .val (.ref a2), .val (.int (fP s_)), .val (.int (fP (fP s_).toNatClampNeg)), .val (.int (fP (fP (fP s_).toNatClampNeg).toNatClampNeg))] [(.int p0)])) _
        refine XS.iload X0.here hx rfl (hb hby own_d_method_3_26) rfl ?_
        exact kt
      by_cases hc11 : p0 = (fP (fP s_).toNatClampNeg)
      · have pre12 : ∀ t, Steps p.tables e below (s₁.setTop (mkF m 42 #[.val (.int p0), .val (.int p1), .val (.ref a2), .val (.int (fP s_)), .val (.int (fP (fP s_).toNatClampNeg)), .val (.int (fP (fP (fP s_).toNatClampNeg).toNatClampNeg))] [(.int (1 : Int32))])) t → Steps p.tables e below (s₁.setTop (entryFrame m #[(.int p0), (.int p1), (.ref a2)] 6)) t := by
          intro t kt
          refine pre10 t ?_
          show Steps p.tables e below (s₁.setTop (mkF m 28 #[.val (.int p0), .val (.int p1), .val (.ref a2), .val (.int (fP s_)), .val (.int (fP (fP s_).toNatClampNeg)), .val (.int (fP (fP (fP s_).toNatClampNeg).toNatClampNeg))] [(.int (fP (fP s_).toNatClampNeg)), (.int p0)])) _
          refine XS.icmpYes X0.here hx rfl (pc0 := 28) (pc' := 37) rfl (hb hby own_d_method_3_28) rfl (teq hc11).1 (by decide) (by decide) ?_
          show Steps p.tables e below (s₁.setTop (mkF m 37 #[.val (.int p0), .val (.int p1), .val (.ref a2), .val (.int (fP s_)), .val (.int (fP (fP s_).toNatClampNeg)), .val (.int (fP (fP (fP s_).toNatClampNeg).toNatClampNeg))] [])) _
          refine XS.iconst X0.here hx rfl (hb hby own_d_method_3_37) ?_
          show Steps p.tables e below (s₁.setTop (mkF m 38 #[.val (.int p0), .val (.int p1), .val (.ref a2), .val (.int (fP s_)), .val (.int (fP (fP s_).toNatClampNeg)), .val (.int (fP (fP (fP s_).toNatClampNeg).toNatClampNeg))] [(.int (1 : Int32))])) _
          refine XS.goto X0.here hx rfl (pc0 := 38) (pc' := 42) rfl (hb hby own_d_method_3_38) (by decide) (by decide) ?_
          exact kt
        obtain ⟨fs, hr, hrun, hended, hW, hsame⟩ := X0.leave (v := some (.int (1 : Int32))) (fun h => by rw [Bd.returns] at h; cases h)
        refine ⟨_, _, pre12 _ ?_, hrun, hended, _, _, rfl, ?_, ⟨_, rfl⟩, hW, hsame.mono (by decide) (by decide)⟩
        · show Steps p.tables e below (s₁.setTop (mkF m 42 #[.val (.int p0), .val (.int p1), .val (.ref a2), .val (.int (fP s_)), .val (.int (fP (fP s_).toNatClampNeg)), .val (.int (fP (fP (fP s_).toNatClampNeg).toNatClampNeg))] [(.int (1 : Int32))])) _
          exact retN X0 hx (t := .boolean) Bd.returns (by simp) (hb hby own_d_method_3_42) hr
        · show own_Q_anc Z p0 p1 a2 s_ fP fR h0 n0 (some (.int (1 : Int32))) s₁.heap _
          rw [e0]
          exact ⟨by simp [own_anc, ← hs, hc5, hc8, hc11], N0, rfl⟩
      · have pre13 : ∀ t, Steps p.tables e below (s₁.setTop (mkF m 34 #[.val (.int p0), .val (.int p1), .val (.ref a2), .val (.int (fP s_)), .val (.int (fP (fP s_).toNatClampNeg)), .val (.int (fP (fP (fP s_).toNatClampNeg).toNatClampNeg))] [(.int (fP (fP (fP s_).toNatClampNeg).toNatClampNeg)), (.int p0)])) t → Steps p.tables e below (s₁.setTop (entryFrame m #[(.int p0), (.int p1), (.ref a2)] 6)) t := by
          intro t kt
          refine pre10 t ?_
          show Steps p.tables e below (s₁.setTop (mkF m 28 #[.val (.int p0), .val (.int p1), .val (.ref a2), .val (.int (fP s_)), .val (.int (fP (fP s_).toNatClampNeg)), .val (.int (fP (fP (fP s_).toNatClampNeg).toNatClampNeg))] [(.int (fP (fP s_).toNatClampNeg)), (.int p0)])) _
          refine XS.icmpNo X0.here hx rfl (hb hby own_d_method_3_28) rfl (feq hc11).1 ?_
          show Steps p.tables e below (s₁.setTop (mkF m 31 #[.val (.int p0), .val (.int p1), .val (.ref a2), .val (.int (fP s_)), .val (.int (fP (fP s_).toNatClampNeg)), .val (.int (fP (fP (fP s_).toNatClampNeg).toNatClampNeg))] [])) _
          refine XS.iloadN X0.here hx rfl (hb hby own_d_method_3_31) rfl ?_
          show Steps p.tables e below (s₁.setTop (mkF m 32 #[.val (.int p0), .val (.int p1), .val (.ref a2), .val (.int (fP s_)), .val (.int (fP (fP s_).toNatClampNeg)), .val (.int (fP (fP (fP s_).toNatClampNeg).toNatClampNeg))] [(.int p0)])) _
          refine XS.iload X0.here hx rfl (hb hby own_d_method_3_32) rfl ?_
          exact kt
        by_cases hc14 : p0 = (fP (fP (fP s_).toNatClampNeg).toNatClampNeg)
        · have pre15 : ∀ t, Steps p.tables e below (s₁.setTop (mkF m 42 #[.val (.int p0), .val (.int p1), .val (.ref a2), .val (.int (fP s_)), .val (.int (fP (fP s_).toNatClampNeg)), .val (.int (fP (fP (fP s_).toNatClampNeg).toNatClampNeg))] [(.int (1 : Int32))])) t → Steps p.tables e below (s₁.setTop (entryFrame m #[(.int p0), (.int p1), (.ref a2)] 6)) t := by
            intro t kt
            refine pre13 t ?_
            show Steps p.tables e below (s₁.setTop (mkF m 34 #[.val (.int p0), .val (.int p1), .val (.ref a2), .val (.int (fP s_)), .val (.int (fP (fP s_).toNatClampNeg)), .val (.int (fP (fP (fP s_).toNatClampNeg).toNatClampNeg))] [(.int (fP (fP (fP s_).toNatClampNeg).toNatClampNeg)), (.int p0)])) _
            refine XS.icmpNo X0.here hx rfl (hb hby own_d_method_3_34) rfl (teq hc14).2 ?_
            show Steps p.tables e below (s₁.setTop (mkF m 37 #[.val (.int p0), .val (.int p1), .val (.ref a2), .val (.int (fP s_)), .val (.int (fP (fP s_).toNatClampNeg)), .val (.int (fP (fP (fP s_).toNatClampNeg).toNatClampNeg))] [])) _
            refine XS.iconst X0.here hx rfl (hb hby own_d_method_3_37) ?_
            show Steps p.tables e below (s₁.setTop (mkF m 38 #[.val (.int p0), .val (.int p1), .val (.ref a2), .val (.int (fP s_)), .val (.int (fP (fP s_).toNatClampNeg)), .val (.int (fP (fP (fP s_).toNatClampNeg).toNatClampNeg))] [(.int (1 : Int32))])) _
            refine XS.goto X0.here hx rfl (pc0 := 38) (pc' := 42) rfl (hb hby own_d_method_3_38) (by decide) (by decide) ?_
            exact kt
          obtain ⟨fs, hr, hrun, hended, hW, hsame⟩ := X0.leave (v := some (.int (1 : Int32))) (fun h => by rw [Bd.returns] at h; cases h)
          refine ⟨_, _, pre15 _ ?_, hrun, hended, _, _, rfl, ?_, ⟨_, rfl⟩, hW, hsame.mono (by decide) (by decide)⟩
          · show Steps p.tables e below (s₁.setTop (mkF m 42 #[.val (.int p0), .val (.int p1), .val (.ref a2), .val (.int (fP s_)), .val (.int (fP (fP s_).toNatClampNeg)), .val (.int (fP (fP (fP s_).toNatClampNeg).toNatClampNeg))] [(.int (1 : Int32))])) _
            exact retN X0 hx (t := .boolean) Bd.returns (by simp) (hb hby own_d_method_3_42) hr
          · show own_Q_anc Z p0 p1 a2 s_ fP fR h0 n0 (some (.int (1 : Int32))) s₁.heap _
            rw [e0]
            exact ⟨by simp [own_anc, ← hs, hc5, hc8, hc11, hc14], N0, rfl⟩
        · have pre16 : ∀ t, Steps p.tables e below (s₁.setTop (mkF m 42 #[.val (.int p0), .val (.int p1), .val (.ref a2), .val (.int (fP s_)), .val (.int (fP (fP s_).toNatClampNeg)), .val (.int (fP (fP (fP s_).toNatClampNeg).toNatClampNeg))] [(.int (0 : Int32))])) t → Steps p.tables e below (s₁.setTop (entryFrame m #[(.int p0), (.int p1), (.ref a2)] 6)) t := by
            intro t kt
            refine pre13 t ?_
            show Steps p.tables e below (s₁.setTop (mkF m 34 #[.val (.int p0), .val (.int p1), .val (.ref a2), .val (.int (fP s_)), .val (.int (fP (fP s_).toNatClampNeg)), .val (.int (fP (fP (fP s_).toNatClampNeg).toNatClampNeg))] [(.int (fP (fP (fP s_).toNatClampNeg).toNatClampNeg)), (.int p0)])) _
            refine XS.icmpYes X0.here hx rfl (pc0 := 34) (pc' := 41) rfl (hb hby own_d_method_3_34) rfl (feq hc14).2 (by decide) (by decide) ?_
            show Steps p.tables e below (s₁.setTop (mkF m 41 #[.val (.int p0), .val (.int p1), .val (.ref a2), .val (.int (fP s_)), .val (.int (fP (fP s_).toNatClampNeg)), .val (.int (fP (fP (fP s_).toNatClampNeg).toNatClampNeg))] [])) _
            refine XS.iconst X0.here hx rfl (hb hby own_d_method_3_41) ?_
            exact kt
          obtain ⟨fs, hr, hrun, hended, hW, hsame⟩ := X0.leave (v := some (.int (0 : Int32))) (fun h => by rw [Bd.returns] at h; cases h)
          refine ⟨_, _, pre16 _ ?_, hrun, hended, _, _, rfl, ?_, ⟨_, rfl⟩, hW, hsame.mono (by decide) (by decide)⟩
          · show Steps p.tables e below (s₁.setTop (mkF m 42 #[.val (.int p0), .val (.int p1), .val (.ref a2), .val (.int (fP s_)), .val (.int (fP (fP s_).toNatClampNeg)), .val (.int (fP (fP (fP s_).toNatClampNeg).toNatClampNeg))] [(.int (0 : Int32))])) _
            exact retN X0 hx (t := .boolean) Bd.returns (by simp) (hb hby own_d_method_3_42) hr
          · show own_Q_anc Z p0 p1 a2 s_ fP fR h0 n0 (some (.int (0 : Int32))) s₁.heap _
            rw [e0]
            exact ⟨by simp [own_anc, ← hs, hc5, hc8, hc11, hc14], N0, rfl⟩
theorem own_d_method_4_0 : decode method_4_code 0 = .ok (.iload_n 1, 1) := by decide +kernel
theorem own_d_method_4_1 : decode method_4_code 1 = .ok (.iload_n 2, 1) := by decide +kernel
theorem own_d_method_4_2 : decode method_4_code 2 = .ok (.aload 4, 2) := by decide +kernel
theorem own_d_method_4_4 : decode method_4_code 4 = .ok (.invokestatic 23, 3) := by decide +kernel
theorem own_d_method_4_7 : decode method_4_code 7 = .ok (.iload_n 1, 1) := by decide +kernel
theorem own_d_method_4_8 : decode method_4_code 8 = .ok (.iload_n 3, 1) := by decide +kernel
theorem own_d_method_4_9 : decode method_4_code 9 = .ok (.aload 4, 2) := by decide +kernel
theorem own_d_method_4_11 : decode method_4_code 11 = .ok (.invokestatic 23, 3) := by decide +kernel
theorem own_d_method_4_14 : decode method_4_code 14 = .ok (.if_icmp .eq 23, 3) := by decide +kernel
theorem own_d_method_4_17 : decode method_4_code 17 = .ok (.aload 5, 2) := by decide +kernel
theorem own_d_method_4_19 : decode method_4_code 19 = .ok (.iload_n 1, 1) := by decide +kernel
theorem own_d_method_4_20 : decode method_4_code 20 = .ok (.iaload, 1) := by decide +kernel
theorem own_d_method_4_21 : decode method_4_code 21 = .ok (.istore 6, 2) := by decide +kernel
theorem own_d_method_4_23 : decode method_4_code 23 = .ok (.iload_n 0, 1) := by decide +kernel
theorem own_d_method_4_24 : decode method_4_code 24 = .ok (.ifCond .ne 6, 3) := by decide +kernel
theorem own_d_method_4_27 : decode method_4_code 27 = .ok (.iload 6, 2) := by decide +kernel
theorem own_d_method_4_29 : decode method_4_code 29 = .ok (.ireturn, 1) := by decide +kernel
theorem own_d_method_4_30 : decode method_4_code 30 = .ok (.iload_n 0, 1) := by decide +kernel
theorem own_d_method_4_31 : decode method_4_code 31 = .ok (.iload 6, 2) := by decide +kernel
theorem own_d_method_4_33 : decode method_4_code 33 = .ok (.invokestatic 27, 3) := by decide +kernel
theorem own_d_method_4_36 : decode method_4_code 36 = .ok (.ireturn, 1) := by decide +kernel
theorem own_d_method_4_37 : decode method_4_code 37 = .ok (.iload_n 0, 1) := by decide +kernel
theorem own_d_method_4_38 : decode method_4_code 38 = .ok (.ireturn, 1) := by decide +kernel
theorem own_pd0 : parseMethodDescriptor "(II[I)Z" = some ⟨[.int, .int, (.array .int)], some .boolean⟩ := by decide +kernel
theorem own_pd1 : parseMethodDescriptor "(II)I" = some ⟨[.int, .int], some .int⟩ := by decide +kernel
theorem own_ef_con (m : MethodId) (p0 : Int32) (p1 : Int32) (p2 : Int32) (p3 : Int32) (a4 : Addr) (a5 : Addr) : entryFrame m #[(.int p0), (.int p1), (.int p2), (.int p3), (.ref a4), (.ref a5)] 7 = mkF m 0 #[.val (.int p0), .val (.int p1), .val (.int p2), .val (.int p3), .val (.ref a4), .val (.ref a5), .unset] [] := by first | (simp [entryFrame, mkF, argsToLocals, Value.category]; done) | rfl
def own_Q_con (Z : State) (p0 : Int32) (p1 : Int32) (p2 : Int32) (p3 : Int32) (a4 : Addr) (a5 : Addr) (c_ : Nat) (x_ : Nat) (y_ : Nat) (fP : Nat → Int32) (fR : Nat → Int32) (h0 : Heap) (n0 : Nat) (v : Option Value) (h : Heap) (L : List Loc) : Prop := v = some (.int (own_con fP fR p0 p1 c_ x_ y_)) ∧ Fr n0 L ∧ h = h0
set_option maxRecDepth 65536 in
set_option maxHeartbeats 40000000 in
theorem own_rm_con (l : Launch) (Z : State) (a0 : Array Value) (hw : ∀ d ∈ tables_1, d.before a0 Z = true) (ws : List Jvm.Cond) (p0 : Int32) (p1 : Int32) (p2 : Int32) (p3 : Int32) (a4 : Addr) (a5 : Addr) (c_ : Nat) (x_ : Nat) (y_ : Nat) (fP : Nat → Int32) (fR : Nat → Int32) (h0 : Heap) (n0 : Nat) (Z0 : n0 ≤ h0.size) (AP : own_A Z h0 a4 5 fP) (AR : own_A Z h0 a5 5 fR) (hc : p1 = Int32.ofNat c_) (hc5 : c_ < 5) (hxe : p2 = Int32.ofNat x_) (hx5 : x_ < 5) (hye : p3 = Int32.ofNat y_) (hy5 : y_ < 5) (hT : own_tree 5 fP fR) :
    MetFree l (⟨"com/example/unfold/unfold/reduction/SplittingSeparationPinLaw", "consider", "(IIII[I[I)I"⟩ : MethodName) (head1 (Jvm.Cond.code (⟨"com/example/unfold/unfold/reduction/SplittingSeparationPinLaw", "consider", "(IIII[I[I)I"⟩ : MethodName) method_4_code 7 (some .int) :: ws) ({ frames := 1, cells := 0, slots := 0, locals := 18 } : Room)) (fun a U => a = #[(.int p0), (.int p1), (.int p2), (.int p3), (.ref a4), (.ref a5)] ∧ Z.Warmed39 U.vm ∧ U.heap = h0) (fun _ _ _ _ _ => True) (fun _ U o U' => ∃ v L, o = .returned v ∧ own_Q_con Z p0 p1 p2 p3 a4 a5 c_ x_ y_ fP fR h0 n0 v U'.heap L ∧ FrameEnd U o U' L ({ frames := 1, cells := 0, slots := 0, locals := 18 } : Room).cells ({ frames := 1, cells := 0, slots := 0, locals := 18 } : Room).slots) := by
  refine MetFree.of_bodySF (plainFor_of_name own_pn1) hisR ?_
  intro p e s m args below meth c s₁ Bd hml0 hP hK
  obtain ⟨rfl, hZ, hh⟩ := hP
  have hx := Bd.exec
  have hby := Bd.bytes
  have hml : c.maxLocals = 7 := hml0
  have hown : s.vm.findClass "com/example/unfold/unfold/reduction/SplittingSeparationPinLaw" = some m.cls := findClass_of_methodNamed Bd.named
  have hnm := (name_of_methodNamed Bd.named Bd.method).1
  have X0 : Stand p l e ({ frames := 1, cells := 0, slots := 0, locals := 18 } : Room) s m #[(.int p0), (.int p1), (.int p2), (.int p3), (.ref a4), (.ref a5)] below meth c s₁ [] 0 0 := Stand.of_body Bd
  have e0 : s₁.heap = h0 := by rw [← hh, Bd.state]; rfl
  have N0 := Fr.nil n0
  have K0 : Keep h0 h0 [] := Keep.refl _ _
  have pre0 : ∀ t, Steps p.tables e below (s₁.setTop (mkF m 0 #[.val (.int p0), .val (.int p1), .val (.int p2), .val (.int p3), .val (.ref a4), .val (.ref a5), .unset] [])) t → Steps p.tables e below (s₁.setTop (entryFrame m #[(.int p0), (.int p1), (.int p2), (.int p3), (.ref a4), (.ref a5)] 7)) t := fun t k => castTop (own_ef_con m p0 p1 p2 p3 a4 a5) k
  have zs1 : n0 ≤ h0.size := Nat.le_trans Z0 K0.1
  obtain ⟨_, _, ⟨T2, L2, k2, n2⟩, -, X2, ⟨Lc2, hQ2, l2, y2, z2⟩, st2⟩ := Jvm.LawKit.callS X0 hx (y := (⟨"com/example/unfold/unfold/reduction/SplittingSeparationPinLaw", "isAnc", "(II[I)Z"⟩ : MethodName)) hown (mvT hZ (hw _ (List.mem_of_getElem? (i := 26) rfl))) (mvT hZ (hw _ (List.mem_of_getElem? (i := 27) rfl))) (mvT hZ (hw _ (List.mem_of_getElem? (i := 24) rfl))) (mvT hZ (hw _ (List.mem_of_getElem? (i := 28) rfl))) (by decide) (backOf (W := 0) (own_rm_anc l Z a0 hw [] p1 p2 a4 x_ fP fR h0 n0 zs1 AP hxe hx5 hT) hZ (hw _ (List.mem_of_getElem? (i := 28) rfl)) (hw _ (List.mem_of_getElem? (i := 24) rfl)) (by decide) (by decide)) (g := (mkF m 4 #[.val (.int p0), .val (.int p1), .val (.int p2), .val (.int p3), .val (.ref a4), .val (.ref a5), .unset] [(.ref a4), (.int p2), (.int p1)])) rfl (by rw [hml]; rfl) (argsL := [(.int p1), (.int p2), (.ref a4)]) (rest := []) (lenOf own_pd0 rfl) rfl (by show 2 * 0 + _ ≤ _; exact Nat.le_of_eq rfl) (hb hby own_d_method_4_4) (fun _ _ => ⟨rfl, e0, (by decide : 0 + 0 ≤ _), (by decide : 0 + 0 ≤ _)⟩)
  dsimp only [Pt.U, Pt.locs, Pt.cells, Pt.slots] at X2 l2 y2 z2 st2 hQ2
  subst l2 y2 z2
  obtain ⟨rfl, N3, eq3⟩ := hQ2
  have nf4 := Fr.app N0 N3
  have zs5 : n0 ≤ h0.size := Nat.le_trans Z0 K0.1
  obtain ⟨_, _, ⟨T6, L6, k6, n6⟩, -, X6, ⟨Lc6, hQ6, l6, y6, z6⟩, st6⟩ := Jvm.LawKit.callS X2 hx (y := (⟨"com/example/unfold/unfold/reduction/SplittingSeparationPinLaw", "isAnc", "(II[I)Z"⟩ : MethodName)) hown (mvT hZ (hw _ (List.mem_of_getElem? (i := 26) rfl))) (mvT hZ (hw _ (List.mem_of_getElem? (i := 27) rfl))) (mvT hZ (hw _ (List.mem_of_getElem? (i := 24) rfl))) (mvT hZ (hw _ (List.mem_of_getElem? (i := 28) rfl))) (by decide) (backOf (W := 1) (own_rm_anc l Z a0 hw [] p1 p3 a4 y_ fP fR h0 n0 zs5 AP hye hy5 hT) hZ (hw _ (List.mem_of_getElem? (i := 28) rfl)) (hw _ (List.mem_of_getElem? (i := 24) rfl)) (by decide) (by decide)) (g := (mkF m 11 #[.val (.int p0), .val (.int p1), .val (.int p2), .val (.int p3), .val (.ref a4), .val (.ref a5), .unset] [(.ref a4), (.int p3), (.int p1), (.int (own_anc fP p1 x_))])) rfl (by rw [hml]; rfl) (argsL := [(.int p1), (.int p3), (.ref a4)]) (rest := [(.int (own_anc fP p1 x_))]) (lenOf own_pd0 rfl) rfl (by show 2 * 0 + _ ≤ _; exact Nat.le_of_eq rfl) (hb hby own_d_method_4_11) (fun _ _ => ⟨rfl, eq3, (by decide : 0 + 0 ≤ _), (by decide : 0 + 0 ≤ _)⟩)
  dsimp only [Pt.U, Pt.locs, Pt.cells, Pt.slots] at X6 l6 y6 z6 st6 hQ6
  subst l6 y6 z6
  obtain ⟨rfl, N7, eq7⟩ := hQ6
  have nf8 := Fr.app nf4 N7
  have pre9 : ∀ t, Steps p.tables e below (T6.setTop (mkF m 14 #[.val (.int p0), .val (.int p1), .val (.int p2), .val (.int p3), .val (.ref a4), .val (.ref a5), .unset] [(.int (own_anc fP p1 y_)), (.int (own_anc fP p1 x_))])) t → Steps p.tables e below (s₁.setTop (entryFrame m #[(.int p0), (.int p1), (.int p2), (.int p3), (.ref a4), (.ref a5)] 7)) t := by
    intro t kt
    refine pre0 t ?_
    show Steps p.tables e below (s₁.setTop (mkF m 0 #[.val (.int p0), .val (.int p1), .val (.int p2), .val (.int p3), .val (.ref a4), .val (.ref a5), .unset] [])) _
    refine XS.iloadN X0.here hx rfl (hb hby own_d_method_4_0) rfl ?_
    show Steps p.tables e below (s₁.setTop (mkF m 1 #[.val (.int p0), .val (.int p1), .val (.int p2), .val (.int p3), .val (.ref a4), .val (.ref a5), .unset] [(.int p1)])) _
    refine XS.iloadN X0.here hx rfl (hb hby own_d_method_4_1) rfl ?_
    show Steps p.tables e below (s₁.setTop (mkF m 2 #[.val (.int p0), .val (.int p1), .val (.int p2), .val (.int p3), .val (.ref a4), .val (.ref a5), .unset] [(.int p2), (.int p1)])) _
    refine XS.aload X0.here hx rfl (hb hby own_d_method_4_2) rfl rfl ?_
    show Steps p.tables e below (s₁.setTop (mkF m 4 #[.val (.int p0), .val (.int p1), .val (.int p2), .val (.int p3), .val (.ref a4), .val (.ref a5), .unset] [(.ref a4), (.int p2), (.int p1)])) _
    refine st2 _ ?_
    show Steps p.tables e below (T2.setTop (mkF m 7 #[.val (.int p0), .val (.int p1), .val (.int p2), .val (.int p3), .val (.ref a4), .val (.ref a5), .unset] [(.int (own_anc fP p1 x_))])) _
    refine XS.iloadN X2.here hx rfl (hb hby own_d_method_4_7) rfl ?_
    show Steps p.tables e below (T2.setTop (mkF m 8 #[.val (.int p0), .val (.int p1), .val (.int p2), .val (.int p3), .val (.ref a4), .val (.ref a5), .unset] [(.int p1), (.int (own_anc fP p1 x_))])) _
    refine XS.iloadN X2.here hx rfl (hb hby own_d_method_4_8) rfl ?_
    show Steps p.tables e below (T2.setTop (mkF m 9 #[.val (.int p0), .val (.int p1), .val (.int p2), .val (.int p3), .val (.ref a4), .val (.ref a5), .unset] [(.int p3), (.int p1), (.int (own_anc fP p1 x_))])) _
    refine XS.aload X2.here hx rfl (hb hby own_d_method_4_9) rfl rfl ?_
    show Steps p.tables e below (T2.setTop (mkF m 11 #[.val (.int p0), .val (.int p1), .val (.int p2), .val (.int p3), .val (.ref a4), .val (.ref a5), .unset] [(.ref a4), (.int p3), (.int p1), (.int (own_anc fP p1 x_))])) _
    refine st6 _ ?_
    exact kt
  by_cases hc10 : (own_anc fP p1 x_) = (own_anc fP p1 y_)
  · have pre11 : ∀ t, Steps p.tables e below (T6.setTop (mkF m 38 #[.val (.int p0), .val (.int p1), .val (.int p2), .val (.int p3), .val (.ref a4), .val (.ref a5), .unset] [(.int p0)])) t → Steps p.tables e below (s₁.setTop (entryFrame m #[(.int p0), (.int p1), (.int p2), (.int p3), (.ref a4), (.ref a5)] 7)) t := by
      intro t kt
      refine pre9 t ?_
      show Steps p.tables e below (T6.setTop (mkF m 14 #[.val (.int p0), .val (.int p1), .val (.int p2), .val (.int p3), .val (.ref a4), .val (.ref a5), .unset] [(.int (own_anc fP p1 y_)), (.int (own_anc fP p1 x_))])) _
      refine XS.icmpYes X6.here hx rfl (pc0 := 14) (pc' := 37) rfl (hb hby own_d_method_4_14) rfl (teq hc10).1 (by decide) (by decide) ?_
      show Steps p.tables e below (T6.setTop (mkF m 37 #[.val (.int p0), .val (.int p1), .val (.int p2), .val (.int p3), .val (.ref a4), .val (.ref a5), .unset] [])) _
      refine XS.iloadN X6.here hx rfl (hb hby own_d_method_4_37) rfl ?_
      exact kt
    obtain ⟨fs, hr, hrun, hended, hW, hsame⟩ := X6.leave (v := some (.int p0)) (fun h => by rw [Bd.returns] at h; cases h)
    refine ⟨_, _, pre11 _ ?_, hrun, hended, _, _, rfl, ?_, ⟨_, rfl⟩, hW, hsame.mono (by decide) (by decide)⟩
    · show Steps p.tables e below (T6.setTop (mkF m 38 #[.val (.int p0), .val (.int p1), .val (.int p2), .val (.int p3), .val (.ref a4), .val (.ref a5), .unset] [(.int p0)])) _
      exact retI X6 hx Bd.returns (hb hby own_d_method_4_38) hr
    · show own_Q_con Z p0 p1 p2 p3 a4 a5 c_ x_ y_ fP fR h0 n0 (some (.int p0)) T6.heap _
      rw [eq7]
      exact ⟨by simp [own_con, hc10], nf8, rfl⟩
  · obtain ⟨cl12, Ar12, S12, H12⟩ := id AR
    have hin12 : ¬ (p1 < 0 ∨ cl12.slots.size ≤ (p1).toNatClampNeg) := own_inb S12 (by rw [hc]; exact own_of0 (by omega)) (by rw [hc, own_ofN (by omega)]; exact hc5)
    have hat12 : cl12.slots[(p1).toNatClampNeg]? = some (.int (fR c_)) := (by rw [hc, own_ofN (by omega)]; exact H12 c_ hc5)
    have pre13 : ∀ t, Steps p.tables e below (T6.setTop (mkF m 24 #[.val (.int p0), .val (.int p1), .val (.int p2), .val (.int p3), .val (.ref a4), .val (.ref a5), .val (.int (fR c_))] [(.int p0)])) t → Steps p.tables e below (s₁.setTop (entryFrame m #[(.int p0), (.int p1), (.int p2), (.int p3), (.ref a4), (.ref a5)] 7)) t := by
      intro t kt
      refine pre9 t ?_
      show Steps p.tables e below (T6.setTop (mkF m 14 #[.val (.int p0), .val (.int p1), .val (.int p2), .val (.int p3), .val (.ref a4), .val (.ref a5), .unset] [(.int (own_anc fP p1 y_)), (.int (own_anc fP p1 x_))])) _
      refine XS.icmpNo X6.here hx rfl (hb hby own_d_method_4_14) rfl (feq hc10).1 ?_
      show Steps p.tables e below (T6.setTop (mkF m 17 #[.val (.int p0), .val (.int p1), .val (.int p2), .val (.int p3), .val (.ref a4), .val (.ref a5), .unset] [])) _
      refine XS.aload X6.here hx rfl (hb hby own_d_method_4_17) rfl rfl ?_
      show Steps p.tables e below (T6.setTop (mkF m 19 #[.val (.int p0), .val (.int p1), .val (.int p2), .val (.int p3), .val (.ref a4), .val (.ref a5), .unset] [(.ref a5)])) _
      refine XS.iloadN X6.here hx rfl (hb hby own_d_method_4_19) rfl ?_
      show Steps p.tables e below (T6.setTop (mkF m 20 #[.val (.int p0), .val (.int p1), .val (.int p2), .val (.int p3), .val (.ref a4), .val (.ref a5), .unset] [(.int p1), (.ref a5)])) _
      refine X6.iaload hx (j := p1) (v := (.int (fR c_))) (by rw [eq7]; exact Ar12.1) (State.isArrayOf_alike hZ.alike Ar12.2.1) Ar12.2.2 hin12 hat12 (g := (mkF m 20 #[.val (.int p0), .val (.int p1), .val (.int p2), .val (.int p3), .val (.ref a4), .val (.ref a5), .unset] [(.int p1), (.ref a5)])) rfl rfl (hb hby own_d_method_4_20) _ ?_
      show Steps p.tables e below (T6.setTop (mkF m 21 #[.val (.int p0), .val (.int p1), .val (.int p2), .val (.int p3), .val (.ref a4), .val (.ref a5), .unset] [(.int (fR c_))])) _
      refine XS.istore X6.here hx rfl (hb hby own_d_method_4_21) rfl (l' := #[.val (.int p0), .val (.int p1), .val (.int p2), .val (.int p3), .val (.ref a4), .val (.ref a5), .val (.int (fR c_))]) rfl ?_
      show Steps p.tables e below (T6.setTop (mkF m 23 #[.val (.int p0), .val (.int p1), .val (.int p2), .val (.int p3), .val (.ref a4), .val (.ref a5), .val (.int (fR c_))] [])) _
      refine XS.iloadN X6.here hx rfl (hb hby own_d_method_4_23) rfl ?_
      exact kt
    by_cases hc14 : p0 = (0 : Int32)
    · have pre15 : ∀ t, Steps p.tables e below (T6.setTop (mkF m 29 #[.val (.int p0), .val (.int p1), .val (.int p2), .val (.int p3), .val (.ref a4), .val (.ref a5), .val (.int (fR c_))] [(.int (fR c_))])) t → Steps p.tables e below (s₁.setTop (entryFrame m #[(.int p0), (.int p1), (.int p2), (.int p3), (.ref a4), (.ref a5)] 7)) t := by
        intro t kt
        refine pre13 t ?_
        show Steps p.tables e below (T6.setTop (mkF m 24 #[.val (.int p0), .val (.int p1), .val (.int p2), .val (.int p3), .val (.ref a4), .val (.ref a5), .val (.int (fR c_))] [(.int p0)])) _
        refine XS.ifNo X6.here hx rfl (hb hby own_d_method_4_24) rfl ((if0 _ _).trans (teq hc14).2) ?_
        show Steps p.tables e below (T6.setTop (mkF m 27 #[.val (.int p0), .val (.int p1), .val (.int p2), .val (.int p3), .val (.ref a4), .val (.ref a5), .val (.int (fR c_))] [])) _
        refine XS.iload X6.here hx rfl (hb hby own_d_method_4_27) rfl ?_
        exact kt
      obtain ⟨fs, hr, hrun, hended, hW, hsame⟩ := X6.leave (v := some (.int (fR c_))) (fun h => by rw [Bd.returns] at h; cases h)
      refine ⟨_, _, pre15 _ ?_, hrun, hended, _, _, rfl, ?_, ⟨_, rfl⟩, hW, hsame.mono (by decide) (by decide)⟩
      · show Steps p.tables e below (T6.setTop (mkF m 29 #[.val (.int p0), .val (.int p1), .val (.int p2), .val (.int p3), .val (.ref a4), .val (.ref a5), .val (.int (fR c_))] [(.int (fR c_))])) _
        exact retI X6 hx Bd.returns (hb hby own_d_method_4_29) hr
      · show own_Q_con Z p0 p1 p2 p3 a4 a5 c_ x_ y_ fP fR h0 n0 (some (.int (fR c_))) T6.heap _
        rw [eq7]
        exact ⟨by simp [own_con, hc10, hc14], nf8, rfl⟩
    · have zs16 : n0 ≤ h0.size := Nat.le_trans Z0 K0.1
      obtain ⟨_, _, ⟨T17, L17, k17, n17⟩, -, X17, ⟨Lc17, hQ17, l17, y17, z17⟩, st17⟩ := Jvm.LawKit.callS X6 hx (y := (⟨"java/lang/Math", "min", "(II)I"⟩ : MethodName)) hown (mvT hZ (hw _ (List.mem_of_getElem? (i := 29) rfl))) (mvT hZ (hw _ (List.mem_of_getElem? (i := 30) rfl))) (mvT hZ (hw _ (List.mem_of_getElem? (i := 31) rfl))) (mvT hZ (hw _ (List.mem_of_getElem? (i := 32) rfl))) (by decide) (backOf (W := 0) (own_rm_min l Z a0 hw [] p0 (fR c_) h0 n0 zs16 ) hZ (hw _ (List.mem_of_getElem? (i := 32) rfl)) (hw _ (List.mem_of_getElem? (i := 31) rfl)) (by decide) (by decide)) (g := (mkF m 33 #[.val (.int p0), .val (.int p1), .val (.int p2), .val (.int p3), .val (.ref a4), .val (.ref a5), .val (.int (fR c_))] [(.int (fR c_)), (.int p0)])) rfl (by rw [hml]; rfl) (argsL := [(.int p0), (.int (fR c_))]) (rest := []) (lenOf own_pd1 rfl) rfl (by show 2 * 0 + _ ≤ _; exact Nat.le_of_eq rfl) (hb hby own_d_method_4_33) (fun _ _ => ⟨rfl, eq7, (by decide : 0 + 0 ≤ _), (by decide : 0 + 0 ≤ _)⟩)
      dsimp only [Pt.U, Pt.locs, Pt.cells, Pt.slots] at X17 l17 y17 z17 st17 hQ17
      subst l17 y17 z17
      obtain ⟨rfl, N18, eq18⟩ := hQ17
      have nf19 := Fr.app nf8 N18
      have pre20 : ∀ t, Steps p.tables e below (T17.setTop (mkF m 36 #[.val (.int p0), .val (.int p1), .val (.int p2), .val (.int p3), .val (.ref a4), .val (.ref a5), .val (.int (fR c_))] [(.int (own_min p0 (fR c_)))])) t → Steps p.tables e below (s₁.setTop (entryFrame m #[(.int p0), (.int p1), (.int p2), (.int p3), (.ref a4), (.ref a5)] 7)) t := by
        intro t kt
        refine pre13 t ?_
        show Steps p.tables e below (T6.setTop (mkF m 24 #[.val (.int p0), .val (.int p1), .val (.int p2), .val (.int p3), .val (.ref a4), .val (.ref a5), .val (.int (fR c_))] [(.int p0)])) _
        refine XS.ifYes X6.here hx rfl (pc0 := 24) (pc' := 30) rfl (hb hby own_d_method_4_24) rfl ((if0 _ _).trans (feq hc14).2) (by decide) (by decide) ?_
        show Steps p.tables e below (T6.setTop (mkF m 30 #[.val (.int p0), .val (.int p1), .val (.int p2), .val (.int p3), .val (.ref a4), .val (.ref a5), .val (.int (fR c_))] [])) _
        refine XS.iloadN X6.here hx rfl (hb hby own_d_method_4_30) rfl ?_
        show Steps p.tables e below (T6.setTop (mkF m 31 #[.val (.int p0), .val (.int p1), .val (.int p2), .val (.int p3), .val (.ref a4), .val (.ref a5), .val (.int (fR c_))] [(.int p0)])) _
        refine XS.iload X6.here hx rfl (hb hby own_d_method_4_31) rfl ?_
        show Steps p.tables e below (T6.setTop (mkF m 33 #[.val (.int p0), .val (.int p1), .val (.int p2), .val (.int p3), .val (.ref a4), .val (.ref a5), .val (.int (fR c_))] [(.int (fR c_)), (.int p0)])) _
        refine st17 _ ?_
        exact kt
      obtain ⟨fs, hr, hrun, hended, hW, hsame⟩ := X17.leave (v := some (.int (own_min p0 (fR c_)))) (fun h => by rw [Bd.returns] at h; cases h)
      refine ⟨_, _, pre20 _ ?_, hrun, hended, _, _, rfl, ?_, ⟨_, rfl⟩, hW, hsame.mono (by decide) (by decide)⟩
      · show Steps p.tables e below (T17.setTop (mkF m 36 #[.val (.int p0), .val (.int p1), .val (.int p2), .val (.int p3), .val (.ref a4), .val (.ref a5), .val (.int (fR c_))] [(.int (own_min p0 (fR c_)))])) _
        exact retI X17 hx Bd.returns (hb hby own_d_method_4_36) hr
      · show own_Q_con Z p0 p1 p2 p3 a4 a5 c_ x_ y_ fP fR h0 n0 (some (.int (own_min p0 (fR c_)))) T17.heap _
        rw [eq18]
        exact ⟨by simp [own_con, hc10, hc14], nf19, rfl⟩
theorem own_d_prog_132_method_3_0 : decode prog_132_method_3_code 0 = .ok (.aload_n 0, 1) := by decide +kernel
theorem own_d_prog_132_method_3_1 : decode prog_132_method_3_code 1 = .ok (.getfield 7, 3) := by decide +kernel
theorem own_d_prog_132_method_3_4 : decode prog_132_method_3_code 4 = .ok (.iload_n 1, 1) := by decide +kernel
theorem own_d_prog_132_method_3_5 : decode prog_132_method_3_code 5 = .ok (.iaload, 1) := by decide +kernel
theorem own_d_prog_132_method_3_6 : decode prog_132_method_3_code 6 = .ok (.istore_n 3, 1) := by decide +kernel
theorem own_d_prog_132_method_3_7 : decode prog_132_method_3_code 7 = .ok (.aload_n 0, 1) := by decide +kernel
theorem own_d_prog_132_method_3_8 : decode prog_132_method_3_code 8 = .ok (.getfield 7, 3) := by decide +kernel
theorem own_d_prog_132_method_3_11 : decode prog_132_method_3_code 11 = .ok (.iload_n 2, 1) := by decide +kernel
theorem own_d_prog_132_method_3_12 : decode prog_132_method_3_code 12 = .ok (.iaload, 1) := by decide +kernel
theorem own_d_prog_132_method_3_13 : decode prog_132_method_3_code 13 = .ok (.istore 4, 2) := by decide +kernel
theorem own_d_prog_132_method_3_15 : decode prog_132_method_3_code 15 = .ok (.iconst 0, 1) := by decide +kernel
theorem own_d_prog_132_method_3_16 : decode prog_132_method_3_code 16 = .ok (.istore 5, 2) := by decide +kernel
theorem own_d_prog_132_method_3_18 : decode prog_132_method_3_code 18 = .ok (.iload_n 3, 1) := by decide +kernel
theorem own_d_prog_132_method_3_19 : decode prog_132_method_3_code 19 = .ok (.iload 4, 2) := by decide +kernel
theorem own_d_prog_132_method_3_21 : decode prog_132_method_3_code 21 = .ok (.if_icmp .eq 58, 3) := by decide +kernel
theorem own_d_prog_132_method_3_24 : decode prog_132_method_3_code 24 = .ok (.aload_n 0, 1) := by decide +kernel
theorem own_d_prog_132_method_3_25 : decode prog_132_method_3_code 25 = .ok (.getfield 16, 3) := by decide +kernel
theorem own_d_prog_132_method_3_28 : decode prog_132_method_3_code 28 = .ok (.iload_n 3, 1) := by decide +kernel
theorem own_d_prog_132_method_3_29 : decode prog_132_method_3_code 29 = .ok (.iaload, 1) := by decide +kernel
theorem own_d_prog_132_method_3_30 : decode prog_132_method_3_code 30 = .ok (.aload_n 0, 1) := by decide +kernel
theorem own_d_prog_132_method_3_31 : decode prog_132_method_3_code 31 = .ok (.getfield 16, 3) := by decide +kernel
theorem own_d_prog_132_method_3_34 : decode prog_132_method_3_code 34 = .ok (.iload 4, 2) := by decide +kernel
theorem own_d_prog_132_method_3_36 : decode prog_132_method_3_code 36 = .ok (.iaload, 1) := by decide +kernel
theorem own_d_prog_132_method_3_37 : decode prog_132_method_3_code 37 = .ok (.if_icmp .lt 21, 3) := by decide +kernel
theorem own_d_prog_132_method_3_40 : decode prog_132_method_3_code 40 = .ok (.aload_n 0, 1) := by decide +kernel
theorem own_d_prog_132_method_3_41 : decode prog_132_method_3_code 41 = .ok (.getfield 16, 3) := by decide +kernel
theorem own_d_prog_132_method_3_44 : decode prog_132_method_3_code 44 = .ok (.iload_n 3, 1) := by decide +kernel
theorem own_d_prog_132_method_3_45 : decode prog_132_method_3_code 45 = .ok (.iaload, 1) := by decide +kernel
theorem own_d_prog_132_method_3_46 : decode prog_132_method_3_code 46 = .ok (.istore 5, 2) := by decide +kernel
theorem own_d_prog_132_method_3_48 : decode prog_132_method_3_code 48 = .ok (.aload_n 0, 1) := by decide +kernel
theorem own_d_prog_132_method_3_49 : decode prog_132_method_3_code 49 = .ok (.getfield 13, 3) := by decide +kernel
theorem own_d_prog_132_method_3_52 : decode prog_132_method_3_code 52 = .ok (.iload_n 3, 1) := by decide +kernel
theorem own_d_prog_132_method_3_53 : decode prog_132_method_3_code 53 = .ok (.iaload, 1) := by decide +kernel
theorem own_d_prog_132_method_3_54 : decode prog_132_method_3_code 54 = .ok (.istore_n 3, 1) := by decide +kernel
theorem own_d_prog_132_method_3_55 : decode prog_132_method_3_code 55 = .ok (.goto (-37), 3) := by decide +kernel
theorem own_d_prog_132_method_3_58 : decode prog_132_method_3_code 58 = .ok (.aload_n 0, 1) := by decide +kernel
theorem own_d_prog_132_method_3_59 : decode prog_132_method_3_code 59 = .ok (.getfield 16, 3) := by decide +kernel
theorem own_d_prog_132_method_3_62 : decode prog_132_method_3_code 62 = .ok (.iload 4, 2) := by decide +kernel
theorem own_d_prog_132_method_3_64 : decode prog_132_method_3_code 64 = .ok (.iaload, 1) := by decide +kernel
theorem own_d_prog_132_method_3_65 : decode prog_132_method_3_code 65 = .ok (.istore 5, 2) := by decide +kernel
theorem own_d_prog_132_method_3_67 : decode prog_132_method_3_code 67 = .ok (.aload_n 0, 1) := by decide +kernel
theorem own_d_prog_132_method_3_68 : decode prog_132_method_3_code 68 = .ok (.getfield 13, 3) := by decide +kernel
theorem own_d_prog_132_method_3_71 : decode prog_132_method_3_code 71 = .ok (.iload 4, 2) := by decide +kernel
theorem own_d_prog_132_method_3_73 : decode prog_132_method_3_code 73 = .ok (.iaload, 1) := by decide +kernel
theorem own_d_prog_132_method_3_74 : decode prog_132_method_3_code 74 = .ok (.istore 4, 2) := by decide +kernel
theorem own_d_prog_132_method_3_76 : decode prog_132_method_3_code 76 = .ok (.goto (-58), 3) := by decide +kernel
theorem own_d_prog_132_method_3_79 : decode prog_132_method_3_code 79 = .ok (.iload 5, 2) := by decide +kernel
theorem own_d_prog_132_method_3_81 : decode prog_132_method_3_code 81 = .ok (.ireturn, 1) := by decide +kernel
theorem own_ef_sep (m : MethodId) (a1 : Addr) : entryFrame m #[(.ref a1), (.int (0 : Int32)), (.int (1 : Int32))] 6 = mkF m 0 #[.val (.ref a1), .val (.int (0 : Int32)), .val (.int (1 : Int32)), .unset, .unset, .unset] [] := by first | (simp [entryFrame, mkF, argsToLocals, Value.category]; done) | rfl
def own_Q_sep (Z : State) (a1 : Addr) (bB : Addr) (bP : Addr) (bR : Addr) (fB : Nat → Int32) (fP : Nat → Int32) (fR : Nat → Int32) (x_ : Nat) (y_ : Nat) (h0 : Heap) (n0 : Nat) (v : Option Value) (h : Heap) (L : List Loc) : Prop := v = some (.int (own_sep fP fR 9 x_ y_ 0)) ∧ Fr n0 L ∧ h = h0
set_option maxRecDepth 65536 in
set_option maxHeartbeats 40000000 in
theorem own_rm_sep (l : Launch) (Z : State) (a0 : Array Value) (hw : ∀ d ∈ tables_1, d.before a0 Z = true) (ws : List Jvm.Cond) (a1 : Addr) (bB : Addr) (bP : Addr) (bR : Addr) (fB : Nat → Int32) (fP : Nat → Int32) (fR : Nat → Int32) (x_ : Nat) (y_ : Nat) (h0 : Heap) (n0 : Nat) (Z0 : n0 ≤ h0.size) (F1 : Fld Z h0 a1 "com/example/unfold/unfold/reduction/Splitting" "blocks" "[I" (.ref bB)) (F2 : Fld Z h0 a1 "com/example/unfold/unfold/reduction/Splitting" "parents" "[I" (.ref bP)) (F3 : Fld Z h0 a1 "com/example/unfold/unfold/reduction/Splitting" "rounds" "[I" (.ref bR)) (AB : own_A Z h0 bB 2 fB) (AP : own_A Z h0 bP 5 fP) (AR : own_A Z h0 bR 5 fR) (hxe : fB 0 = Int32.ofNat x_) (hx5 : x_ < 5) (hye : fB 1 = Int32.ofNat y_) (hy5 : y_ < 5) (hT : own_tree 5 fP fR) :
    MetFree l (⟨"com/example/unfold/unfold/reduction/Splitting", "separation", "(II)I"⟩ : MethodName) (head1 (Jvm.Cond.code (⟨"com/example/unfold/unfold/reduction/Splitting", "separation", "(II)I"⟩ : MethodName) prog_132_method_3_code 6 (some .int) :: ws) ({ frames := 0, cells := 0, slots := 0, locals := 0 } : Room)) (fun a U => a = #[(.ref a1), (.int (0 : Int32)), (.int (1 : Int32))] ∧ Z.Warmed39 U.vm ∧ U.heap = h0) (fun _ _ _ _ _ => True) (fun _ U o U' => ∃ v L, o = .returned v ∧ own_Q_sep Z a1 bB bP bR fB fP fR x_ y_ h0 n0 v U'.heap L ∧ FrameEnd U o U' L ({ frames := 0, cells := 0, slots := 0, locals := 0 } : Room).cells ({ frames := 0, cells := 0, slots := 0, locals := 0 } : Room).slots) := by
  refine MetFree.of_bodySF (plainFor_of_name own_pn0) hisR ?_
  intro p e s m args below meth c s₁ Bd hml0 hP hK
  obtain ⟨rfl, hZ, hh⟩ := hP
  have hx := Bd.exec
  have hby := Bd.bytes
  have hml : c.maxLocals = 6 := hml0
  have hown : s.vm.findClass "com/example/unfold/unfold/reduction/Splitting" = some m.cls := findClass_of_methodNamed Bd.named
  have hnm := (name_of_methodNamed Bd.named Bd.method).1
  have X0 : Stand p l e ({ frames := 0, cells := 0, slots := 0, locals := 0 } : Room) s m #[(.ref a1), (.int (0 : Int32)), (.int (1 : Int32))] below meth c s₁ [] 0 0 := Stand.of_body Bd
  have e0 : s₁.heap = h0 := by rw [← hh, Bd.state]; rfl
  have N0 := Fr.nil n0
  have K0 : Keep h0 h0 [] := Keep.refl _ _
  have pre0 : ∀ t, Steps p.tables e below (s₁.setTop (mkF m 0 #[.val (.ref a1), .val (.int (0 : Int32)), .val (.int (1 : Int32)), .unset, .unset, .unset] [])) t → Steps p.tables e below (s₁.setTop (entryFrame m #[(.ref a1), (.int (0 : Int32)), (.int (1 : Int32))] 6)) t := fun t k => castTop (own_ef_sep m a1) k
  obtain ⟨T1, X1, e1, st1⟩ := getF X0 hx hZ hown (host := "") (Or.inl (hw _ (List.mem_of_getElem? (i := 11) rfl))) Via.refl e0 F1 (g := (mkF m 1 #[.val (.ref a1), .val (.int (0 : Int32)), .val (.int (1 : Int32)), .unset, .unset, .unset] [(.ref a1)])) rfl rfl (hb hby own_d_prog_132_method_3_1)
  obtain ⟨cl2, Ar2, S2, H2⟩ := id AB
  have hin2 : ¬ ((0 : Int32) < 0 ∨ cl2.slots.size ≤ ((0 : Int32)).toNatClampNeg) := own_inb S2 (by decide) (by decide)
  have hat2 : cl2.slots[((0 : Int32)).toNatClampNeg]? = some (.int (Int32.ofNat x_)) := (by rw [← hxe]; exact H2 0 (by decide))
  obtain ⟨T3, X3, e3, st3⟩ := getF X1 hx hZ hown (host := "") (Or.inl (hw _ (List.mem_of_getElem? (i := 11) rfl))) Via.refl e1 F1 (g := (mkF m 8 #[.val (.ref a1), .val (.int (0 : Int32)), .val (.int (1 : Int32)), .val (.int (Int32.ofNat x_)), .unset, .unset] [(.ref a1)])) rfl rfl (hb hby own_d_prog_132_method_3_8)
  obtain ⟨cl4, Ar4, S4, H4⟩ := id AB
  have hin4 : ¬ ((1 : Int32) < 0 ∨ cl4.slots.size ≤ ((1 : Int32)).toNatClampNeg) := own_inb S4 (by decide) (by decide)
  have hat4 : cl4.slots[((1 : Int32)).toNatClampNeg]? = some (.int (Int32.ofNat y_)) := (by rw [← hye]; exact H4 1 (by decide))
  have pre5 : ∀ t, Steps p.tables e below (T3.setTop (mkF m 18 #[.val (.ref a1), .val (.int (0 : Int32)), .val (.int (1 : Int32)), .val (.int (Int32.ofNat x_)), .val (.int (Int32.ofNat y_)), .val (.int (0 : Int32))] [])) t → Steps p.tables e below (s₁.setTop (entryFrame m #[(.ref a1), (.int (0 : Int32)), (.int (1 : Int32))] 6)) t := by
    intro t kt
    refine pre0 t ?_
    show Steps p.tables e below (s₁.setTop (mkF m 0 #[.val (.ref a1), .val (.int (0 : Int32)), .val (.int (1 : Int32)), .unset, .unset, .unset] [])) _
    refine XS.aloadN X0.here hx rfl (hb hby own_d_prog_132_method_3_0) rfl rfl ?_
    show Steps p.tables e below (s₁.setTop (mkF m 1 #[.val (.ref a1), .val (.int (0 : Int32)), .val (.int (1 : Int32)), .unset, .unset, .unset] [(.ref a1)])) _
    refine st1 _ ?_
    show Steps p.tables e below (T1.setTop (mkF m 4 #[.val (.ref a1), .val (.int (0 : Int32)), .val (.int (1 : Int32)), .unset, .unset, .unset] [(.ref bB)])) _
    refine XS.iloadN X1.here hx rfl (hb hby own_d_prog_132_method_3_4) rfl ?_
    show Steps p.tables e below (T1.setTop (mkF m 5 #[.val (.ref a1), .val (.int (0 : Int32)), .val (.int (1 : Int32)), .unset, .unset, .unset] [(.int (0 : Int32)), (.ref bB)])) _
    refine X1.iaload hx (j := (0 : Int32)) (v := (.int (Int32.ofNat x_))) (by rw [e1]; exact Ar2.1) (State.isArrayOf_alike hZ.alike Ar2.2.1) Ar2.2.2 hin2 hat2 (g := (mkF m 5 #[.val (.ref a1), .val (.int (0 : Int32)), .val (.int (1 : Int32)), .unset, .unset, .unset] [(.int (0 : Int32)), (.ref bB)])) rfl rfl (hb hby own_d_prog_132_method_3_5) _ ?_
    show Steps p.tables e below (T1.setTop (mkF m 6 #[.val (.ref a1), .val (.int (0 : Int32)), .val (.int (1 : Int32)), .unset, .unset, .unset] [(.int (Int32.ofNat x_))])) _
    refine XS.istoreN X1.here hx rfl (hb hby own_d_prog_132_method_3_6) rfl (l' := #[.val (.ref a1), .val (.int (0 : Int32)), .val (.int (1 : Int32)), .val (.int (Int32.ofNat x_)), .unset, .unset]) rfl ?_
    show Steps p.tables e below (T1.setTop (mkF m 7 #[.val (.ref a1), .val (.int (0 : Int32)), .val (.int (1 : Int32)), .val (.int (Int32.ofNat x_)), .unset, .unset] [])) _
    refine XS.aloadN X1.here hx rfl (hb hby own_d_prog_132_method_3_7) rfl rfl ?_
    show Steps p.tables e below (T1.setTop (mkF m 8 #[.val (.ref a1), .val (.int (0 : Int32)), .val (.int (1 : Int32)), .val (.int (Int32.ofNat x_)), .unset, .unset] [(.ref a1)])) _
    refine st3 _ ?_
    show Steps p.tables e below (T3.setTop (mkF m 11 #[.val (.ref a1), .val (.int (0 : Int32)), .val (.int (1 : Int32)), .val (.int (Int32.ofNat x_)), .unset, .unset] [(.ref bB)])) _
    refine XS.iloadN X3.here hx rfl (hb hby own_d_prog_132_method_3_11) rfl ?_
    show Steps p.tables e below (T3.setTop (mkF m 12 #[.val (.ref a1), .val (.int (0 : Int32)), .val (.int (1 : Int32)), .val (.int (Int32.ofNat x_)), .unset, .unset] [(.int (1 : Int32)), (.ref bB)])) _
    refine X3.iaload hx (j := (1 : Int32)) (v := (.int (Int32.ofNat y_))) (by rw [e3]; exact Ar4.1) (State.isArrayOf_alike hZ.alike Ar4.2.1) Ar4.2.2 hin4 hat4 (g := (mkF m 12 #[.val (.ref a1), .val (.int (0 : Int32)), .val (.int (1 : Int32)), .val (.int (Int32.ofNat x_)), .unset, .unset] [(.int (1 : Int32)), (.ref bB)])) rfl rfl (hb hby own_d_prog_132_method_3_12) _ ?_
    show Steps p.tables e below (T3.setTop (mkF m 13 #[.val (.ref a1), .val (.int (0 : Int32)), .val (.int (1 : Int32)), .val (.int (Int32.ofNat x_)), .unset, .unset] [(.int (Int32.ofNat y_))])) _
    refine XS.istore X3.here hx rfl (hb hby own_d_prog_132_method_3_13) rfl (l' := #[.val (.ref a1), .val (.int (0 : Int32)), .val (.int (1 : Int32)), .val (.int (Int32.ofNat x_)), .val (.int (Int32.ofNat y_)), .unset]) rfl ?_
    show Steps p.tables e below (T3.setTop (mkF m 15 #[.val (.ref a1), .val (.int (0 : Int32)), .val (.int (1 : Int32)), .val (.int (Int32.ofNat x_)), .val (.int (Int32.ofNat y_)), .unset] [])) _
    refine XS.iconst X3.here hx rfl (hb hby own_d_prog_132_method_3_15) ?_
    show Steps p.tables e below (T3.setTop (mkF m 16 #[.val (.ref a1), .val (.int (0 : Int32)), .val (.int (1 : Int32)), .val (.int (Int32.ofNat x_)), .val (.int (Int32.ofNat y_)), .unset] [(.int (0 : Int32))])) _
    refine XS.istore X3.here hx rfl (hb hby own_d_prog_132_method_3_16) rfl (l' := #[.val (.ref a1), .val (.int (0 : Int32)), .val (.int (1 : Int32)), .val (.int (Int32.ofNat x_)), .val (.int (Int32.ofNat y_)), .val (.int (0 : Int32))]) rfl ?_
    exact kt
  have loop : ∀ (k x y : Nat) (r : Int32) (Tt : State), Stand p l e ({ frames := 0, cells := 0, slots := 0, locals := 0 } : Room) s m #[(.ref a1), (.int (0 : Int32)), (.int (1 : Int32))] below meth c Tt [] 0 0 → Tt.heap = h0 → x + y < k → x < 5 → y < 5 → ∃ T' u w, Stand p l e ({ frames := 0, cells := 0, slots := 0, locals := 0 } : Room) s m #[(.ref a1), (.int (0 : Int32)), (.int (1 : Int32))] below meth c T' [] 0 0 ∧ T'.heap = h0 ∧ ∀ t, Steps p.tables e below (T'.setTop (mkF m 79 #[.val (.ref a1), .val (.int (0 : Int32)), .val (.int (1 : Int32)), .val (.int u), .val (.int w), .val (.int (own_sep fP fR k x y r))] [])) t → Steps p.tables e below (Tt.setTop (mkF m 18 #[.val (.ref a1), .val (.int (0 : Int32)), .val (.int (1 : Int32)), .val (.int (Int32.ofNat x)), .val (.int (Int32.ofNat y)), .val (.int r)] [])) t := by
    intro k
    induction k with
    | zero => intro x y r Tt Xt et hk lx ly; omega
    | succ k ih =>
      intro x y r Tt Xt et hk lx ly
      have pret : ∀ t, Steps p.tables e below (Tt.setTop (mkF m 18 #[.val (.ref a1), .val (.int (0 : Int32)), .val (.int (1 : Int32)), .val (.int (Int32.ofNat x)), .val (.int (Int32.ofNat y)), .val (.int r)] [])) t → Steps p.tables e below (Tt.setTop (mkF m 18 #[.val (.ref a1), .val (.int (0 : Int32)), .val (.int (1 : Int32)), .val (.int (Int32.ofNat x)), .val (.int (Int32.ofNat y)), .val (.int r)] [])) t := fun t q => q
      have pre6 : ∀ t, Steps p.tables e below (Tt.setTop (mkF m 21 #[.val (.ref a1), .val (.int (0 : Int32)), .val (.int (1 : Int32)), .val (.int (Int32.ofNat x)), .val (.int (Int32.ofNat y)), .val (.int r)] [(.int (Int32.ofNat y)), (.int (Int32.ofNat x))])) t → Steps p.tables e below (Tt.setTop (mkF m 18 #[.val (.ref a1), .val (.int (0 : Int32)), .val (.int (1 : Int32)), .val (.int (Int32.ofNat x)), .val (.int (Int32.ofNat y)), .val (.int r)] [])) t := by
        intro t kt
        refine pret t ?_
        show Steps p.tables e below (Tt.setTop (mkF m 18 #[.val (.ref a1), .val (.int (0 : Int32)), .val (.int (1 : Int32)), .val (.int (Int32.ofNat x)), .val (.int (Int32.ofNat y)), .val (.int r)] [])) _
        refine XS.iloadN Xt.here hx rfl (hb hby own_d_prog_132_method_3_18) rfl ?_
        show Steps p.tables e below (Tt.setTop (mkF m 19 #[.val (.ref a1), .val (.int (0 : Int32)), .val (.int (1 : Int32)), .val (.int (Int32.ofNat x)), .val (.int (Int32.ofNat y)), .val (.int r)] [(.int (Int32.ofNat x))])) _
        refine XS.iload Xt.here hx rfl (hb hby own_d_prog_132_method_3_19) rfl ?_
        exact kt
      by_cases hc7 : (Int32.ofNat x) = (Int32.ofNat y)
      · have pre8 : ∀ t, Steps p.tables e below (Tt.setTop (mkF m 79 #[.val (.ref a1), .val (.int (0 : Int32)), .val (.int (1 : Int32)), .val (.int (Int32.ofNat x)), .val (.int (Int32.ofNat y)), .val (.int r)] [])) t → Steps p.tables e below (Tt.setTop (mkF m 18 #[.val (.ref a1), .val (.int (0 : Int32)), .val (.int (1 : Int32)), .val (.int (Int32.ofNat x)), .val (.int (Int32.ofNat y)), .val (.int r)] [])) t := by
          intro t kt
          refine pre6 t ?_
          show Steps p.tables e below (Tt.setTop (mkF m 21 #[.val (.ref a1), .val (.int (0 : Int32)), .val (.int (1 : Int32)), .val (.int (Int32.ofNat x)), .val (.int (Int32.ofNat y)), .val (.int r)] [(.int (Int32.ofNat y)), (.int (Int32.ofNat x))])) _
          refine XS.icmpYes Xt.here hx rfl (pc0 := 21) (pc' := 79) rfl (hb hby own_d_prog_132_method_3_21) rfl (teq hc7).1 (by decide) (by decide) ?_
          exact kt
        have eq : x = y := own_inj (by omega) (by omega) hc7
        refine ⟨Tt, Int32.ofNat x, Int32.ofNat y, Xt, et, fun t kt => pre8 t ?_⟩
        rw [show own_sep fP fR (k + 1) x y r = r by simp [own_sep, eq]] at kt
        exact kt
      · obtain ⟨T9, X9, e9, st9⟩ := getF Xt hx hZ hown (host := "") (Or.inl (hw _ (List.mem_of_getElem? (i := 15) rfl))) Via.refl et F3 (g := (mkF m 25 #[.val (.ref a1), .val (.int (0 : Int32)), .val (.int (1 : Int32)), .val (.int (Int32.ofNat x)), .val (.int (Int32.ofNat y)), .val (.int r)] [(.ref a1)])) rfl rfl (hb hby own_d_prog_132_method_3_25)
        obtain ⟨cl10, Ar10, S10, H10⟩ := id AR
        have hin10 : ¬ ((Int32.ofNat x) < 0 ∨ cl10.slots.size ≤ ((Int32.ofNat x)).toNatClampNeg) := own_inb S10 (own_of0 (by omega)) (by rw [own_ofN (by omega)]; omega)
        have hat10 : cl10.slots[((Int32.ofNat x)).toNatClampNeg]? = some (.int (fR x)) := (by rw [own_ofN (by omega)]; exact H10 x (by omega))
        obtain ⟨T11, X11, e11, st11⟩ := getF X9 hx hZ hown (host := "") (Or.inl (hw _ (List.mem_of_getElem? (i := 15) rfl))) Via.refl e9 F3 (g := (mkF m 31 #[.val (.ref a1), .val (.int (0 : Int32)), .val (.int (1 : Int32)), .val (.int (Int32.ofNat x)), .val (.int (Int32.ofNat y)), .val (.int r)] [(.ref a1), (.int (fR x))])) rfl rfl (hb hby own_d_prog_132_method_3_31)
        obtain ⟨cl12, Ar12, S12, H12⟩ := id AR
        have hin12 : ¬ ((Int32.ofNat y) < 0 ∨ cl12.slots.size ≤ ((Int32.ofNat y)).toNatClampNeg) := own_inb S12 (own_of0 (by omega)) (by rw [own_ofN (by omega)]; omega)
        have hat12 : cl12.slots[((Int32.ofNat y)).toNatClampNeg]? = some (.int (fR y)) := (by rw [own_ofN (by omega)]; exact H12 y (by omega))
        have pre13 : ∀ t, Steps p.tables e below (T11.setTop (mkF m 37 #[.val (.ref a1), .val (.int (0 : Int32)), .val (.int (1 : Int32)), .val (.int (Int32.ofNat x)), .val (.int (Int32.ofNat y)), .val (.int r)] [(.int (fR y)), (.int (fR x))])) t → Steps p.tables e below (Tt.setTop (mkF m 18 #[.val (.ref a1), .val (.int (0 : Int32)), .val (.int (1 : Int32)), .val (.int (Int32.ofNat x)), .val (.int (Int32.ofNat y)), .val (.int r)] [])) t := by
          intro t kt
          refine pre6 t ?_
          show Steps p.tables e below (Tt.setTop (mkF m 21 #[.val (.ref a1), .val (.int (0 : Int32)), .val (.int (1 : Int32)), .val (.int (Int32.ofNat x)), .val (.int (Int32.ofNat y)), .val (.int r)] [(.int (Int32.ofNat y)), (.int (Int32.ofNat x))])) _
          refine XS.icmpNo Xt.here hx rfl (hb hby own_d_prog_132_method_3_21) rfl (feq hc7).1 ?_
          show Steps p.tables e below (Tt.setTop (mkF m 24 #[.val (.ref a1), .val (.int (0 : Int32)), .val (.int (1 : Int32)), .val (.int (Int32.ofNat x)), .val (.int (Int32.ofNat y)), .val (.int r)] [])) _
          refine XS.aloadN Xt.here hx rfl (hb hby own_d_prog_132_method_3_24) rfl rfl ?_
          show Steps p.tables e below (Tt.setTop (mkF m 25 #[.val (.ref a1), .val (.int (0 : Int32)), .val (.int (1 : Int32)), .val (.int (Int32.ofNat x)), .val (.int (Int32.ofNat y)), .val (.int r)] [(.ref a1)])) _
          refine st9 _ ?_
          show Steps p.tables e below (T9.setTop (mkF m 28 #[.val (.ref a1), .val (.int (0 : Int32)), .val (.int (1 : Int32)), .val (.int (Int32.ofNat x)), .val (.int (Int32.ofNat y)), .val (.int r)] [(.ref bR)])) _
          refine XS.iloadN X9.here hx rfl (hb hby own_d_prog_132_method_3_28) rfl ?_
          show Steps p.tables e below (T9.setTop (mkF m 29 #[.val (.ref a1), .val (.int (0 : Int32)), .val (.int (1 : Int32)), .val (.int (Int32.ofNat x)), .val (.int (Int32.ofNat y)), .val (.int r)] [(.int (Int32.ofNat x)), (.ref bR)])) _
          refine X9.iaload hx (j := (Int32.ofNat x)) (v := (.int (fR x))) (by rw [e9]; exact Ar10.1) (State.isArrayOf_alike hZ.alike Ar10.2.1) Ar10.2.2 hin10 hat10 (g := (mkF m 29 #[.val (.ref a1), .val (.int (0 : Int32)), .val (.int (1 : Int32)), .val (.int (Int32.ofNat x)), .val (.int (Int32.ofNat y)), .val (.int r)] [(.int (Int32.ofNat x)), (.ref bR)])) rfl rfl (hb hby own_d_prog_132_method_3_29) _ ?_
          show Steps p.tables e below (T9.setTop (mkF m 30 #[.val (.ref a1), .val (.int (0 : Int32)), .val (.int (1 : Int32)), .val (.int (Int32.ofNat x)), .val (.int (Int32.ofNat y)), .val (.int r)] [(.int (fR x))])) _
          refine XS.aloadN X9.here hx rfl (hb hby own_d_prog_132_method_3_30) rfl rfl ?_
          show Steps p.tables e below (T9.setTop (mkF m 31 #[.val (.ref a1), .val (.int (0 : Int32)), .val (.int (1 : Int32)), .val (.int (Int32.ofNat x)), .val (.int (Int32.ofNat y)), .val (.int r)] [(.ref a1), (.int (fR x))])) _
          refine st11 _ ?_
          show Steps p.tables e below (T11.setTop (mkF m 34 #[.val (.ref a1), .val (.int (0 : Int32)), .val (.int (1 : Int32)), .val (.int (Int32.ofNat x)), .val (.int (Int32.ofNat y)), .val (.int r)] [(.ref bR), (.int (fR x))])) _
          refine XS.iload X11.here hx rfl (hb hby own_d_prog_132_method_3_34) rfl ?_
          show Steps p.tables e below (T11.setTop (mkF m 36 #[.val (.ref a1), .val (.int (0 : Int32)), .val (.int (1 : Int32)), .val (.int (Int32.ofNat x)), .val (.int (Int32.ofNat y)), .val (.int r)] [(.int (Int32.ofNat y)), (.ref bR), (.int (fR x))])) _
          refine X11.iaload hx (j := (Int32.ofNat y)) (v := (.int (fR y))) (by rw [e11]; exact Ar12.1) (State.isArrayOf_alike hZ.alike Ar12.2.1) Ar12.2.2 hin12 hat12 (g := (mkF m 36 #[.val (.ref a1), .val (.int (0 : Int32)), .val (.int (1 : Int32)), .val (.int (Int32.ofNat x)), .val (.int (Int32.ofNat y)), .val (.int r)] [(.int (Int32.ofNat y)), (.ref bR), (.int (fR x))])) rfl rfl (hb hby own_d_prog_132_method_3_36) _ ?_
          exact kt
        by_cases hc14 : (fR x) < (fR y)
        · obtain ⟨T15, X15, e15, st15⟩ := getF X11 hx hZ hown (host := "") (Or.inl (hw _ (List.mem_of_getElem? (i := 15) rfl))) Via.refl e11 F3 (g := (mkF m 59 #[.val (.ref a1), .val (.int (0 : Int32)), .val (.int (1 : Int32)), .val (.int (Int32.ofNat x)), .val (.int (Int32.ofNat y)), .val (.int r)] [(.ref a1)])) rfl rfl (hb hby own_d_prog_132_method_3_59)
          obtain ⟨cl16, Ar16, S16, H16⟩ := id AR
          have hin16 : ¬ ((Int32.ofNat y) < 0 ∨ cl16.slots.size ≤ ((Int32.ofNat y)).toNatClampNeg) := own_inb S16 (own_of0 (by omega)) (by rw [own_ofN (by omega)]; omega)
          have hat16 : cl16.slots[((Int32.ofNat y)).toNatClampNeg]? = some (.int (fR y)) := (by rw [own_ofN (by omega)]; exact H16 y (by omega))
          obtain ⟨T17, X17, e17, st17⟩ := getF X15 hx hZ hown (host := "") (Or.inl (hw _ (List.mem_of_getElem? (i := 13) rfl))) Via.refl e15 F2 (g := (mkF m 68 #[.val (.ref a1), .val (.int (0 : Int32)), .val (.int (1 : Int32)), .val (.int (Int32.ofNat x)), .val (.int (Int32.ofNat y)), .val (.int (fR y))] [(.ref a1)])) rfl rfl (hb hby own_d_prog_132_method_3_68)
          obtain ⟨cl18, Ar18, S18, H18⟩ := id AP
          have hin18 : ¬ ((Int32.ofNat y) < 0 ∨ cl18.slots.size ≤ ((Int32.ofNat y)).toNatClampNeg) := own_inb S18 (own_of0 (by omega)) (by rw [own_ofN (by omega)]; omega)
          have hat18 : cl18.slots[((Int32.ofNat y)).toNatClampNeg]? = some (.int (fP y)) := (by rw [own_ofN (by omega)]; exact H18 y (by omega))
          have pre19 : ∀ t, Steps p.tables e below (T17.setTop (mkF m 18 #[.val (.ref a1), .val (.int (0 : Int32)), .val (.int (1 : Int32)), .val (.int (Int32.ofNat x)), .val (.int (fP y)), .val (.int (fR y))] [])) t → Steps p.tables e below (Tt.setTop (mkF m 18 #[.val (.ref a1), .val (.int (0 : Int32)), .val (.int (1 : Int32)), .val (.int (Int32.ofNat x)), .val (.int (Int32.ofNat y)), .val (.int r)] [])) t := by
            intro t kt
            refine pre13 t ?_
            show Steps p.tables e below (T11.setTop (mkF m 37 #[.val (.ref a1), .val (.int (0 : Int32)), .val (.int (1 : Int32)), .val (.int (Int32.ofNat x)), .val (.int (Int32.ofNat y)), .val (.int r)] [(.int (fR y)), (.int (fR x))])) _
            refine XS.icmpYes X11.here hx rfl (pc0 := 37) (pc' := 58) rfl (hb hby own_d_prog_132_method_3_37) rfl (tlt hc14).1 (by decide) (by decide) ?_
            show Steps p.tables e below (T11.setTop (mkF m 58 #[.val (.ref a1), .val (.int (0 : Int32)), .val (.int (1 : Int32)), .val (.int (Int32.ofNat x)), .val (.int (Int32.ofNat y)), .val (.int r)] [])) _
            refine XS.aloadN X11.here hx rfl (hb hby own_d_prog_132_method_3_58) rfl rfl ?_
            show Steps p.tables e below (T11.setTop (mkF m 59 #[.val (.ref a1), .val (.int (0 : Int32)), .val (.int (1 : Int32)), .val (.int (Int32.ofNat x)), .val (.int (Int32.ofNat y)), .val (.int r)] [(.ref a1)])) _
            refine st15 _ ?_
            show Steps p.tables e below (T15.setTop (mkF m 62 #[.val (.ref a1), .val (.int (0 : Int32)), .val (.int (1 : Int32)), .val (.int (Int32.ofNat x)), .val (.int (Int32.ofNat y)), .val (.int r)] [(.ref bR)])) _
            refine XS.iload X15.here hx rfl (hb hby own_d_prog_132_method_3_62) rfl ?_
            show Steps p.tables e below (T15.setTop (mkF m 64 #[.val (.ref a1), .val (.int (0 : Int32)), .val (.int (1 : Int32)), .val (.int (Int32.ofNat x)), .val (.int (Int32.ofNat y)), .val (.int r)] [(.int (Int32.ofNat y)), (.ref bR)])) _
            refine X15.iaload hx (j := (Int32.ofNat y)) (v := (.int (fR y))) (by rw [e15]; exact Ar16.1) (State.isArrayOf_alike hZ.alike Ar16.2.1) Ar16.2.2 hin16 hat16 (g := (mkF m 64 #[.val (.ref a1), .val (.int (0 : Int32)), .val (.int (1 : Int32)), .val (.int (Int32.ofNat x)), .val (.int (Int32.ofNat y)), .val (.int r)] [(.int (Int32.ofNat y)), (.ref bR)])) rfl rfl (hb hby own_d_prog_132_method_3_64) _ ?_
            show Steps p.tables e below (T15.setTop (mkF m 65 #[.val (.ref a1), .val (.int (0 : Int32)), .val (.int (1 : Int32)), .val (.int (Int32.ofNat x)), .val (.int (Int32.ofNat y)), .val (.int r)] [(.int (fR y))])) _
            refine XS.istore X15.here hx rfl (hb hby own_d_prog_132_method_3_65) rfl (l' := #[.val (.ref a1), .val (.int (0 : Int32)), .val (.int (1 : Int32)), .val (.int (Int32.ofNat x)), .val (.int (Int32.ofNat y)), .val (.int (fR y))]) rfl ?_
            show Steps p.tables e below (T15.setTop (mkF m 67 #[.val (.ref a1), .val (.int (0 : Int32)), .val (.int (1 : Int32)), .val (.int (Int32.ofNat x)), .val (.int (Int32.ofNat y)), .val (.int (fR y))] [])) _
            refine XS.aloadN X15.here hx rfl (hb hby own_d_prog_132_method_3_67) rfl rfl ?_
            show Steps p.tables e below (T15.setTop (mkF m 68 #[.val (.ref a1), .val (.int (0 : Int32)), .val (.int (1 : Int32)), .val (.int (Int32.ofNat x)), .val (.int (Int32.ofNat y)), .val (.int (fR y))] [(.ref a1)])) _
            refine st17 _ ?_
            show Steps p.tables e below (T17.setTop (mkF m 71 #[.val (.ref a1), .val (.int (0 : Int32)), .val (.int (1 : Int32)), .val (.int (Int32.ofNat x)), .val (.int (Int32.ofNat y)), .val (.int (fR y))] [(.ref bP)])) _
            refine XS.iload X17.here hx rfl (hb hby own_d_prog_132_method_3_71) rfl ?_
            show Steps p.tables e below (T17.setTop (mkF m 73 #[.val (.ref a1), .val (.int (0 : Int32)), .val (.int (1 : Int32)), .val (.int (Int32.ofNat x)), .val (.int (Int32.ofNat y)), .val (.int (fR y))] [(.int (Int32.ofNat y)), (.ref bP)])) _
            refine X17.iaload hx (j := (Int32.ofNat y)) (v := (.int (fP y))) (by rw [e17]; exact Ar18.1) (State.isArrayOf_alike hZ.alike Ar18.2.1) Ar18.2.2 hin18 hat18 (g := (mkF m 73 #[.val (.ref a1), .val (.int (0 : Int32)), .val (.int (1 : Int32)), .val (.int (Int32.ofNat x)), .val (.int (Int32.ofNat y)), .val (.int (fR y))] [(.int (Int32.ofNat y)), (.ref bP)])) rfl rfl (hb hby own_d_prog_132_method_3_73) _ ?_
            show Steps p.tables e below (T17.setTop (mkF m 74 #[.val (.ref a1), .val (.int (0 : Int32)), .val (.int (1 : Int32)), .val (.int (Int32.ofNat x)), .val (.int (Int32.ofNat y)), .val (.int (fR y))] [(.int (fP y))])) _
            refine XS.istore X17.here hx rfl (hb hby own_d_prog_132_method_3_74) rfl (l' := #[.val (.ref a1), .val (.int (0 : Int32)), .val (.int (1 : Int32)), .val (.int (Int32.ofNat x)), .val (.int (fP y)), .val (.int (fR y))]) rfl ?_
            show Steps p.tables e below (T17.setTop (mkF m 76 #[.val (.ref a1), .val (.int (0 : Int32)), .val (.int (1 : Int32)), .val (.int (Int32.ofNat x)), .val (.int (fP y)), .val (.int (fR y))] [])) _
            refine XS.goto X17.here hx rfl (pc0 := 76) (pc' := 18) rfl (hb hby own_d_prog_132_method_3_76) (by decide) (by decide) ?_
            exact kt
          have ne : ¬ x = y := fun q => hc7 (by rw [q])
          have v0 := own_y0 hT lx hc14
          have lv := (hT.2.2.2 y v0 ly).1
          have eb : Int32.ofNat (fP y).toNatClampNeg = fP y := own_back (hT.2.2.1 y ly)
          obtain ⟨T', u, w, X', e', st'⟩ := ih x (fP y).toNatClampNeg (fR y) T17 X17 e17 (by omega) (by omega) (by omega)
          rw [eb] at st'
          refine ⟨T', u, w, X', e', fun t kt => pre19 t (st' t ?_)⟩
          rw [show own_sep fP fR (k + 1) x y r = own_sep fP fR k x (fP y).toNatClampNeg (fR y) by simp [own_sep, ne, hc14]] at kt
          exact kt
        · obtain ⟨T20, X20, e20, st20⟩ := getF X11 hx hZ hown (host := "") (Or.inl (hw _ (List.mem_of_getElem? (i := 15) rfl))) Via.refl e11 F3 (g := (mkF m 41 #[.val (.ref a1), .val (.int (0 : Int32)), .val (.int (1 : Int32)), .val (.int (Int32.ofNat x)), .val (.int (Int32.ofNat y)), .val (.int r)] [(.ref a1)])) rfl rfl (hb hby own_d_prog_132_method_3_41)
          obtain ⟨cl21, Ar21, S21, H21⟩ := id AR
          have hin21 : ¬ ((Int32.ofNat x) < 0 ∨ cl21.slots.size ≤ ((Int32.ofNat x)).toNatClampNeg) := own_inb S21 (own_of0 (by omega)) (by rw [own_ofN (by omega)]; omega)
          have hat21 : cl21.slots[((Int32.ofNat x)).toNatClampNeg]? = some (.int (fR x)) := (by rw [own_ofN (by omega)]; exact H21 x (by omega))
          obtain ⟨T22, X22, e22, st22⟩ := getF X20 hx hZ hown (host := "") (Or.inl (hw _ (List.mem_of_getElem? (i := 13) rfl))) Via.refl e20 F2 (g := (mkF m 49 #[.val (.ref a1), .val (.int (0 : Int32)), .val (.int (1 : Int32)), .val (.int (Int32.ofNat x)), .val (.int (Int32.ofNat y)), .val (.int (fR x))] [(.ref a1)])) rfl rfl (hb hby own_d_prog_132_method_3_49)
          obtain ⟨cl23, Ar23, S23, H23⟩ := id AP
          have hin23 : ¬ ((Int32.ofNat x) < 0 ∨ cl23.slots.size ≤ ((Int32.ofNat x)).toNatClampNeg) := own_inb S23 (own_of0 (by omega)) (by rw [own_ofN (by omega)]; omega)
          have hat23 : cl23.slots[((Int32.ofNat x)).toNatClampNeg]? = some (.int (fP x)) := (by rw [own_ofN (by omega)]; exact H23 x (by omega))
          have pre24 : ∀ t, Steps p.tables e below (T22.setTop (mkF m 18 #[.val (.ref a1), .val (.int (0 : Int32)), .val (.int (1 : Int32)), .val (.int (fP x)), .val (.int (Int32.ofNat y)), .val (.int (fR x))] [])) t → Steps p.tables e below (Tt.setTop (mkF m 18 #[.val (.ref a1), .val (.int (0 : Int32)), .val (.int (1 : Int32)), .val (.int (Int32.ofNat x)), .val (.int (Int32.ofNat y)), .val (.int r)] [])) t := by
            intro t kt
            refine pre13 t ?_
            show Steps p.tables e below (T11.setTop (mkF m 37 #[.val (.ref a1), .val (.int (0 : Int32)), .val (.int (1 : Int32)), .val (.int (Int32.ofNat x)), .val (.int (Int32.ofNat y)), .val (.int r)] [(.int (fR y)), (.int (fR x))])) _
            refine XS.icmpNo X11.here hx rfl (hb hby own_d_prog_132_method_3_37) rfl (flt hc14).1 ?_
            show Steps p.tables e below (T11.setTop (mkF m 40 #[.val (.ref a1), .val (.int (0 : Int32)), .val (.int (1 : Int32)), .val (.int (Int32.ofNat x)), .val (.int (Int32.ofNat y)), .val (.int r)] [])) _
            refine XS.aloadN X11.here hx rfl (hb hby own_d_prog_132_method_3_40) rfl rfl ?_
            show Steps p.tables e below (T11.setTop (mkF m 41 #[.val (.ref a1), .val (.int (0 : Int32)), .val (.int (1 : Int32)), .val (.int (Int32.ofNat x)), .val (.int (Int32.ofNat y)), .val (.int r)] [(.ref a1)])) _
            refine st20 _ ?_
            show Steps p.tables e below (T20.setTop (mkF m 44 #[.val (.ref a1), .val (.int (0 : Int32)), .val (.int (1 : Int32)), .val (.int (Int32.ofNat x)), .val (.int (Int32.ofNat y)), .val (.int r)] [(.ref bR)])) _
            refine XS.iloadN X20.here hx rfl (hb hby own_d_prog_132_method_3_44) rfl ?_
            show Steps p.tables e below (T20.setTop (mkF m 45 #[.val (.ref a1), .val (.int (0 : Int32)), .val (.int (1 : Int32)), .val (.int (Int32.ofNat x)), .val (.int (Int32.ofNat y)), .val (.int r)] [(.int (Int32.ofNat x)), (.ref bR)])) _
            refine X20.iaload hx (j := (Int32.ofNat x)) (v := (.int (fR x))) (by rw [e20]; exact Ar21.1) (State.isArrayOf_alike hZ.alike Ar21.2.1) Ar21.2.2 hin21 hat21 (g := (mkF m 45 #[.val (.ref a1), .val (.int (0 : Int32)), .val (.int (1 : Int32)), .val (.int (Int32.ofNat x)), .val (.int (Int32.ofNat y)), .val (.int r)] [(.int (Int32.ofNat x)), (.ref bR)])) rfl rfl (hb hby own_d_prog_132_method_3_45) _ ?_
            show Steps p.tables e below (T20.setTop (mkF m 46 #[.val (.ref a1), .val (.int (0 : Int32)), .val (.int (1 : Int32)), .val (.int (Int32.ofNat x)), .val (.int (Int32.ofNat y)), .val (.int r)] [(.int (fR x))])) _
            refine XS.istore X20.here hx rfl (hb hby own_d_prog_132_method_3_46) rfl (l' := #[.val (.ref a1), .val (.int (0 : Int32)), .val (.int (1 : Int32)), .val (.int (Int32.ofNat x)), .val (.int (Int32.ofNat y)), .val (.int (fR x))]) rfl ?_
            show Steps p.tables e below (T20.setTop (mkF m 48 #[.val (.ref a1), .val (.int (0 : Int32)), .val (.int (1 : Int32)), .val (.int (Int32.ofNat x)), .val (.int (Int32.ofNat y)), .val (.int (fR x))] [])) _
            refine XS.aloadN X20.here hx rfl (hb hby own_d_prog_132_method_3_48) rfl rfl ?_
            show Steps p.tables e below (T20.setTop (mkF m 49 #[.val (.ref a1), .val (.int (0 : Int32)), .val (.int (1 : Int32)), .val (.int (Int32.ofNat x)), .val (.int (Int32.ofNat y)), .val (.int (fR x))] [(.ref a1)])) _
            refine st22 _ ?_
            show Steps p.tables e below (T22.setTop (mkF m 52 #[.val (.ref a1), .val (.int (0 : Int32)), .val (.int (1 : Int32)), .val (.int (Int32.ofNat x)), .val (.int (Int32.ofNat y)), .val (.int (fR x))] [(.ref bP)])) _
            refine XS.iloadN X22.here hx rfl (hb hby own_d_prog_132_method_3_52) rfl ?_
            show Steps p.tables e below (T22.setTop (mkF m 53 #[.val (.ref a1), .val (.int (0 : Int32)), .val (.int (1 : Int32)), .val (.int (Int32.ofNat x)), .val (.int (Int32.ofNat y)), .val (.int (fR x))] [(.int (Int32.ofNat x)), (.ref bP)])) _
            refine X22.iaload hx (j := (Int32.ofNat x)) (v := (.int (fP x))) (by rw [e22]; exact Ar23.1) (State.isArrayOf_alike hZ.alike Ar23.2.1) Ar23.2.2 hin23 hat23 (g := (mkF m 53 #[.val (.ref a1), .val (.int (0 : Int32)), .val (.int (1 : Int32)), .val (.int (Int32.ofNat x)), .val (.int (Int32.ofNat y)), .val (.int (fR x))] [(.int (Int32.ofNat x)), (.ref bP)])) rfl rfl (hb hby own_d_prog_132_method_3_53) _ ?_
            show Steps p.tables e below (T22.setTop (mkF m 54 #[.val (.ref a1), .val (.int (0 : Int32)), .val (.int (1 : Int32)), .val (.int (Int32.ofNat x)), .val (.int (Int32.ofNat y)), .val (.int (fR x))] [(.int (fP x))])) _
            refine XS.istoreN X22.here hx rfl (hb hby own_d_prog_132_method_3_54) rfl (l' := #[.val (.ref a1), .val (.int (0 : Int32)), .val (.int (1 : Int32)), .val (.int (fP x)), .val (.int (Int32.ofNat y)), .val (.int (fR x))]) rfl ?_
            show Steps p.tables e below (T22.setTop (mkF m 55 #[.val (.ref a1), .val (.int (0 : Int32)), .val (.int (1 : Int32)), .val (.int (fP x)), .val (.int (Int32.ofNat y)), .val (.int (fR x))] [])) _
            refine XS.goto X22.here hx rfl (pc0 := 55) (pc' := 18) rfl (hb hby own_d_prog_132_method_3_55) (by decide) (by decide) ?_
            exact kt
          have ne : ¬ x = y := fun q => hc7 (by rw [q])
          have v0 := own_x0 hT ly ne hc14
          have lv := (hT.2.2.2 x v0 lx).1
          have eb : Int32.ofNat (fP x).toNatClampNeg = fP x := own_back (hT.2.2.1 x lx)
          obtain ⟨T', u, w, X', e', st'⟩ := ih (fP x).toNatClampNeg y (fR x) T22 X22 e22 (by omega) (by omega) (by omega)
          rw [eb] at st'
          refine ⟨T', u, w, X', e', fun t kt => pre24 t (st' t ?_)⟩
          rw [show own_sep fP fR (k + 1) x y r = own_sep fP fR k (fP x).toNatClampNeg y (fR x) by simp [own_sep, ne, hc14]] at kt
          exact kt
  obtain ⟨T25, u25, w25, X25, e25, st25⟩ := loop 9 x_ y_ 0 T3 X3 e3 (by omega) hx5 hy5
  have pre26 : ∀ t, Steps p.tables e below (T25.setTop (mkF m 81 #[.val (.ref a1), .val (.int (0 : Int32)), .val (.int (1 : Int32)), .val (.int u25), .val (.int w25), .val (.int (own_sep fP fR 9 x_ y_ 0))] [(.int (own_sep fP fR 9 x_ y_ 0))])) t → Steps p.tables e below (s₁.setTop (entryFrame m #[(.ref a1), (.int (0 : Int32)), (.int (1 : Int32))] 6)) t := by
    intro t kt
    refine pre5 t ?_
    show Steps p.tables e below (T3.setTop (mkF m 18 #[.val (.ref a1), .val (.int (0 : Int32)), .val (.int (1 : Int32)), .val (.int (Int32.ofNat x_)), .val (.int (Int32.ofNat y_)), .val (.int (0 : Int32))] [])) _
    refine st25 _ ?_
    show Steps p.tables e below (T25.setTop (mkF m 79 #[.val (.ref a1), .val (.int (0 : Int32)), .val (.int (1 : Int32)), .val (.int u25), .val (.int w25), .val (.int (own_sep fP fR 9 x_ y_ 0))] [])) _
    refine XS.iload X25.here hx rfl (hb hby own_d_prog_132_method_3_79) rfl ?_
    exact kt
  obtain ⟨fs, hr, hrun, hended, hW, hsame⟩ := X25.leave (v := some (.int (own_sep fP fR 9 x_ y_ 0))) (fun h => by rw [Bd.returns] at h; cases h)
  refine ⟨_, _, pre26 _ ?_, hrun, hended, _, _, rfl, ?_, ⟨_, rfl⟩, hW, hsame.mono (by decide) (by decide)⟩
  · show Steps p.tables e below (T25.setTop (mkF m 81 #[.val (.ref a1), .val (.int (0 : Int32)), .val (.int (1 : Int32)), .val (.int u25), .val (.int w25), .val (.int (own_sep fP fR 9 x_ y_ 0))] [(.int (own_sep fP fR 9 x_ y_ 0))])) _
    exact retI X25 hx Bd.returns (hb hby own_d_prog_132_method_3_81) hr
  · show own_Q_sep Z a1 bB bP bR fB fP fR x_ y_ h0 n0 (some (.int (own_sep fP fR 9 x_ y_ 0))) T25.heap _
    rw [e25]
    exact ⟨rfl, N0, rfl⟩
def own_q2 (s : Int32) : Int32 := s &&& (1 : Int32)
def own_q3 (s : Int32) : Int32 := (((s.toUInt32 >>> ((1 : Int32) &&& 31).toUInt32).toInt32) &&& (3 : Int32)) % (3 : Int32)
def own_q4 (s : Int32) : Int32 := ((s.toUInt32 >>> ((3 : Int32) &&& 31).toUInt32).toInt32) &&& (3 : Int32)
def own_s1 (i : Int32) : Int32 := (1 : Int32) + (i &&& (3 : Int32))
def own_s2 (s i : Int32) : Int32 := (own_v5 (0 : Int32) (own_s1 i) (0 : Int32) (0 : Int32) (0 : Int32) (own_q2 s).toNatClampNeg + (1 : Int32)) + (((i.toUInt32 >>> ((2 : Int32) &&& 31).toUInt32).toInt32) &&& (3 : Int32))
def own_s3 (s i : Int32) : Int32 := (own_v5 (0 : Int32) (own_s1 i) (own_s2 s i) (0 : Int32) (0 : Int32) (own_q3 s).toNatClampNeg + (1 : Int32)) + (((i.toUInt32 >>> ((4 : Int32) &&& 31).toUInt32).toInt32) &&& (3 : Int32))
def own_s4 (s i : Int32) : Int32 := (own_v5 (0 : Int32) (own_s1 i) (own_s2 s i) (own_s3 s i) (0 : Int32) (own_q4 s).toNatClampNeg + (1 : Int32)) + (((i.toUInt32 >>> ((6 : Int32) &&& 31).toUInt32).toInt32) &&& (3 : Int32))
theorem own_m3 (a : Int32) : 0 ≤ (a &&& (3 : Int32)).toInt ∧ (a &&& (3 : Int32)).toInt ≤ 3 := c_and a 3 (by decide)
theorem own_q2r (a : Int32) : 0 ≤ (own_q2 a).toInt ∧ (own_q2 a).toInt ≤ 1 := c_and _ 1 (by decide)
theorem own_q3r (b : Int32) : 0 ≤ (own_q3 b).toInt ∧ (own_q3 b).toInt ≤ 2 := by
  have q := own_m3 (((b.toUInt32 >>> ((1 : Int32) &&& 31).toUInt32).toInt32))
  have r := (c_irem (((b.toUInt32 >>> ((1 : Int32) &&& 31).toUInt32).toInt32) &&& 3) 3 3 rfl).1 q.1
  unfold own_q3; rw [r]; omega
theorem own_q4r (a : Int32) : 0 ≤ (own_q4 a).toInt ∧ (own_q4 a).toInt ≤ 3 := own_m3 _
theorem own_up (x a : Int32) (h0 : 0 ≤ x.toInt) (h1 : x.toInt ≤ 1000) : ((x + (1 : Int32)) + (a &&& (3 : Int32))).toInt = x.toInt + 1 + (a &&& (3 : Int32)).toInt := by
  have q := own_m3 a
  have e1 := c_iadd x 1
  have e2 := c_iadd (x + 1) (a &&& 3)
  have b1 := Int32.le_toInt (x + 1); have b2 := Int32.toInt_lt (x + 1)
  have b3 := Int32.le_toInt ((x + 1) + (a &&& 3)); have b4 := Int32.toInt_lt ((x + 1) + (a &&& 3))
  have : (1 : Int32).toInt = 1 := rfl
  omega
theorem own_s1r (a : Int32) : 1 ≤ (own_s1 a).toInt ∧ (own_s1 a).toInt ≤ 4 := by
  have q := own_m3 a
  have e2 := c_iadd 1 (a &&& 3)
  have b3 := Int32.le_toInt ((1 : Int32) + (a &&& 3)); have b4 := Int32.toInt_lt ((1 : Int32) + (a &&& 3))
  have : (1 : Int32).toInt = 1 := rfl
  unfold own_s1; omega
theorem own_one {x v i : Int32} {B : Int} (hv : v = (x + 1) + (i &&& 3)) (h0 : 0 ≤ x.toInt) (h1 : x.toInt ≤ B) (hB : B ≤ 1000) : 1 ≤ v.toInt ∧ v.toInt ≤ B + 4 ∧ x.toInt < v.toInt := by
  have e := own_up x i h0 (by omega)
  have q := own_m3 i
  rw [hv, e]; omega
theorem own_mktree (s i : Int32) : own_tree 5 (own_v5 (0 : Int32) (0 : Int32) (own_q2 s) (own_q3 s) (own_q4 s)) (own_v5 (0 : Int32) (own_s1 i) (own_s2 s i) (own_s3 s i) (own_s4 s i)) := by
  have h1 := own_s1r i
  have hp2 := own_q2r s
  have hp3 := own_q3r s
  have hp4 := own_q4r s
  have n2 : (own_q2 s).toNatClampNeg = 0 ∨ (own_q2 s).toNatClampNeg = 1 := by simp only [Int32.toNatClampNeg]; omega
  have n3 : (own_q3 s).toNatClampNeg = 0 ∨ (own_q3 s).toNatClampNeg = 1 ∨ (own_q3 s).toNatClampNeg = 2 := by simp only [Int32.toNatClampNeg]; omega
  have n4 : (own_q4 s).toNatClampNeg = 0 ∨ (own_q4 s).toNatClampNeg = 1 ∨ (own_q4 s).toNatClampNeg = 2 ∨ (own_q4 s).toNatClampNeg = 3 := by simp only [Int32.toNatClampNeg]; omega
  have r2 : 1 ≤ (own_s2 s i).toInt ∧ (own_s2 s i).toInt ≤ 8 ∧ (own_v5 (0 : Int32) (own_s1 i) (own_s2 s i) (own_s3 s i) (own_s4 s i) (own_q2 s).toNatClampNeg).toInt < (own_s2 s i).toInt := by
    rcases n2 with n | n
    · rw [n]; exact own_one (x := 0) (B := 4) (by unfold own_s2; rw [n]; rfl) (by decide) (by decide) (by decide)
    · rw [n]; exact own_one (x := own_s1 i) (B := 4) (by unfold own_s2; rw [n]; rfl) (by omega) h1.2 (by decide)
  have r3 : 1 ≤ (own_s3 s i).toInt ∧ (own_s3 s i).toInt ≤ 12 ∧ (own_v5 (0 : Int32) (own_s1 i) (own_s2 s i) (own_s3 s i) (own_s4 s i) (own_q3 s).toNatClampNeg).toInt < (own_s3 s i).toInt := by
    rcases n3 with n | n | n
    · rw [n]; exact own_one (x := 0) (B := 8) (by unfold own_s3; rw [n]; rfl) (by decide) (by decide) (by decide)
    · rw [n]; exact own_one (x := own_s1 i) (B := 8) (by unfold own_s3; rw [n]; rfl) (by omega) (by omega) (by decide)
    · rw [n]; exact own_one (x := own_s2 s i) (B := 8) (by unfold own_s3; rw [n]; rfl) (by omega) r2.2.1 (by decide)
  have r4 : 1 ≤ (own_s4 s i).toInt ∧ (own_s4 s i).toInt ≤ 16 ∧ (own_v5 (0 : Int32) (own_s1 i) (own_s2 s i) (own_s3 s i) (own_s4 s i) (own_q4 s).toNatClampNeg).toInt < (own_s4 s i).toInt := by
    rcases n4 with n | n | n | n
    · rw [n]; exact own_one (x := 0) (B := 12) (by unfold own_s4; rw [n]; rfl) (by decide) (by decide) (by decide)
    · rw [n]; exact own_one (x := own_s1 i) (B := 12) (by unfold own_s4; rw [n]; rfl) (by omega) (by omega) (by decide)
    · rw [n]; exact own_one (x := own_s2 s i) (B := 12) (by unfold own_s4; rw [n]; rfl) (by omega) (by omega) (by decide)
    · rw [n]; exact own_one (x := own_s3 s i) (B := 12) (by unfold own_s4; rw [n]; rfl) (by omega) r3.2.1 (by decide)
  refine ⟨rfl, rfl, fun x hx => ?_, fun x h0 hx => ?_⟩
  · rcases x with _ | _ | _ | _ | _ | x
    · show ¬ (0 : Int32) < 0; decide
    · show ¬ (0 : Int32) < 0; decide
    · exact own_nn hp2.1
    · exact own_nn hp3.1
    · exact own_nn hp4.1
    · omega
  · rcases x with _ | _ | _ | _ | _ | x
    · omega
    · exact ⟨by show (0 : Int32).toNatClampNeg < 1; decide, by show (0 : Int32).toInt < (own_s1 i).toInt; rw [own_z]; omega, by show 0 < (own_s1 i).toInt; omega⟩
    · exact ⟨by show (own_q2 s).toNatClampNeg < 2; omega, r2.2.2, by show 0 < (own_s2 s i).toInt; omega⟩
    · exact ⟨by show (own_q3 s).toNatClampNeg < 3; omega, r3.2.2, by show 0 < (own_s3 s i).toInt; omega⟩
    · exact ⟨by show (own_q4 s).toNatClampNeg < 4; omega, r4.2.2, by show 0 < (own_s4 s i).toInt; omega⟩
    · omega
def own_b (a : Int32) : Int32 := (a &&& (2147483647 : Int32)) % (5 : Int32)
theorem own_br (a : Int32) : ∃ s : Nat, own_b a = Int32.ofNat s ∧ s < 5 := by
  have q := (c_and a 2147483647 (by decide)).1
  have r := (c_irem (a &&& 2147483647) 5 5 rfl).1 q
  have r' : (own_b a).toInt = (a &&& 2147483647).toInt % 5 := r
  exact ⟨(own_b a).toNatClampNeg, (own_back (own_nn (by omega))).symm, own_tn (by omega) (by decide)⟩
theorem own_pd2 : parseMethodDescriptor "([I[I[I)V" = some ⟨[(.array .int), (.array .int), (.array .int)], none⟩ := by decide +kernel
theorem own_pd3 : parseMethodDescriptor "(IIII[I[I)I" = some ⟨[.int, .int, .int, .int, (.array .int), (.array .int)], some .int⟩ := by decide +kernel
theorem own_ef_law (m : MethodId) (p0 : Int32) (p1 : Int32) (p2 : Int32) (p3 : Int32) : entryFrame m #[(.int p0), (.int p1), (.int p2), (.int p3)] maxLocals = mkF m 0 #[.val (.int p0), .val (.int p1), .val (.int p2), .val (.int p3), .unset, .unset, .unset, .unset, .unset, .unset, .unset, .unset] [] := by first | (simp [entryFrame, mkF, argsToLocals, Value.category, maxLocals]; done) | rfl
def own_Q_law (Z : State) (p0 : Int32) (p1 : Int32) (p2 : Int32) (p3 : Int32) (h0 : Heap) (n0 : Nat) (v : Option Value) (h : Heap) (L : List Loc) : Prop := v = some (.int 1) ∧ Fr n0 L
set_option maxRecDepth 65536 in
set_option maxHeartbeats 40000000 in
theorem own_rm_law (l : Launch) (Z : State) (a0 : Array Value) (hw : ∀ d ∈ tables_1, d.before a0 Z = true) (ws : List Jvm.Cond) (p0 : Int32) (p1 : Int32) (p2 : Int32) (p3 : Int32) (h0 : Heap) (n0 : Nat) (Z0 : n0 ≤ h0.size) :
    MetFree l x (head1 (Jvm.Cond.code x code maxLocals ret :: ws) room_1) (fun a U => a = #[(.int p0), (.int p1), (.int p2), (.int p3)] ∧ Z.Warmed39 U.vm ∧ U.heap = h0) (fun _ _ _ _ _ => True) (fun _ U o U' => ∃ v L, o = .returned v ∧ own_Q_law Z p0 p1 p2 p3 h0 n0 v U'.heap L ∧ FrameEnd U o U' L room_1.cells room_1.slots) := by
  refine MetFree.of_bodySF (plainFor_of_name own_pn1) hisR ?_
  intro p e s m args below meth c s₁ Bd hml0 hP hK
  obtain ⟨rfl, hZ, hh⟩ := hP
  have hx := Bd.exec
  have hby := Bd.bytes
  have hml : c.maxLocals = 12 := hml0
  have hown : s.vm.findClass "com/example/unfold/unfold/reduction/SplittingSeparationPinLaw" = some m.cls := findClass_of_methodNamed Bd.named
  have hnm := (name_of_methodNamed Bd.named Bd.method).1
  have X0 : Stand p l e room_1 s m #[(.int p0), (.int p1), (.int p2), (.int p3)] below meth c s₁ [] 0 0 := Stand.of_body Bd
  have e0 : s₁.heap = h0 := by rw [← hh, Bd.state]; rfl
  have N0 := Fr.nil n0
  have K0 : Keep h0 h0 [] := Keep.refl _ _
  have pre0 : ∀ t, Steps p.tables e below (s₁.setTop (mkF m 0 #[.val (.int p0), .val (.int p1), .val (.int p2), .val (.int p3), .unset, .unset, .unset, .unset, .unset, .unset, .unset, .unset] [])) t → Steps p.tables e below (s₁.setTop (entryFrame m #[(.int p0), (.int p1), (.int p2), (.int p3)] maxLocals)) t := fun t k => castTop (own_ef_law m p0 p1 p2 p3) k
  obtain ⟨T1, h1, k1, X1, e1, E1, A1, I1, st1⟩ := newPE X0 hx hZ (hw _ (List.mem_of_getElem? (i := 0) rfl)) e0 (g := (mkF m 1 #[.val (.int p0), .val (.int p1), .val (.int p2), .val (.int p3), .unset, .unset, .unset, .unset, .unset, .unset, .unset, .unset] [(.int (5 : Int32))])) rfl (hb hby at_1) rfl (by decide) (cap := 5) (by decide) (by decide) (by decide) (by decide) (ad := "[I") rfl
  obtain ⟨b1, g1⟩ : ∃ z, z = h0.size := ⟨_, rfl⟩
  rw [← g1] at A1 I1 st1
  have sz_b1 : h0.size ≤ b1 := Nat.le_trans K0.1 (Nat.le_of_eq g1.symm)
  have gn_b1 : n0 ≤ b1 := Nat.le_trans Z0 sz_b1
  have k2 := K0.ext E1
  have f3 : own_A Z h1 b1 5 (own_v5 (0 : Int32) (0 : Int32) (0 : Int32) (0 : Int32) (0 : Int32)) := (own_A.new A1 rfl).congr (fun j hj => by rcases j with _ | _ | _ | _ | _ | j <;> first | rfl | (simp [own_upd]; done) | omega)
  obtain ⟨cl4, Ar4, S4, H4⟩ := id f3
  have hin4 : ¬ ((0 : Int32) < 0 ∨ cl4.slots.size ≤ ((0 : Int32)).toNatClampNeg) := own_inb S4 (by decide) (by decide)
  obtain ⟨T5, h5, X5, e5, W5, st5⟩ := stI X1 hx hZ e1 Ar4 (j := (0 : Int32)) hin4 (g := (mkF m 9 #[.val (.int p0), .val (.int p1), .val (.int p2), .val (.int p3), .val (.ref b1), .unset, .unset, .unset, .unset, .unset, .unset, .unset] [(.int (0 : Int32)), (.int (0 : Int32)), (.ref b1)])) rfl rfl (hb hby at_9)
  have f6 := I1.wr W5
  have k8 := k2.wr W5 (Or.inr sz_b1)
  have nf9 := Fr.snoc X5 N0 gn_b1
  have f10 := f3.set W5
  have f11 : own_A Z h5 b1 5 (own_v5 (0 : Int32) (0 : Int32) (0 : Int32) (0 : Int32) (0 : Int32)) := f10.congr (fun j hj => by rcases j with _ | _ | _ | _ | _ | j <;> first | rfl | (simp [own_upd]; done) | omega)
  obtain ⟨cl12, Ar12, S12, H12⟩ := id f11
  have hin12 : ¬ ((1 : Int32) < 0 ∨ cl12.slots.size ≤ ((1 : Int32)).toNatClampNeg) := own_inb S12 (by decide) (by decide)
  obtain ⟨T13, h13, X13, e13, W13, st13⟩ := stI X5 hx hZ e5 Ar12 (j := (1 : Int32)) hin12 (g := (mkF m 14 #[.val (.int p0), .val (.int p1), .val (.int p2), .val (.int p3), .val (.ref b1), .unset, .unset, .unset, .unset, .unset, .unset, .unset] [(.int (0 : Int32)), (.int (1 : Int32)), (.ref b1)])) rfl rfl (hb hby at_14)
  have f14 := f6.wr W13
  have k16 := k8.wr W13 (Or.inr sz_b1)
  have nf17 := Fr.snoc X13 nf9 gn_b1
  have f18 := f11.set W13
  have f19 : own_A Z h13 b1 5 (own_v5 (0 : Int32) (0 : Int32) (0 : Int32) (0 : Int32) (0 : Int32)) := f18.congr (fun j hj => by rcases j with _ | _ | _ | _ | _ | j <;> first | rfl | (simp [own_upd]; done) | omega)
  have pre20 : ∀ t, Steps p.tables e below (T13.setTop (mkF m 21 #[.val (.int p0), .val (.int p1), .val (.int p2), .val (.int p3), .val (.ref b1), .unset, .unset, .unset, .unset, .unset, .unset, .unset] [(.int (p2 &&& (1 : Int32))), (.int (2 : Int32)), (.ref b1)])) t → Steps p.tables e below (s₁.setTop (entryFrame m #[(.int p0), (.int p1), (.int p2), (.int p3)] maxLocals)) t := by
    intro t kt
    refine pre0 t ?_
    show Steps p.tables e below (s₁.setTop (mkF m 0 #[.val (.int p0), .val (.int p1), .val (.int p2), .val (.int p3), .unset, .unset, .unset, .unset, .unset, .unset, .unset, .unset] [])) _
    refine XS.iconst X0.here hx rfl (hb hby at_0) ?_
    show Steps p.tables e below (s₁.setTop (mkF m 1 #[.val (.int p0), .val (.int p1), .val (.int p2), .val (.int p3), .unset, .unset, .unset, .unset, .unset, .unset, .unset, .unset] [(.int (5 : Int32))])) _
    refine st1 _ ?_
    show Steps p.tables e below (T1.setTop (mkF m 3 #[.val (.int p0), .val (.int p1), .val (.int p2), .val (.int p3), .unset, .unset, .unset, .unset, .unset, .unset, .unset, .unset] [(.ref b1)])) _
    refine XS.astore X1.here hx rfl (hb hby at_3) rfl rfl (l' := #[.val (.int p0), .val (.int p1), .val (.int p2), .val (.int p3), .val (.ref b1), .unset, .unset, .unset, .unset, .unset, .unset, .unset]) rfl ?_
    show Steps p.tables e below (T1.setTop (mkF m 5 #[.val (.int p0), .val (.int p1), .val (.int p2), .val (.int p3), .val (.ref b1), .unset, .unset, .unset, .unset, .unset, .unset, .unset] [])) _
    refine XS.aload X1.here hx rfl (hb hby at_5) rfl rfl ?_
    show Steps p.tables e below (T1.setTop (mkF m 7 #[.val (.int p0), .val (.int p1), .val (.int p2), .val (.int p3), .val (.ref b1), .unset, .unset, .unset, .unset, .unset, .unset, .unset] [(.ref b1)])) _
    refine XS.iconst X1.here hx rfl (hb hby at_7) ?_
    show Steps p.tables e below (T1.setTop (mkF m 8 #[.val (.int p0), .val (.int p1), .val (.int p2), .val (.int p3), .val (.ref b1), .unset, .unset, .unset, .unset, .unset, .unset, .unset] [(.int (0 : Int32)), (.ref b1)])) _
    refine XS.iconst X1.here hx rfl (hb hby at_8) ?_
    show Steps p.tables e below (T1.setTop (mkF m 9 #[.val (.int p0), .val (.int p1), .val (.int p2), .val (.int p3), .val (.ref b1), .unset, .unset, .unset, .unset, .unset, .unset, .unset] [(.int (0 : Int32)), (.int (0 : Int32)), (.ref b1)])) _
    refine st5 _ ?_
    show Steps p.tables e below (T5.setTop (mkF m 10 #[.val (.int p0), .val (.int p1), .val (.int p2), .val (.int p3), .val (.ref b1), .unset, .unset, .unset, .unset, .unset, .unset, .unset] [])) _
    refine XS.aload X5.here hx rfl (hb hby at_10) rfl rfl ?_
    show Steps p.tables e below (T5.setTop (mkF m 12 #[.val (.int p0), .val (.int p1), .val (.int p2), .val (.int p3), .val (.ref b1), .unset, .unset, .unset, .unset, .unset, .unset, .unset] [(.ref b1)])) _
    refine XS.iconst X5.here hx rfl (hb hby at_12) ?_
    show Steps p.tables e below (T5.setTop (mkF m 13 #[.val (.int p0), .val (.int p1), .val (.int p2), .val (.int p3), .val (.ref b1), .unset, .unset, .unset, .unset, .unset, .unset, .unset] [(.int (1 : Int32)), (.ref b1)])) _
    refine XS.iconst X5.here hx rfl (hb hby at_13) ?_
    show Steps p.tables e below (T5.setTop (mkF m 14 #[.val (.int p0), .val (.int p1), .val (.int p2), .val (.int p3), .val (.ref b1), .unset, .unset, .unset, .unset, .unset, .unset, .unset] [(.int (0 : Int32)), (.int (1 : Int32)), (.ref b1)])) _
    refine st13 _ ?_
    show Steps p.tables e below (T13.setTop (mkF m 15 #[.val (.int p0), .val (.int p1), .val (.int p2), .val (.int p3), .val (.ref b1), .unset, .unset, .unset, .unset, .unset, .unset, .unset] [])) _
    refine XS.aload X13.here hx rfl (hb hby at_15) rfl rfl ?_
    show Steps p.tables e below (T13.setTop (mkF m 17 #[.val (.int p0), .val (.int p1), .val (.int p2), .val (.int p3), .val (.ref b1), .unset, .unset, .unset, .unset, .unset, .unset, .unset] [(.ref b1)])) _
    refine XS.iconst X13.here hx rfl (hb hby at_17) ?_
    show Steps p.tables e below (T13.setTop (mkF m 18 #[.val (.int p0), .val (.int p1), .val (.int p2), .val (.int p3), .val (.ref b1), .unset, .unset, .unset, .unset, .unset, .unset, .unset] [(.int (2 : Int32)), (.ref b1)])) _
    refine XS.iloadN X13.here hx rfl (hb hby at_18) rfl ?_
    show Steps p.tables e below (T13.setTop (mkF m 19 #[.val (.int p0), .val (.int p1), .val (.int p2), .val (.int p3), .val (.ref b1), .unset, .unset, .unset, .unset, .unset, .unset, .unset] [(.int p2), (.int (2 : Int32)), (.ref b1)])) _
    refine XS.iconst X13.here hx rfl (hb hby at_19) ?_
    show Steps p.tables e below (T13.setTop (mkF m 20 #[.val (.int p0), .val (.int p1), .val (.int p2), .val (.int p3), .val (.ref b1), .unset, .unset, .unset, .unset, .unset, .unset, .unset] [(.int (1 : Int32)), (.int p2), (.int (2 : Int32)), (.ref b1)])) _
    refine XS.iand X13.here hx rfl (hb hby at_20) rfl ?_
    exact kt
  obtain ⟨cl21, Ar21, S21, H21⟩ := id f19
  have hin21 : ¬ ((2 : Int32) < 0 ∨ cl21.slots.size ≤ ((2 : Int32)).toNatClampNeg) := own_inb S21 (by decide) (by decide)
  obtain ⟨T22, h22, X22, e22, W22, st22⟩ := stI X13 hx hZ e13 Ar21 (j := (2 : Int32)) hin21 (g := (mkF m 21 #[.val (.int p0), .val (.int p1), .val (.int p2), .val (.int p3), .val (.ref b1), .unset, .unset, .unset, .unset, .unset, .unset, .unset] [(.int (own_q2 p2)), (.int (2 : Int32)), (.ref b1)])) rfl rfl (hb hby at_21)
  have f23 := f14.wr W22
  have k25 := k16.wr W22 (Or.inr sz_b1)
  have nf26 := Fr.snoc X22 nf17 gn_b1
  have f27 := f19.set W22
  have f28 : own_A Z h22 b1 5 (own_v5 (0 : Int32) (0 : Int32) (own_q2 p2) (0 : Int32) (0 : Int32)) := f27.congr (fun j hj => by rcases j with _ | _ | _ | _ | _ | j <;> first | rfl | (simp [own_upd]; done) | omega)
  have pre29 : ∀ t, Steps p.tables e below (T22.setTop (mkF m 32 #[.val (.int p0), .val (.int p1), .val (.int p2), .val (.int p3), .val (.ref b1), .unset, .unset, .unset, .unset, .unset, .unset, .unset] [(.int ((((p2.toUInt32 >>> ((1 : Int32) &&& 31).toUInt32).toInt32) &&& (3 : Int32)) % (3 : Int32))), (.int (3 : Int32)), (.ref b1)])) t → Steps p.tables e below (s₁.setTop (entryFrame m #[(.int p0), (.int p1), (.int p2), (.int p3)] maxLocals)) t := by
    intro t kt
    refine pre20 t ?_
    show Steps p.tables e below (T13.setTop (mkF m 21 #[.val (.int p0), .val (.int p1), .val (.int p2), .val (.int p3), .val (.ref b1), .unset, .unset, .unset, .unset, .unset, .unset, .unset] [(.int (own_q2 p2)), (.int (2 : Int32)), (.ref b1)])) _
    show Steps p.tables e below (T13.setTop (mkF m 21 #[.val (.int p0), .val (.int p1), .val (.int p2), .val (.int p3), .val (.ref b1), .unset, .unset, .unset, .unset, .unset, .unset, .unset] [(.int (own_q2 p2)), (.int (2 : Int32)), (.ref b1)])) _
    refine st22 _ ?_
    show Steps p.tables e below (T22.setTop (mkF m 22 #[.val (.int p0), .val (.int p1), .val (.int p2), .val (.int p3), .val (.ref b1), .unset, .unset, .unset, .unset, .unset, .unset, .unset] [])) _
    refine XS.aload X22.here hx rfl (hb hby at_22) rfl rfl ?_
    show Steps p.tables e below (T22.setTop (mkF m 24 #[.val (.int p0), .val (.int p1), .val (.int p2), .val (.int p3), .val (.ref b1), .unset, .unset, .unset, .unset, .unset, .unset, .unset] [(.ref b1)])) _
    refine XS.iconst X22.here hx rfl (hb hby at_24) ?_
    show Steps p.tables e below (T22.setTop (mkF m 25 #[.val (.int p0), .val (.int p1), .val (.int p2), .val (.int p3), .val (.ref b1), .unset, .unset, .unset, .unset, .unset, .unset, .unset] [(.int (3 : Int32)), (.ref b1)])) _
    refine XS.iloadN X22.here hx rfl (hb hby at_25) rfl ?_
    show Steps p.tables e below (T22.setTop (mkF m 26 #[.val (.int p0), .val (.int p1), .val (.int p2), .val (.int p3), .val (.ref b1), .unset, .unset, .unset, .unset, .unset, .unset, .unset] [(.int p2), (.int (3 : Int32)), (.ref b1)])) _
    refine XS.iconst X22.here hx rfl (hb hby at_26) ?_
    show Steps p.tables e below (T22.setTop (mkF m 27 #[.val (.int p0), .val (.int p1), .val (.int p2), .val (.int p3), .val (.ref b1), .unset, .unset, .unset, .unset, .unset, .unset, .unset] [(.int (1 : Int32)), (.int p2), (.int (3 : Int32)), (.ref b1)])) _
    refine XS.iushr X22.here hx rfl (hb hby at_27) rfl ?_
    show Steps p.tables e below (T22.setTop (mkF m 28 #[.val (.int p0), .val (.int p1), .val (.int p2), .val (.int p3), .val (.ref b1), .unset, .unset, .unset, .unset, .unset, .unset, .unset] [(.int ((p2.toUInt32 >>> ((1 : Int32) &&& 31).toUInt32).toInt32)), (.int (3 : Int32)), (.ref b1)])) _
    refine XS.iconst X22.here hx rfl (hb hby at_28) ?_
    show Steps p.tables e below (T22.setTop (mkF m 29 #[.val (.int p0), .val (.int p1), .val (.int p2), .val (.int p3), .val (.ref b1), .unset, .unset, .unset, .unset, .unset, .unset, .unset] [(.int (3 : Int32)), (.int ((p2.toUInt32 >>> ((1 : Int32) &&& 31).toUInt32).toInt32)), (.int (3 : Int32)), (.ref b1)])) _
    refine XS.iand X22.here hx rfl (hb hby at_29) rfl ?_
    show Steps p.tables e below (T22.setTop (mkF m 30 #[.val (.int p0), .val (.int p1), .val (.int p2), .val (.int p3), .val (.ref b1), .unset, .unset, .unset, .unset, .unset, .unset, .unset] [(.int (((p2.toUInt32 >>> ((1 : Int32) &&& 31).toUInt32).toInt32) &&& (3 : Int32))), (.int (3 : Int32)), (.ref b1)])) _
    refine XS.iconst X22.here hx rfl (hb hby at_30) ?_
    show Steps p.tables e below (T22.setTop (mkF m 31 #[.val (.int p0), .val (.int p1), .val (.int p2), .val (.int p3), .val (.ref b1), .unset, .unset, .unset, .unset, .unset, .unset, .unset] [(.int (3 : Int32)), (.int (((p2.toUInt32 >>> ((1 : Int32) &&& 31).toUInt32).toInt32) &&& (3 : Int32))), (.int (3 : Int32)), (.ref b1)])) _
    refine iremM X22 hx rfl (hb hby at_31) rfl (by decide) ?_
    exact kt
  obtain ⟨cl30, Ar30, S30, H30⟩ := id f28
  have hin30 : ¬ ((3 : Int32) < 0 ∨ cl30.slots.size ≤ ((3 : Int32)).toNatClampNeg) := own_inb S30 (by decide) (by decide)
  obtain ⟨T31, h31, X31, e31, W31, st31⟩ := stI X22 hx hZ e22 Ar30 (j := (3 : Int32)) hin30 (g := (mkF m 32 #[.val (.int p0), .val (.int p1), .val (.int p2), .val (.int p3), .val (.ref b1), .unset, .unset, .unset, .unset, .unset, .unset, .unset] [(.int (own_q3 p2)), (.int (3 : Int32)), (.ref b1)])) rfl rfl (hb hby at_32)
  have f32 := f23.wr W31
  have k34 := k25.wr W31 (Or.inr sz_b1)
  have nf35 := Fr.snoc X31 nf26 gn_b1
  have f36 := f28.set W31
  have f37 : own_A Z h31 b1 5 (own_v5 (0 : Int32) (0 : Int32) (own_q2 p2) (own_q3 p2) (0 : Int32)) := f36.congr (fun j hj => by rcases j with _ | _ | _ | _ | _ | j <;> first | rfl | (simp [own_upd]; done) | omega)
  have pre38 : ∀ t, Steps p.tables e below (T31.setTop (mkF m 41 #[.val (.int p0), .val (.int p1), .val (.int p2), .val (.int p3), .val (.ref b1), .unset, .unset, .unset, .unset, .unset, .unset, .unset] [(.int (((p2.toUInt32 >>> ((3 : Int32) &&& 31).toUInt32).toInt32) &&& (3 : Int32))), (.int (4 : Int32)), (.ref b1)])) t → Steps p.tables e below (s₁.setTop (entryFrame m #[(.int p0), (.int p1), (.int p2), (.int p3)] maxLocals)) t := by
    intro t kt
    refine pre29 t ?_
    show Steps p.tables e below (T22.setTop (mkF m 32 #[.val (.int p0), .val (.int p1), .val (.int p2), .val (.int p3), .val (.ref b1), .unset, .unset, .unset, .unset, .unset, .unset, .unset] [(.int (own_q3 p2)), (.int (3 : Int32)), (.ref b1)])) _
    show Steps p.tables e below (T22.setTop (mkF m 32 #[.val (.int p0), .val (.int p1), .val (.int p2), .val (.int p3), .val (.ref b1), .unset, .unset, .unset, .unset, .unset, .unset, .unset] [(.int (own_q3 p2)), (.int (3 : Int32)), (.ref b1)])) _
    refine st31 _ ?_
    show Steps p.tables e below (T31.setTop (mkF m 33 #[.val (.int p0), .val (.int p1), .val (.int p2), .val (.int p3), .val (.ref b1), .unset, .unset, .unset, .unset, .unset, .unset, .unset] [])) _
    refine XS.aload X31.here hx rfl (hb hby at_33) rfl rfl ?_
    show Steps p.tables e below (T31.setTop (mkF m 35 #[.val (.int p0), .val (.int p1), .val (.int p2), .val (.int p3), .val (.ref b1), .unset, .unset, .unset, .unset, .unset, .unset, .unset] [(.ref b1)])) _
    refine XS.iconst X31.here hx rfl (hb hby at_35) ?_
    show Steps p.tables e below (T31.setTop (mkF m 36 #[.val (.int p0), .val (.int p1), .val (.int p2), .val (.int p3), .val (.ref b1), .unset, .unset, .unset, .unset, .unset, .unset, .unset] [(.int (4 : Int32)), (.ref b1)])) _
    refine XS.iloadN X31.here hx rfl (hb hby at_36) rfl ?_
    show Steps p.tables e below (T31.setTop (mkF m 37 #[.val (.int p0), .val (.int p1), .val (.int p2), .val (.int p3), .val (.ref b1), .unset, .unset, .unset, .unset, .unset, .unset, .unset] [(.int p2), (.int (4 : Int32)), (.ref b1)])) _
    refine XS.iconst X31.here hx rfl (hb hby at_37) ?_
    show Steps p.tables e below (T31.setTop (mkF m 38 #[.val (.int p0), .val (.int p1), .val (.int p2), .val (.int p3), .val (.ref b1), .unset, .unset, .unset, .unset, .unset, .unset, .unset] [(.int (3 : Int32)), (.int p2), (.int (4 : Int32)), (.ref b1)])) _
    refine XS.iushr X31.here hx rfl (hb hby at_38) rfl ?_
    show Steps p.tables e below (T31.setTop (mkF m 39 #[.val (.int p0), .val (.int p1), .val (.int p2), .val (.int p3), .val (.ref b1), .unset, .unset, .unset, .unset, .unset, .unset, .unset] [(.int ((p2.toUInt32 >>> ((3 : Int32) &&& 31).toUInt32).toInt32)), (.int (4 : Int32)), (.ref b1)])) _
    refine XS.iconst X31.here hx rfl (hb hby at_39) ?_
    show Steps p.tables e below (T31.setTop (mkF m 40 #[.val (.int p0), .val (.int p1), .val (.int p2), .val (.int p3), .val (.ref b1), .unset, .unset, .unset, .unset, .unset, .unset, .unset] [(.int (3 : Int32)), (.int ((p2.toUInt32 >>> ((3 : Int32) &&& 31).toUInt32).toInt32)), (.int (4 : Int32)), (.ref b1)])) _
    refine XS.iand X31.here hx rfl (hb hby at_40) rfl ?_
    exact kt
  obtain ⟨cl39, Ar39, S39, H39⟩ := id f37
  have hin39 : ¬ ((4 : Int32) < 0 ∨ cl39.slots.size ≤ ((4 : Int32)).toNatClampNeg) := own_inb S39 (by decide) (by decide)
  obtain ⟨T40, h40, X40, e40, W40, st40⟩ := stI X31 hx hZ e31 Ar39 (j := (4 : Int32)) hin39 (g := (mkF m 41 #[.val (.int p0), .val (.int p1), .val (.int p2), .val (.int p3), .val (.ref b1), .unset, .unset, .unset, .unset, .unset, .unset, .unset] [(.int (own_q4 p2)), (.int (4 : Int32)), (.ref b1)])) rfl rfl (hb hby at_41)
  have f41 := f32.wr W40
  have k43 := k34.wr W40 (Or.inr sz_b1)
  have nf44 := Fr.snoc X40 nf35 gn_b1
  have f45 := f37.set W40
  have f46 : own_A Z h40 b1 5 (own_v5 (0 : Int32) (0 : Int32) (own_q2 p2) (own_q3 p2) (own_q4 p2)) := f45.congr (fun j hj => by rcases j with _ | _ | _ | _ | _ | j <;> first | rfl | (simp [own_upd]; done) | omega)
  obtain ⟨T47, h47, k47, X47, e47, E47, A47, I47, st47⟩ := newPE X40 hx hZ (hw _ (List.mem_of_getElem? (i := 0) rfl)) e40 (g := (mkF m 43 #[.val (.int p0), .val (.int p1), .val (.int p2), .val (.int p3), .val (.ref b1), .unset, .unset, .unset, .unset, .unset, .unset, .unset] [(.int (5 : Int32))])) rfl (hb hby at_43) rfl (by decide) (cap := 5) (by decide) (by decide) (by decide) (by decide) (ad := "[I") rfl
  obtain ⟨b47, g47⟩ : ∃ z, z = h40.size := ⟨_, rfl⟩
  rw [← g47] at A47 I47 st47
  have sz_b47 : h0.size ≤ b47 := Nat.le_trans k43.1 (Nat.le_of_eq g47.symm)
  have gn_b47 : n0 ≤ b47 := Nat.le_trans Z0 sz_b47
  have ne_b1_b47 : b1 ≠ b47 := Nat.ne_of_lt (Nat.lt_of_lt_of_le f46.lt (Nat.le_of_eq g47.symm))
  have f48 := f41.ext E47
  have f49 := f46.ext E47
  have k50 := k43.ext E47
  have f51 : own_A Z h47 b47 5 (own_v5 (0 : Int32) (0 : Int32) (0 : Int32) (0 : Int32) (0 : Int32)) := (own_A.new A47 rfl).congr (fun j hj => by rcases j with _ | _ | _ | _ | _ | j <;> first | rfl | (simp [own_upd]; done) | omega)
  obtain ⟨cl52, Ar52, S52, H52⟩ := id f51
  have hin52 : ¬ ((0 : Int32) < 0 ∨ cl52.slots.size ≤ ((0 : Int32)).toNatClampNeg) := own_inb S52 (by decide) (by decide)
  obtain ⟨T53, h53, X53, e53, W53, st53⟩ := stI X47 hx hZ e47 Ar52 (j := (0 : Int32)) hin52 (g := (mkF m 51 #[.val (.int p0), .val (.int p1), .val (.int p2), .val (.int p3), .val (.ref b1), .val (.ref b47), .unset, .unset, .unset, .unset, .unset, .unset] [(.int (0 : Int32)), (.int (0 : Int32)), (.ref b47)])) rfl rfl (hb hby at_51)
  have f54 := f48.wr W53
  have f55 := f49.other W53 ne_b1_b47
  have f56 := I47.wr W53
  have k58 := k50.wr W53 (Or.inr sz_b47)
  have nf59 := Fr.snoc X53 nf44 gn_b47
  have f60 := f51.set W53
  have f61 : own_A Z h53 b47 5 (own_v5 (0 : Int32) (0 : Int32) (0 : Int32) (0 : Int32) (0 : Int32)) := f60.congr (fun j hj => by rcases j with _ | _ | _ | _ | _ | j <;> first | rfl | (simp [own_upd]; done) | omega)
  have pre62 : ∀ t, Steps p.tables e below (T53.setTop (mkF m 60 #[.val (.int p0), .val (.int p1), .val (.int p2), .val (.int p3), .val (.ref b1), .val (.ref b47), .unset, .unset, .unset, .unset, .unset, .unset] [(.int ((1 : Int32) + (p3 &&& (3 : Int32)))), (.int (1 : Int32)), (.ref b47)])) t → Steps p.tables e below (s₁.setTop (entryFrame m #[(.int p0), (.int p1), (.int p2), (.int p3)] maxLocals)) t := by
    intro t kt
    refine pre38 t ?_
    show Steps p.tables e below (T31.setTop (mkF m 41 #[.val (.int p0), .val (.int p1), .val (.int p2), .val (.int p3), .val (.ref b1), .unset, .unset, .unset, .unset, .unset, .unset, .unset] [(.int (own_q4 p2)), (.int (4 : Int32)), (.ref b1)])) _
    show Steps p.tables e below (T31.setTop (mkF m 41 #[.val (.int p0), .val (.int p1), .val (.int p2), .val (.int p3), .val (.ref b1), .unset, .unset, .unset, .unset, .unset, .unset, .unset] [(.int (own_q4 p2)), (.int (4 : Int32)), (.ref b1)])) _
    refine st40 _ ?_
    show Steps p.tables e below (T40.setTop (mkF m 42 #[.val (.int p0), .val (.int p1), .val (.int p2), .val (.int p3), .val (.ref b1), .unset, .unset, .unset, .unset, .unset, .unset, .unset] [])) _
    refine XS.iconst X40.here hx rfl (hb hby at_42) ?_
    show Steps p.tables e below (T40.setTop (mkF m 43 #[.val (.int p0), .val (.int p1), .val (.int p2), .val (.int p3), .val (.ref b1), .unset, .unset, .unset, .unset, .unset, .unset, .unset] [(.int (5 : Int32))])) _
    refine st47 _ ?_
    show Steps p.tables e below (T47.setTop (mkF m 45 #[.val (.int p0), .val (.int p1), .val (.int p2), .val (.int p3), .val (.ref b1), .unset, .unset, .unset, .unset, .unset, .unset, .unset] [(.ref b47)])) _
    refine XS.astore X47.here hx rfl (hb hby at_45) rfl rfl (l' := #[.val (.int p0), .val (.int p1), .val (.int p2), .val (.int p3), .val (.ref b1), .val (.ref b47), .unset, .unset, .unset, .unset, .unset, .unset]) rfl ?_
    show Steps p.tables e below (T47.setTop (mkF m 47 #[.val (.int p0), .val (.int p1), .val (.int p2), .val (.int p3), .val (.ref b1), .val (.ref b47), .unset, .unset, .unset, .unset, .unset, .unset] [])) _
    refine XS.aload X47.here hx rfl (hb hby at_47) rfl rfl ?_
    show Steps p.tables e below (T47.setTop (mkF m 49 #[.val (.int p0), .val (.int p1), .val (.int p2), .val (.int p3), .val (.ref b1), .val (.ref b47), .unset, .unset, .unset, .unset, .unset, .unset] [(.ref b47)])) _
    refine XS.iconst X47.here hx rfl (hb hby at_49) ?_
    show Steps p.tables e below (T47.setTop (mkF m 50 #[.val (.int p0), .val (.int p1), .val (.int p2), .val (.int p3), .val (.ref b1), .val (.ref b47), .unset, .unset, .unset, .unset, .unset, .unset] [(.int (0 : Int32)), (.ref b47)])) _
    refine XS.iconst X47.here hx rfl (hb hby at_50) ?_
    show Steps p.tables e below (T47.setTop (mkF m 51 #[.val (.int p0), .val (.int p1), .val (.int p2), .val (.int p3), .val (.ref b1), .val (.ref b47), .unset, .unset, .unset, .unset, .unset, .unset] [(.int (0 : Int32)), (.int (0 : Int32)), (.ref b47)])) _
    refine st53 _ ?_
    show Steps p.tables e below (T53.setTop (mkF m 52 #[.val (.int p0), .val (.int p1), .val (.int p2), .val (.int p3), .val (.ref b1), .val (.ref b47), .unset, .unset, .unset, .unset, .unset, .unset] [])) _
    refine XS.aload X53.here hx rfl (hb hby at_52) rfl rfl ?_
    show Steps p.tables e below (T53.setTop (mkF m 54 #[.val (.int p0), .val (.int p1), .val (.int p2), .val (.int p3), .val (.ref b1), .val (.ref b47), .unset, .unset, .unset, .unset, .unset, .unset] [(.ref b47)])) _
    refine XS.iconst X53.here hx rfl (hb hby at_54) ?_
    show Steps p.tables e below (T53.setTop (mkF m 55 #[.val (.int p0), .val (.int p1), .val (.int p2), .val (.int p3), .val (.ref b1), .val (.ref b47), .unset, .unset, .unset, .unset, .unset, .unset] [(.int (1 : Int32)), (.ref b47)])) _
    refine XS.iconst X53.here hx rfl (hb hby at_55) ?_
    show Steps p.tables e below (T53.setTop (mkF m 56 #[.val (.int p0), .val (.int p1), .val (.int p2), .val (.int p3), .val (.ref b1), .val (.ref b47), .unset, .unset, .unset, .unset, .unset, .unset] [(.int (1 : Int32)), (.int (1 : Int32)), (.ref b47)])) _
    refine XS.iloadN X53.here hx rfl (hb hby at_56) rfl ?_
    show Steps p.tables e below (T53.setTop (mkF m 57 #[.val (.int p0), .val (.int p1), .val (.int p2), .val (.int p3), .val (.ref b1), .val (.ref b47), .unset, .unset, .unset, .unset, .unset, .unset] [(.int p3), (.int (1 : Int32)), (.int (1 : Int32)), (.ref b47)])) _
    refine XS.iconst X53.here hx rfl (hb hby at_57) ?_
    show Steps p.tables e below (T53.setTop (mkF m 58 #[.val (.int p0), .val (.int p1), .val (.int p2), .val (.int p3), .val (.ref b1), .val (.ref b47), .unset, .unset, .unset, .unset, .unset, .unset] [(.int (3 : Int32)), (.int p3), (.int (1 : Int32)), (.int (1 : Int32)), (.ref b47)])) _
    refine XS.iand X53.here hx rfl (hb hby at_58) rfl ?_
    show Steps p.tables e below (T53.setTop (mkF m 59 #[.val (.int p0), .val (.int p1), .val (.int p2), .val (.int p3), .val (.ref b1), .val (.ref b47), .unset, .unset, .unset, .unset, .unset, .unset] [(.int (p3 &&& (3 : Int32))), (.int (1 : Int32)), (.int (1 : Int32)), (.ref b47)])) _
    refine XS.iadd X53.here hx rfl (hb hby at_59) rfl ?_
    exact kt
  obtain ⟨cl63, Ar63, S63, H63⟩ := id f61
  have hin63 : ¬ ((1 : Int32) < 0 ∨ cl63.slots.size ≤ ((1 : Int32)).toNatClampNeg) := own_inb S63 (by decide) (by decide)
  obtain ⟨T64, h64, X64, e64, W64, st64⟩ := stI X53 hx hZ e53 Ar63 (j := (1 : Int32)) hin63 (g := (mkF m 60 #[.val (.int p0), .val (.int p1), .val (.int p2), .val (.int p3), .val (.ref b1), .val (.ref b47), .unset, .unset, .unset, .unset, .unset, .unset] [(.int (own_s1 p3)), (.int (1 : Int32)), (.ref b47)])) rfl rfl (hb hby at_60)
  have f65 := f54.wr W64
  have f66 := f55.other W64 ne_b1_b47
  have f67 := f56.wr W64
  have k69 := k58.wr W64 (Or.inr sz_b47)
  have nf70 := Fr.snoc X64 nf59 gn_b47
  have f71 := f61.set W64
  have f72 : own_A Z h64 b47 5 (own_v5 (0 : Int32) (own_s1 p3) (0 : Int32) (0 : Int32) (0 : Int32)) := f71.congr (fun j hj => by rcases j with _ | _ | _ | _ | _ | j <;> first | rfl | (simp [own_upd]; done) | omega)
  obtain ⟨cl73, Ar73, S73, H73⟩ := id f66
  have hin73 : ¬ ((2 : Int32) < 0 ∨ cl73.slots.size ≤ ((2 : Int32)).toNatClampNeg) := own_inb S73 (by decide) (by decide)
  have hat73 : cl73.slots[((2 : Int32)).toNatClampNeg]? = some (.int (own_q2 p2)) := H73 _ (by decide)
  obtain ⟨cl74, Ar74, S74, H74⟩ := id f72
  have hin74 : ¬ ((own_q2 p2) < 0 ∨ cl74.slots.size ≤ ((own_q2 p2)).toNatClampNeg) := own_inb S74 (own_nn (own_q2r p2).1) (own_tn (Int.lt_of_le_of_lt (own_q2r p2).2 (by decide)) (by decide))
  have hat74 : cl74.slots[((own_q2 p2)).toNatClampNeg]? = some (.int ((own_v5 (0 : Int32) (own_s1 p3) (0 : Int32) (0 : Int32) (0 : Int32)) ((own_q2 p2)).toNatClampNeg)) := H74 _ (own_tn (Int.lt_of_le_of_lt (own_q2r p2).2 (by decide)) (by decide))
  have pre75 : ∀ t, Steps p.tables e below (T64.setTop (mkF m 79 #[.val (.int p0), .val (.int p1), .val (.int p2), .val (.int p3), .val (.ref b1), .val (.ref b47), .unset, .unset, .unset, .unset, .unset, .unset] [(.int ((((own_v5 (0 : Int32) (own_s1 p3) (0 : Int32) (0 : Int32) (0 : Int32)) ((own_q2 p2)).toNatClampNeg) + (1 : Int32)) + (((p3.toUInt32 >>> ((2 : Int32) &&& 31).toUInt32).toInt32) &&& (3 : Int32)))), (.int (2 : Int32)), (.ref b47)])) t → Steps p.tables e below (s₁.setTop (entryFrame m #[(.int p0), (.int p1), (.int p2), (.int p3)] maxLocals)) t := by
    intro t kt
    refine pre62 t ?_
    show Steps p.tables e below (T53.setTop (mkF m 60 #[.val (.int p0), .val (.int p1), .val (.int p2), .val (.int p3), .val (.ref b1), .val (.ref b47), .unset, .unset, .unset, .unset, .unset, .unset] [(.int (own_s1 p3)), (.int (1 : Int32)), (.ref b47)])) _
    show Steps p.tables e below (T53.setTop (mkF m 60 #[.val (.int p0), .val (.int p1), .val (.int p2), .val (.int p3), .val (.ref b1), .val (.ref b47), .unset, .unset, .unset, .unset, .unset, .unset] [(.int (own_s1 p3)), (.int (1 : Int32)), (.ref b47)])) _
    refine st64 _ ?_
    show Steps p.tables e below (T64.setTop (mkF m 61 #[.val (.int p0), .val (.int p1), .val (.int p2), .val (.int p3), .val (.ref b1), .val (.ref b47), .unset, .unset, .unset, .unset, .unset, .unset] [])) _
    refine XS.aload X64.here hx rfl (hb hby at_61) rfl rfl ?_
    show Steps p.tables e below (T64.setTop (mkF m 63 #[.val (.int p0), .val (.int p1), .val (.int p2), .val (.int p3), .val (.ref b1), .val (.ref b47), .unset, .unset, .unset, .unset, .unset, .unset] [(.ref b47)])) _
    refine XS.iconst X64.here hx rfl (hb hby at_63) ?_
    show Steps p.tables e below (T64.setTop (mkF m 64 #[.val (.int p0), .val (.int p1), .val (.int p2), .val (.int p3), .val (.ref b1), .val (.ref b47), .unset, .unset, .unset, .unset, .unset, .unset] [(.int (2 : Int32)), (.ref b47)])) _
    refine XS.aload X64.here hx rfl (hb hby at_64) rfl rfl ?_
    show Steps p.tables e below (T64.setTop (mkF m 66 #[.val (.int p0), .val (.int p1), .val (.int p2), .val (.int p3), .val (.ref b1), .val (.ref b47), .unset, .unset, .unset, .unset, .unset, .unset] [(.ref b47), (.int (2 : Int32)), (.ref b47)])) _
    refine XS.aload X64.here hx rfl (hb hby at_66) rfl rfl ?_
    show Steps p.tables e below (T64.setTop (mkF m 68 #[.val (.int p0), .val (.int p1), .val (.int p2), .val (.int p3), .val (.ref b1), .val (.ref b47), .unset, .unset, .unset, .unset, .unset, .unset] [(.ref b1), (.ref b47), (.int (2 : Int32)), (.ref b47)])) _
    refine XS.iconst X64.here hx rfl (hb hby at_68) ?_
    show Steps p.tables e below (T64.setTop (mkF m 69 #[.val (.int p0), .val (.int p1), .val (.int p2), .val (.int p3), .val (.ref b1), .val (.ref b47), .unset, .unset, .unset, .unset, .unset, .unset] [(.int (2 : Int32)), (.ref b1), (.ref b47), (.int (2 : Int32)), (.ref b47)])) _
    refine X64.iaload hx (j := (2 : Int32)) (v := (.int (own_q2 p2))) (by rw [e64]; exact Ar73.1) (State.isArrayOf_alike hZ.alike Ar73.2.1) Ar73.2.2 hin73 hat73 (g := (mkF m 69 #[.val (.int p0), .val (.int p1), .val (.int p2), .val (.int p3), .val (.ref b1), .val (.ref b47), .unset, .unset, .unset, .unset, .unset, .unset] [(.int (2 : Int32)), (.ref b1), (.ref b47), (.int (2 : Int32)), (.ref b47)])) rfl rfl (hb hby at_69) _ ?_
    show Steps p.tables e below (T64.setTop (mkF m 70 #[.val (.int p0), .val (.int p1), .val (.int p2), .val (.int p3), .val (.ref b1), .val (.ref b47), .unset, .unset, .unset, .unset, .unset, .unset] [(.int (own_q2 p2)), (.ref b47), (.int (2 : Int32)), (.ref b47)])) _
    refine X64.iaload hx (j := (own_q2 p2)) (v := (.int ((own_v5 (0 : Int32) (own_s1 p3) (0 : Int32) (0 : Int32) (0 : Int32)) ((own_q2 p2)).toNatClampNeg))) (by rw [e64]; exact Ar74.1) (State.isArrayOf_alike hZ.alike Ar74.2.1) Ar74.2.2 hin74 hat74 (g := (mkF m 70 #[.val (.int p0), .val (.int p1), .val (.int p2), .val (.int p3), .val (.ref b1), .val (.ref b47), .unset, .unset, .unset, .unset, .unset, .unset] [(.int (own_q2 p2)), (.ref b47), (.int (2 : Int32)), (.ref b47)])) rfl rfl (hb hby at_70) _ ?_
    show Steps p.tables e below (T64.setTop (mkF m 71 #[.val (.int p0), .val (.int p1), .val (.int p2), .val (.int p3), .val (.ref b1), .val (.ref b47), .unset, .unset, .unset, .unset, .unset, .unset] [(.int ((own_v5 (0 : Int32) (own_s1 p3) (0 : Int32) (0 : Int32) (0 : Int32)) ((own_q2 p2)).toNatClampNeg)), (.int (2 : Int32)), (.ref b47)])) _
    refine XS.iconst X64.here hx rfl (hb hby at_71) ?_
    show Steps p.tables e below (T64.setTop (mkF m 72 #[.val (.int p0), .val (.int p1), .val (.int p2), .val (.int p3), .val (.ref b1), .val (.ref b47), .unset, .unset, .unset, .unset, .unset, .unset] [(.int (1 : Int32)), (.int ((own_v5 (0 : Int32) (own_s1 p3) (0 : Int32) (0 : Int32) (0 : Int32)) ((own_q2 p2)).toNatClampNeg)), (.int (2 : Int32)), (.ref b47)])) _
    refine XS.iadd X64.here hx rfl (hb hby at_72) rfl ?_
    show Steps p.tables e below (T64.setTop (mkF m 73 #[.val (.int p0), .val (.int p1), .val (.int p2), .val (.int p3), .val (.ref b1), .val (.ref b47), .unset, .unset, .unset, .unset, .unset, .unset] [(.int (((own_v5 (0 : Int32) (own_s1 p3) (0 : Int32) (0 : Int32) (0 : Int32)) ((own_q2 p2)).toNatClampNeg) + (1 : Int32))), (.int (2 : Int32)), (.ref b47)])) _
    refine XS.iloadN X64.here hx rfl (hb hby at_73) rfl ?_
    show Steps p.tables e below (T64.setTop (mkF m 74 #[.val (.int p0), .val (.int p1), .val (.int p2), .val (.int p3), .val (.ref b1), .val (.ref b47), .unset, .unset, .unset, .unset, .unset, .unset] [(.int p3), (.int (((own_v5 (0 : Int32) (own_s1 p3) (0 : Int32) (0 : Int32) (0 : Int32)) ((own_q2 p2)).toNatClampNeg) + (1 : Int32))), (.int (2 : Int32)), (.ref b47)])) _
    refine XS.iconst X64.here hx rfl (hb hby at_74) ?_
    show Steps p.tables e below (T64.setTop (mkF m 75 #[.val (.int p0), .val (.int p1), .val (.int p2), .val (.int p3), .val (.ref b1), .val (.ref b47), .unset, .unset, .unset, .unset, .unset, .unset] [(.int (2 : Int32)), (.int p3), (.int (((own_v5 (0 : Int32) (own_s1 p3) (0 : Int32) (0 : Int32) (0 : Int32)) ((own_q2 p2)).toNatClampNeg) + (1 : Int32))), (.int (2 : Int32)), (.ref b47)])) _
    refine XS.iushr X64.here hx rfl (hb hby at_75) rfl ?_
    show Steps p.tables e below (T64.setTop (mkF m 76 #[.val (.int p0), .val (.int p1), .val (.int p2), .val (.int p3), .val (.ref b1), .val (.ref b47), .unset, .unset, .unset, .unset, .unset, .unset] [(.int ((p3.toUInt32 >>> ((2 : Int32) &&& 31).toUInt32).toInt32)), (.int (((own_v5 (0 : Int32) (own_s1 p3) (0 : Int32) (0 : Int32) (0 : Int32)) ((own_q2 p2)).toNatClampNeg) + (1 : Int32))), (.int (2 : Int32)), (.ref b47)])) _
    refine XS.iconst X64.here hx rfl (hb hby at_76) ?_
    show Steps p.tables e below (T64.setTop (mkF m 77 #[.val (.int p0), .val (.int p1), .val (.int p2), .val (.int p3), .val (.ref b1), .val (.ref b47), .unset, .unset, .unset, .unset, .unset, .unset] [(.int (3 : Int32)), (.int ((p3.toUInt32 >>> ((2 : Int32) &&& 31).toUInt32).toInt32)), (.int (((own_v5 (0 : Int32) (own_s1 p3) (0 : Int32) (0 : Int32) (0 : Int32)) ((own_q2 p2)).toNatClampNeg) + (1 : Int32))), (.int (2 : Int32)), (.ref b47)])) _
    refine XS.iand X64.here hx rfl (hb hby at_77) rfl ?_
    show Steps p.tables e below (T64.setTop (mkF m 78 #[.val (.int p0), .val (.int p1), .val (.int p2), .val (.int p3), .val (.ref b1), .val (.ref b47), .unset, .unset, .unset, .unset, .unset, .unset] [(.int (((p3.toUInt32 >>> ((2 : Int32) &&& 31).toUInt32).toInt32) &&& (3 : Int32))), (.int (((own_v5 (0 : Int32) (own_s1 p3) (0 : Int32) (0 : Int32) (0 : Int32)) ((own_q2 p2)).toNatClampNeg) + (1 : Int32))), (.int (2 : Int32)), (.ref b47)])) _
    refine XS.iadd X64.here hx rfl (hb hby at_78) rfl ?_
    exact kt
  obtain ⟨cl76, Ar76, S76, H76⟩ := id f72
  have hin76 : ¬ ((2 : Int32) < 0 ∨ cl76.slots.size ≤ ((2 : Int32)).toNatClampNeg) := own_inb S76 (by decide) (by decide)
  obtain ⟨T77, h77, X77, e77, W77, st77⟩ := stI X64 hx hZ e64 Ar76 (j := (2 : Int32)) hin76 (g := (mkF m 79 #[.val (.int p0), .val (.int p1), .val (.int p2), .val (.int p3), .val (.ref b1), .val (.ref b47), .unset, .unset, .unset, .unset, .unset, .unset] [(.int (own_s2 p2 p3)), (.int (2 : Int32)), (.ref b47)])) rfl rfl (hb hby at_79)
  have f78 := f65.wr W77
  have f79 := f66.other W77 ne_b1_b47
  have f80 := f67.wr W77
  have k82 := k69.wr W77 (Or.inr sz_b47)
  have nf83 := Fr.snoc X77 nf70 gn_b47
  have f84 := f72.set W77
  have f85 : own_A Z h77 b47 5 (own_v5 (0 : Int32) (own_s1 p3) (own_s2 p2 p3) (0 : Int32) (0 : Int32)) := f84.congr (fun j hj => by rcases j with _ | _ | _ | _ | _ | j <;> first | rfl | (simp [own_upd]; done) | omega)
  obtain ⟨cl86, Ar86, S86, H86⟩ := id f79
  have hin86 : ¬ ((3 : Int32) < 0 ∨ cl86.slots.size ≤ ((3 : Int32)).toNatClampNeg) := own_inb S86 (by decide) (by decide)
  have hat86 : cl86.slots[((3 : Int32)).toNatClampNeg]? = some (.int (own_q3 p2)) := H86 _ (by decide)
  obtain ⟨cl87, Ar87, S87, H87⟩ := id f85
  have hin87 : ¬ ((own_q3 p2) < 0 ∨ cl87.slots.size ≤ ((own_q3 p2)).toNatClampNeg) := own_inb S87 (own_nn (own_q3r p2).1) (own_tn (Int.lt_of_le_of_lt (own_q3r p2).2 (by decide)) (by decide))
  have hat87 : cl87.slots[((own_q3 p2)).toNatClampNeg]? = some (.int ((own_v5 (0 : Int32) (own_s1 p3) (own_s2 p2 p3) (0 : Int32) (0 : Int32)) ((own_q3 p2)).toNatClampNeg)) := H87 _ (own_tn (Int.lt_of_le_of_lt (own_q3r p2).2 (by decide)) (by decide))
  have pre88 : ∀ t, Steps p.tables e below (T77.setTop (mkF m 98 #[.val (.int p0), .val (.int p1), .val (.int p2), .val (.int p3), .val (.ref b1), .val (.ref b47), .unset, .unset, .unset, .unset, .unset, .unset] [(.int ((((own_v5 (0 : Int32) (own_s1 p3) (own_s2 p2 p3) (0 : Int32) (0 : Int32)) ((own_q3 p2)).toNatClampNeg) + (1 : Int32)) + (((p3.toUInt32 >>> ((4 : Int32) &&& 31).toUInt32).toInt32) &&& (3 : Int32)))), (.int (3 : Int32)), (.ref b47)])) t → Steps p.tables e below (s₁.setTop (entryFrame m #[(.int p0), (.int p1), (.int p2), (.int p3)] maxLocals)) t := by
    intro t kt
    refine pre75 t ?_
    show Steps p.tables e below (T64.setTop (mkF m 79 #[.val (.int p0), .val (.int p1), .val (.int p2), .val (.int p3), .val (.ref b1), .val (.ref b47), .unset, .unset, .unset, .unset, .unset, .unset] [(.int (own_s2 p2 p3)), (.int (2 : Int32)), (.ref b47)])) _
    show Steps p.tables e below (T64.setTop (mkF m 79 #[.val (.int p0), .val (.int p1), .val (.int p2), .val (.int p3), .val (.ref b1), .val (.ref b47), .unset, .unset, .unset, .unset, .unset, .unset] [(.int (own_s2 p2 p3)), (.int (2 : Int32)), (.ref b47)])) _
    refine st77 _ ?_
    show Steps p.tables e below (T77.setTop (mkF m 80 #[.val (.int p0), .val (.int p1), .val (.int p2), .val (.int p3), .val (.ref b1), .val (.ref b47), .unset, .unset, .unset, .unset, .unset, .unset] [])) _
    refine XS.aload X77.here hx rfl (hb hby at_80) rfl rfl ?_
    show Steps p.tables e below (T77.setTop (mkF m 82 #[.val (.int p0), .val (.int p1), .val (.int p2), .val (.int p3), .val (.ref b1), .val (.ref b47), .unset, .unset, .unset, .unset, .unset, .unset] [(.ref b47)])) _
    refine XS.iconst X77.here hx rfl (hb hby at_82) ?_
    show Steps p.tables e below (T77.setTop (mkF m 83 #[.val (.int p0), .val (.int p1), .val (.int p2), .val (.int p3), .val (.ref b1), .val (.ref b47), .unset, .unset, .unset, .unset, .unset, .unset] [(.int (3 : Int32)), (.ref b47)])) _
    refine XS.aload X77.here hx rfl (hb hby at_83) rfl rfl ?_
    show Steps p.tables e below (T77.setTop (mkF m 85 #[.val (.int p0), .val (.int p1), .val (.int p2), .val (.int p3), .val (.ref b1), .val (.ref b47), .unset, .unset, .unset, .unset, .unset, .unset] [(.ref b47), (.int (3 : Int32)), (.ref b47)])) _
    refine XS.aload X77.here hx rfl (hb hby at_85) rfl rfl ?_
    show Steps p.tables e below (T77.setTop (mkF m 87 #[.val (.int p0), .val (.int p1), .val (.int p2), .val (.int p3), .val (.ref b1), .val (.ref b47), .unset, .unset, .unset, .unset, .unset, .unset] [(.ref b1), (.ref b47), (.int (3 : Int32)), (.ref b47)])) _
    refine XS.iconst X77.here hx rfl (hb hby at_87) ?_
    show Steps p.tables e below (T77.setTop (mkF m 88 #[.val (.int p0), .val (.int p1), .val (.int p2), .val (.int p3), .val (.ref b1), .val (.ref b47), .unset, .unset, .unset, .unset, .unset, .unset] [(.int (3 : Int32)), (.ref b1), (.ref b47), (.int (3 : Int32)), (.ref b47)])) _
    refine X77.iaload hx (j := (3 : Int32)) (v := (.int (own_q3 p2))) (by rw [e77]; exact Ar86.1) (State.isArrayOf_alike hZ.alike Ar86.2.1) Ar86.2.2 hin86 hat86 (g := (mkF m 88 #[.val (.int p0), .val (.int p1), .val (.int p2), .val (.int p3), .val (.ref b1), .val (.ref b47), .unset, .unset, .unset, .unset, .unset, .unset] [(.int (3 : Int32)), (.ref b1), (.ref b47), (.int (3 : Int32)), (.ref b47)])) rfl rfl (hb hby at_88) _ ?_
    show Steps p.tables e below (T77.setTop (mkF m 89 #[.val (.int p0), .val (.int p1), .val (.int p2), .val (.int p3), .val (.ref b1), .val (.ref b47), .unset, .unset, .unset, .unset, .unset, .unset] [(.int (own_q3 p2)), (.ref b47), (.int (3 : Int32)), (.ref b47)])) _
    refine X77.iaload hx (j := (own_q3 p2)) (v := (.int ((own_v5 (0 : Int32) (own_s1 p3) (own_s2 p2 p3) (0 : Int32) (0 : Int32)) ((own_q3 p2)).toNatClampNeg))) (by rw [e77]; exact Ar87.1) (State.isArrayOf_alike hZ.alike Ar87.2.1) Ar87.2.2 hin87 hat87 (g := (mkF m 89 #[.val (.int p0), .val (.int p1), .val (.int p2), .val (.int p3), .val (.ref b1), .val (.ref b47), .unset, .unset, .unset, .unset, .unset, .unset] [(.int (own_q3 p2)), (.ref b47), (.int (3 : Int32)), (.ref b47)])) rfl rfl (hb hby at_89) _ ?_
    show Steps p.tables e below (T77.setTop (mkF m 90 #[.val (.int p0), .val (.int p1), .val (.int p2), .val (.int p3), .val (.ref b1), .val (.ref b47), .unset, .unset, .unset, .unset, .unset, .unset] [(.int ((own_v5 (0 : Int32) (own_s1 p3) (own_s2 p2 p3) (0 : Int32) (0 : Int32)) ((own_q3 p2)).toNatClampNeg)), (.int (3 : Int32)), (.ref b47)])) _
    refine XS.iconst X77.here hx rfl (hb hby at_90) ?_
    show Steps p.tables e below (T77.setTop (mkF m 91 #[.val (.int p0), .val (.int p1), .val (.int p2), .val (.int p3), .val (.ref b1), .val (.ref b47), .unset, .unset, .unset, .unset, .unset, .unset] [(.int (1 : Int32)), (.int ((own_v5 (0 : Int32) (own_s1 p3) (own_s2 p2 p3) (0 : Int32) (0 : Int32)) ((own_q3 p2)).toNatClampNeg)), (.int (3 : Int32)), (.ref b47)])) _
    refine XS.iadd X77.here hx rfl (hb hby at_91) rfl ?_
    show Steps p.tables e below (T77.setTop (mkF m 92 #[.val (.int p0), .val (.int p1), .val (.int p2), .val (.int p3), .val (.ref b1), .val (.ref b47), .unset, .unset, .unset, .unset, .unset, .unset] [(.int (((own_v5 (0 : Int32) (own_s1 p3) (own_s2 p2 p3) (0 : Int32) (0 : Int32)) ((own_q3 p2)).toNatClampNeg) + (1 : Int32))), (.int (3 : Int32)), (.ref b47)])) _
    refine XS.iloadN X77.here hx rfl (hb hby at_92) rfl ?_
    show Steps p.tables e below (T77.setTop (mkF m 93 #[.val (.int p0), .val (.int p1), .val (.int p2), .val (.int p3), .val (.ref b1), .val (.ref b47), .unset, .unset, .unset, .unset, .unset, .unset] [(.int p3), (.int (((own_v5 (0 : Int32) (own_s1 p3) (own_s2 p2 p3) (0 : Int32) (0 : Int32)) ((own_q3 p2)).toNatClampNeg) + (1 : Int32))), (.int (3 : Int32)), (.ref b47)])) _
    refine XS.iconst X77.here hx rfl (hb hby at_93) ?_
    show Steps p.tables e below (T77.setTop (mkF m 94 #[.val (.int p0), .val (.int p1), .val (.int p2), .val (.int p3), .val (.ref b1), .val (.ref b47), .unset, .unset, .unset, .unset, .unset, .unset] [(.int (4 : Int32)), (.int p3), (.int (((own_v5 (0 : Int32) (own_s1 p3) (own_s2 p2 p3) (0 : Int32) (0 : Int32)) ((own_q3 p2)).toNatClampNeg) + (1 : Int32))), (.int (3 : Int32)), (.ref b47)])) _
    refine XS.iushr X77.here hx rfl (hb hby at_94) rfl ?_
    show Steps p.tables e below (T77.setTop (mkF m 95 #[.val (.int p0), .val (.int p1), .val (.int p2), .val (.int p3), .val (.ref b1), .val (.ref b47), .unset, .unset, .unset, .unset, .unset, .unset] [(.int ((p3.toUInt32 >>> ((4 : Int32) &&& 31).toUInt32).toInt32)), (.int (((own_v5 (0 : Int32) (own_s1 p3) (own_s2 p2 p3) (0 : Int32) (0 : Int32)) ((own_q3 p2)).toNatClampNeg) + (1 : Int32))), (.int (3 : Int32)), (.ref b47)])) _
    refine XS.iconst X77.here hx rfl (hb hby at_95) ?_
    show Steps p.tables e below (T77.setTop (mkF m 96 #[.val (.int p0), .val (.int p1), .val (.int p2), .val (.int p3), .val (.ref b1), .val (.ref b47), .unset, .unset, .unset, .unset, .unset, .unset] [(.int (3 : Int32)), (.int ((p3.toUInt32 >>> ((4 : Int32) &&& 31).toUInt32).toInt32)), (.int (((own_v5 (0 : Int32) (own_s1 p3) (own_s2 p2 p3) (0 : Int32) (0 : Int32)) ((own_q3 p2)).toNatClampNeg) + (1 : Int32))), (.int (3 : Int32)), (.ref b47)])) _
    refine XS.iand X77.here hx rfl (hb hby at_96) rfl ?_
    show Steps p.tables e below (T77.setTop (mkF m 97 #[.val (.int p0), .val (.int p1), .val (.int p2), .val (.int p3), .val (.ref b1), .val (.ref b47), .unset, .unset, .unset, .unset, .unset, .unset] [(.int (((p3.toUInt32 >>> ((4 : Int32) &&& 31).toUInt32).toInt32) &&& (3 : Int32))), (.int (((own_v5 (0 : Int32) (own_s1 p3) (own_s2 p2 p3) (0 : Int32) (0 : Int32)) ((own_q3 p2)).toNatClampNeg) + (1 : Int32))), (.int (3 : Int32)), (.ref b47)])) _
    refine XS.iadd X77.here hx rfl (hb hby at_97) rfl ?_
    exact kt
  obtain ⟨cl89, Ar89, S89, H89⟩ := id f85
  have hin89 : ¬ ((3 : Int32) < 0 ∨ cl89.slots.size ≤ ((3 : Int32)).toNatClampNeg) := own_inb S89 (by decide) (by decide)
  obtain ⟨T90, h90, X90, e90, W90, st90⟩ := stI X77 hx hZ e77 Ar89 (j := (3 : Int32)) hin89 (g := (mkF m 98 #[.val (.int p0), .val (.int p1), .val (.int p2), .val (.int p3), .val (.ref b1), .val (.ref b47), .unset, .unset, .unset, .unset, .unset, .unset] [(.int (own_s3 p2 p3)), (.int (3 : Int32)), (.ref b47)])) rfl rfl (hb hby at_98)
  have f91 := f78.wr W90
  have f92 := f79.other W90 ne_b1_b47
  have f93 := f80.wr W90
  have k95 := k82.wr W90 (Or.inr sz_b47)
  have nf96 := Fr.snoc X90 nf83 gn_b47
  have f97 := f85.set W90
  have f98 : own_A Z h90 b47 5 (own_v5 (0 : Int32) (own_s1 p3) (own_s2 p2 p3) (own_s3 p2 p3) (0 : Int32)) := f97.congr (fun j hj => by rcases j with _ | _ | _ | _ | _ | j <;> first | rfl | (simp [own_upd]; done) | omega)
  obtain ⟨cl99, Ar99, S99, H99⟩ := id f92
  have hin99 : ¬ ((4 : Int32) < 0 ∨ cl99.slots.size ≤ ((4 : Int32)).toNatClampNeg) := own_inb S99 (by decide) (by decide)
  have hat99 : cl99.slots[((4 : Int32)).toNatClampNeg]? = some (.int (own_q4 p2)) := H99 _ (by decide)
  obtain ⟨cl100, Ar100, S100, H100⟩ := id f98
  have hin100 : ¬ ((own_q4 p2) < 0 ∨ cl100.slots.size ≤ ((own_q4 p2)).toNatClampNeg) := own_inb S100 (own_nn (own_q4r p2).1) (own_tn (Int.lt_of_le_of_lt (own_q4r p2).2 (by decide)) (by decide))
  have hat100 : cl100.slots[((own_q4 p2)).toNatClampNeg]? = some (.int ((own_v5 (0 : Int32) (own_s1 p3) (own_s2 p2 p3) (own_s3 p2 p3) (0 : Int32)) ((own_q4 p2)).toNatClampNeg)) := H100 _ (own_tn (Int.lt_of_le_of_lt (own_q4r p2).2 (by decide)) (by decide))
  have pre101 : ∀ t, Steps p.tables e below (T90.setTop (mkF m 118 #[.val (.int p0), .val (.int p1), .val (.int p2), .val (.int p3), .val (.ref b1), .val (.ref b47), .unset, .unset, .unset, .unset, .unset, .unset] [(.int ((((own_v5 (0 : Int32) (own_s1 p3) (own_s2 p2 p3) (own_s3 p2 p3) (0 : Int32)) ((own_q4 p2)).toNatClampNeg) + (1 : Int32)) + (((p3.toUInt32 >>> ((6 : Int32) &&& 31).toUInt32).toInt32) &&& (3 : Int32)))), (.int (4 : Int32)), (.ref b47)])) t → Steps p.tables e below (s₁.setTop (entryFrame m #[(.int p0), (.int p1), (.int p2), (.int p3)] maxLocals)) t := by
    intro t kt
    refine pre88 t ?_
    show Steps p.tables e below (T77.setTop (mkF m 98 #[.val (.int p0), .val (.int p1), .val (.int p2), .val (.int p3), .val (.ref b1), .val (.ref b47), .unset, .unset, .unset, .unset, .unset, .unset] [(.int (own_s3 p2 p3)), (.int (3 : Int32)), (.ref b47)])) _
    show Steps p.tables e below (T77.setTop (mkF m 98 #[.val (.int p0), .val (.int p1), .val (.int p2), .val (.int p3), .val (.ref b1), .val (.ref b47), .unset, .unset, .unset, .unset, .unset, .unset] [(.int (own_s3 p2 p3)), (.int (3 : Int32)), (.ref b47)])) _
    refine st90 _ ?_
    show Steps p.tables e below (T90.setTop (mkF m 99 #[.val (.int p0), .val (.int p1), .val (.int p2), .val (.int p3), .val (.ref b1), .val (.ref b47), .unset, .unset, .unset, .unset, .unset, .unset] [])) _
    refine XS.aload X90.here hx rfl (hb hby at_99) rfl rfl ?_
    show Steps p.tables e below (T90.setTop (mkF m 101 #[.val (.int p0), .val (.int p1), .val (.int p2), .val (.int p3), .val (.ref b1), .val (.ref b47), .unset, .unset, .unset, .unset, .unset, .unset] [(.ref b47)])) _
    refine XS.iconst X90.here hx rfl (hb hby at_101) ?_
    show Steps p.tables e below (T90.setTop (mkF m 102 #[.val (.int p0), .val (.int p1), .val (.int p2), .val (.int p3), .val (.ref b1), .val (.ref b47), .unset, .unset, .unset, .unset, .unset, .unset] [(.int (4 : Int32)), (.ref b47)])) _
    refine XS.aload X90.here hx rfl (hb hby at_102) rfl rfl ?_
    show Steps p.tables e below (T90.setTop (mkF m 104 #[.val (.int p0), .val (.int p1), .val (.int p2), .val (.int p3), .val (.ref b1), .val (.ref b47), .unset, .unset, .unset, .unset, .unset, .unset] [(.ref b47), (.int (4 : Int32)), (.ref b47)])) _
    refine XS.aload X90.here hx rfl (hb hby at_104) rfl rfl ?_
    show Steps p.tables e below (T90.setTop (mkF m 106 #[.val (.int p0), .val (.int p1), .val (.int p2), .val (.int p3), .val (.ref b1), .val (.ref b47), .unset, .unset, .unset, .unset, .unset, .unset] [(.ref b1), (.ref b47), (.int (4 : Int32)), (.ref b47)])) _
    refine XS.iconst X90.here hx rfl (hb hby at_106) ?_
    show Steps p.tables e below (T90.setTop (mkF m 107 #[.val (.int p0), .val (.int p1), .val (.int p2), .val (.int p3), .val (.ref b1), .val (.ref b47), .unset, .unset, .unset, .unset, .unset, .unset] [(.int (4 : Int32)), (.ref b1), (.ref b47), (.int (4 : Int32)), (.ref b47)])) _
    refine X90.iaload hx (j := (4 : Int32)) (v := (.int (own_q4 p2))) (by rw [e90]; exact Ar99.1) (State.isArrayOf_alike hZ.alike Ar99.2.1) Ar99.2.2 hin99 hat99 (g := (mkF m 107 #[.val (.int p0), .val (.int p1), .val (.int p2), .val (.int p3), .val (.ref b1), .val (.ref b47), .unset, .unset, .unset, .unset, .unset, .unset] [(.int (4 : Int32)), (.ref b1), (.ref b47), (.int (4 : Int32)), (.ref b47)])) rfl rfl (hb hby at_107) _ ?_
    show Steps p.tables e below (T90.setTop (mkF m 108 #[.val (.int p0), .val (.int p1), .val (.int p2), .val (.int p3), .val (.ref b1), .val (.ref b47), .unset, .unset, .unset, .unset, .unset, .unset] [(.int (own_q4 p2)), (.ref b47), (.int (4 : Int32)), (.ref b47)])) _
    refine X90.iaload hx (j := (own_q4 p2)) (v := (.int ((own_v5 (0 : Int32) (own_s1 p3) (own_s2 p2 p3) (own_s3 p2 p3) (0 : Int32)) ((own_q4 p2)).toNatClampNeg))) (by rw [e90]; exact Ar100.1) (State.isArrayOf_alike hZ.alike Ar100.2.1) Ar100.2.2 hin100 hat100 (g := (mkF m 108 #[.val (.int p0), .val (.int p1), .val (.int p2), .val (.int p3), .val (.ref b1), .val (.ref b47), .unset, .unset, .unset, .unset, .unset, .unset] [(.int (own_q4 p2)), (.ref b47), (.int (4 : Int32)), (.ref b47)])) rfl rfl (hb hby at_108) _ ?_
    show Steps p.tables e below (T90.setTop (mkF m 109 #[.val (.int p0), .val (.int p1), .val (.int p2), .val (.int p3), .val (.ref b1), .val (.ref b47), .unset, .unset, .unset, .unset, .unset, .unset] [(.int ((own_v5 (0 : Int32) (own_s1 p3) (own_s2 p2 p3) (own_s3 p2 p3) (0 : Int32)) ((own_q4 p2)).toNatClampNeg)), (.int (4 : Int32)), (.ref b47)])) _
    refine XS.iconst X90.here hx rfl (hb hby at_109) ?_
    show Steps p.tables e below (T90.setTop (mkF m 110 #[.val (.int p0), .val (.int p1), .val (.int p2), .val (.int p3), .val (.ref b1), .val (.ref b47), .unset, .unset, .unset, .unset, .unset, .unset] [(.int (1 : Int32)), (.int ((own_v5 (0 : Int32) (own_s1 p3) (own_s2 p2 p3) (own_s3 p2 p3) (0 : Int32)) ((own_q4 p2)).toNatClampNeg)), (.int (4 : Int32)), (.ref b47)])) _
    refine XS.iadd X90.here hx rfl (hb hby at_110) rfl ?_
    show Steps p.tables e below (T90.setTop (mkF m 111 #[.val (.int p0), .val (.int p1), .val (.int p2), .val (.int p3), .val (.ref b1), .val (.ref b47), .unset, .unset, .unset, .unset, .unset, .unset] [(.int (((own_v5 (0 : Int32) (own_s1 p3) (own_s2 p2 p3) (own_s3 p2 p3) (0 : Int32)) ((own_q4 p2)).toNatClampNeg) + (1 : Int32))), (.int (4 : Int32)), (.ref b47)])) _
    refine XS.iloadN X90.here hx rfl (hb hby at_111) rfl ?_
    show Steps p.tables e below (T90.setTop (mkF m 112 #[.val (.int p0), .val (.int p1), .val (.int p2), .val (.int p3), .val (.ref b1), .val (.ref b47), .unset, .unset, .unset, .unset, .unset, .unset] [(.int p3), (.int (((own_v5 (0 : Int32) (own_s1 p3) (own_s2 p2 p3) (own_s3 p2 p3) (0 : Int32)) ((own_q4 p2)).toNatClampNeg) + (1 : Int32))), (.int (4 : Int32)), (.ref b47)])) _
    refine XS.bipush X90.here hx rfl (hb hby at_112) ?_
    show Steps p.tables e below (T90.setTop (mkF m 114 #[.val (.int p0), .val (.int p1), .val (.int p2), .val (.int p3), .val (.ref b1), .val (.ref b47), .unset, .unset, .unset, .unset, .unset, .unset] [(.int (6 : Int32)), (.int p3), (.int (((own_v5 (0 : Int32) (own_s1 p3) (own_s2 p2 p3) (own_s3 p2 p3) (0 : Int32)) ((own_q4 p2)).toNatClampNeg) + (1 : Int32))), (.int (4 : Int32)), (.ref b47)])) _
    refine XS.iushr X90.here hx rfl (hb hby at_114) rfl ?_
    show Steps p.tables e below (T90.setTop (mkF m 115 #[.val (.int p0), .val (.int p1), .val (.int p2), .val (.int p3), .val (.ref b1), .val (.ref b47), .unset, .unset, .unset, .unset, .unset, .unset] [(.int ((p3.toUInt32 >>> ((6 : Int32) &&& 31).toUInt32).toInt32)), (.int (((own_v5 (0 : Int32) (own_s1 p3) (own_s2 p2 p3) (own_s3 p2 p3) (0 : Int32)) ((own_q4 p2)).toNatClampNeg) + (1 : Int32))), (.int (4 : Int32)), (.ref b47)])) _
    refine XS.iconst X90.here hx rfl (hb hby at_115) ?_
    show Steps p.tables e below (T90.setTop (mkF m 116 #[.val (.int p0), .val (.int p1), .val (.int p2), .val (.int p3), .val (.ref b1), .val (.ref b47), .unset, .unset, .unset, .unset, .unset, .unset] [(.int (3 : Int32)), (.int ((p3.toUInt32 >>> ((6 : Int32) &&& 31).toUInt32).toInt32)), (.int (((own_v5 (0 : Int32) (own_s1 p3) (own_s2 p2 p3) (own_s3 p2 p3) (0 : Int32)) ((own_q4 p2)).toNatClampNeg) + (1 : Int32))), (.int (4 : Int32)), (.ref b47)])) _
    refine XS.iand X90.here hx rfl (hb hby at_116) rfl ?_
    show Steps p.tables e below (T90.setTop (mkF m 117 #[.val (.int p0), .val (.int p1), .val (.int p2), .val (.int p3), .val (.ref b1), .val (.ref b47), .unset, .unset, .unset, .unset, .unset, .unset] [(.int (((p3.toUInt32 >>> ((6 : Int32) &&& 31).toUInt32).toInt32) &&& (3 : Int32))), (.int (((own_v5 (0 : Int32) (own_s1 p3) (own_s2 p2 p3) (own_s3 p2 p3) (0 : Int32)) ((own_q4 p2)).toNatClampNeg) + (1 : Int32))), (.int (4 : Int32)), (.ref b47)])) _
    refine XS.iadd X90.here hx rfl (hb hby at_117) rfl ?_
    exact kt
  obtain ⟨cl102, Ar102, S102, H102⟩ := id f98
  have hin102 : ¬ ((4 : Int32) < 0 ∨ cl102.slots.size ≤ ((4 : Int32)).toNatClampNeg) := own_inb S102 (by decide) (by decide)
  obtain ⟨T103, h103, X103, e103, W103, st103⟩ := stI X90 hx hZ e90 Ar102 (j := (4 : Int32)) hin102 (g := (mkF m 118 #[.val (.int p0), .val (.int p1), .val (.int p2), .val (.int p3), .val (.ref b1), .val (.ref b47), .unset, .unset, .unset, .unset, .unset, .unset] [(.int (own_s4 p2 p3)), (.int (4 : Int32)), (.ref b47)])) rfl rfl (hb hby at_118)
  have f104 := f91.wr W103
  have f105 := f92.other W103 ne_b1_b47
  have f106 := f93.wr W103
  have k108 := k95.wr W103 (Or.inr sz_b47)
  have nf109 := Fr.snoc X103 nf96 gn_b47
  have f110 := f98.set W103
  have f111 : own_A Z h103 b47 5 (own_v5 (0 : Int32) (own_s1 p3) (own_s2 p2 p3) (own_s3 p2 p3) (own_s4 p2 p3)) := f110.congr (fun j hj => by rcases j with _ | _ | _ | _ | _ | j <;> first | rfl | (simp [own_upd]; done) | omega)
  have pre112 : ∀ t, Steps p.tables e below (T103.setTop (mkF m 125 #[.val (.int p0), .val (.int p1), .val (.int p2), .val (.int p3), .val (.ref b1), .val (.ref b47), .unset, .unset, .unset, .unset, .unset, .unset] [(.int ((p0 &&& (2147483647 : Int32)) % (5 : Int32)))])) t → Steps p.tables e below (s₁.setTop (entryFrame m #[(.int p0), (.int p1), (.int p2), (.int p3)] maxLocals)) t := by
    intro t kt
    refine pre101 t ?_
    show Steps p.tables e below (T90.setTop (mkF m 118 #[.val (.int p0), .val (.int p1), .val (.int p2), .val (.int p3), .val (.ref b1), .val (.ref b47), .unset, .unset, .unset, .unset, .unset, .unset] [(.int (own_s4 p2 p3)), (.int (4 : Int32)), (.ref b47)])) _
    show Steps p.tables e below (T90.setTop (mkF m 118 #[.val (.int p0), .val (.int p1), .val (.int p2), .val (.int p3), .val (.ref b1), .val (.ref b47), .unset, .unset, .unset, .unset, .unset, .unset] [(.int (own_s4 p2 p3)), (.int (4 : Int32)), (.ref b47)])) _
    refine st103 _ ?_
    show Steps p.tables e below (T103.setTop (mkF m 119 #[.val (.int p0), .val (.int p1), .val (.int p2), .val (.int p3), .val (.ref b1), .val (.ref b47), .unset, .unset, .unset, .unset, .unset, .unset] [])) _
    refine XS.iloadN X103.here hx rfl (hb hby at_119) rfl ?_
    show Steps p.tables e below (T103.setTop (mkF m 120 #[.val (.int p0), .val (.int p1), .val (.int p2), .val (.int p3), .val (.ref b1), .val (.ref b47), .unset, .unset, .unset, .unset, .unset, .unset] [(.int p0)])) _
    refine X103.ldcI hx hown (mvT hZ (hw _ (List.mem_of_getElem? (i := 1) rfl))) (g := (mkF m 120 #[.val (.int p0), .val (.int p1), .val (.int p2), .val (.int p3), .val (.ref b1), .val (.ref b47), .unset, .unset, .unset, .unset, .unset, .unset] [(.int p0)])) rfl (hb hby at_120) ?_
    show Steps p.tables e below (T103.setTop (mkF m 122 #[.val (.int p0), .val (.int p1), .val (.int p2), .val (.int p3), .val (.ref b1), .val (.ref b47), .unset, .unset, .unset, .unset, .unset, .unset] [(.int (2147483647 : Int32)), (.int p0)])) _
    refine XS.iand X103.here hx rfl (hb hby at_122) rfl ?_
    show Steps p.tables e below (T103.setTop (mkF m 123 #[.val (.int p0), .val (.int p1), .val (.int p2), .val (.int p3), .val (.ref b1), .val (.ref b47), .unset, .unset, .unset, .unset, .unset, .unset] [(.int (p0 &&& (2147483647 : Int32)))])) _
    refine XS.iconst X103.here hx rfl (hb hby at_123) ?_
    show Steps p.tables e below (T103.setTop (mkF m 124 #[.val (.int p0), .val (.int p1), .val (.int p2), .val (.int p3), .val (.ref b1), .val (.ref b47), .unset, .unset, .unset, .unset, .unset, .unset] [(.int (5 : Int32)), (.int (p0 &&& (2147483647 : Int32)))])) _
    refine iremM X103 hx rfl (hb hby at_124) rfl (by decide) ?_
    exact kt
  have pre113 : ∀ t, Steps p.tables e below (T103.setTop (mkF m 133 #[.val (.int p0), .val (.int p1), .val (.int p2), .val (.int p3), .val (.ref b1), .val (.ref b47), .val (.int (own_b p0)), .unset, .unset, .unset, .unset, .unset] [(.int ((p1 &&& (2147483647 : Int32)) % (5 : Int32)))])) t → Steps p.tables e below (s₁.setTop (entryFrame m #[(.int p0), (.int p1), (.int p2), (.int p3)] maxLocals)) t := by
    intro t kt
    refine pre112 t ?_
    show Steps p.tables e below (T103.setTop (mkF m 125 #[.val (.int p0), .val (.int p1), .val (.int p2), .val (.int p3), .val (.ref b1), .val (.ref b47), .unset, .unset, .unset, .unset, .unset, .unset] [(.int (own_b p0))])) _
    show Steps p.tables e below (T103.setTop (mkF m 125 #[.val (.int p0), .val (.int p1), .val (.int p2), .val (.int p3), .val (.ref b1), .val (.ref b47), .unset, .unset, .unset, .unset, .unset, .unset] [(.int (own_b p0))])) _
    refine XS.istore X103.here hx rfl (hb hby at_125) rfl (l' := #[.val (.int p0), .val (.int p1), .val (.int p2), .val (.int p3), .val (.ref b1), .val (.ref b47), .val (.int (own_b p0)), .unset, .unset, .unset, .unset, .unset]) rfl ?_
    show Steps p.tables e below (T103.setTop (mkF m 127 #[.val (.int p0), .val (.int p1), .val (.int p2), .val (.int p3), .val (.ref b1), .val (.ref b47), .val (.int (own_b p0)), .unset, .unset, .unset, .unset, .unset] [])) _
    refine XS.iloadN X103.here hx rfl (hb hby at_127) rfl ?_
    show Steps p.tables e below (T103.setTop (mkF m 128 #[.val (.int p0), .val (.int p1), .val (.int p2), .val (.int p3), .val (.ref b1), .val (.ref b47), .val (.int (own_b p0)), .unset, .unset, .unset, .unset, .unset] [(.int p1)])) _
    refine X103.ldcI hx hown (mvT hZ (hw _ (List.mem_of_getElem? (i := 1) rfl))) (g := (mkF m 128 #[.val (.int p0), .val (.int p1), .val (.int p2), .val (.int p3), .val (.ref b1), .val (.ref b47), .val (.int (own_b p0)), .unset, .unset, .unset, .unset, .unset] [(.int p1)])) rfl (hb hby at_128) ?_
    show Steps p.tables e below (T103.setTop (mkF m 130 #[.val (.int p0), .val (.int p1), .val (.int p2), .val (.int p3), .val (.ref b1), .val (.ref b47), .val (.int (own_b p0)), .unset, .unset, .unset, .unset, .unset] [(.int (2147483647 : Int32)), (.int p1)])) _
    refine XS.iand X103.here hx rfl (hb hby at_130) rfl ?_
    show Steps p.tables e below (T103.setTop (mkF m 131 #[.val (.int p0), .val (.int p1), .val (.int p2), .val (.int p3), .val (.ref b1), .val (.ref b47), .val (.int (own_b p0)), .unset, .unset, .unset, .unset, .unset] [(.int (p1 &&& (2147483647 : Int32)))])) _
    refine XS.iconst X103.here hx rfl (hb hby at_131) ?_
    show Steps p.tables e below (T103.setTop (mkF m 132 #[.val (.int p0), .val (.int p1), .val (.int p2), .val (.int p3), .val (.ref b1), .val (.ref b47), .val (.int (own_b p0)), .unset, .unset, .unset, .unset, .unset] [(.int (5 : Int32)), (.int (p1 &&& (2147483647 : Int32)))])) _
    refine iremM X103 hx rfl (hb hby at_132) rfl (by decide) ?_
    exact kt
  obtain ⟨T114, h114, k114, X114, e114, E114, A114, I114, st114⟩ := newPE X103 hx hZ (hw _ (List.mem_of_getElem? (i := 0) rfl)) e103 (g := (mkF m 136 #[.val (.int p0), .val (.int p1), .val (.int p2), .val (.int p3), .val (.ref b1), .val (.ref b47), .val (.int (own_b p0)), .val (.int (own_b p1)), .unset, .unset, .unset, .unset] [(.int (2 : Int32))])) rfl (hb hby at_136) rfl (by decide) (cap := 2) (by decide) (by decide) (by decide) (by decide) (ad := "[I") rfl
  obtain ⟨b114, g114⟩ : ∃ z, z = h103.size := ⟨_, rfl⟩
  rw [← g114] at A114 I114 st114
  have sz_b114 : h0.size ≤ b114 := Nat.le_trans k108.1 (Nat.le_of_eq g114.symm)
  have gn_b114 : n0 ≤ b114 := Nat.le_trans Z0 sz_b114
  have ne_b1_b114 : b1 ≠ b114 := Nat.ne_of_lt (Nat.lt_of_lt_of_le f105.lt (Nat.le_of_eq g114.symm))
  have ne_b47_b114 : b47 ≠ b114 := Nat.ne_of_lt (Nat.lt_of_lt_of_le f111.lt (Nat.le_of_eq g114.symm))
  have f115 := f104.ext E114
  have f116 := f105.ext E114
  have f117 := f106.ext E114
  have f118 := f111.ext E114
  have k119 := k108.ext E114
  have f120 : own_A Z h114 b114 2 (own_v2 (0 : Int32) (0 : Int32)) := (own_A.new A114 rfl).congr (fun j hj => by rcases j with _ | _ | j <;> first | rfl | (simp [own_upd]; done) | omega)
  obtain ⟨cl121, Ar121, S121, H121⟩ := id f120
  have hin121 : ¬ ((0 : Int32) < 0 ∨ cl121.slots.size ≤ ((0 : Int32)).toNatClampNeg) := own_inb S121 (by decide) (by decide)
  obtain ⟨T122, h122, X122, e122, W122, st122⟩ := stI X114 hx hZ e114 Ar121 (j := (0 : Int32)) hin121 (g := (mkF m 145 #[.val (.int p0), .val (.int p1), .val (.int p2), .val (.int p3), .val (.ref b1), .val (.ref b47), .val (.int (own_b p0)), .val (.int (own_b p1)), .val (.ref b114), .unset, .unset, .unset] [(.int (own_b p0)), (.int (0 : Int32)), (.ref b114)])) rfl rfl (hb hby at_145)
  have f123 := f115.wr W122
  have f124 := f116.other W122 ne_b1_b114
  have f125 := f117.wr W122
  have f126 := f118.other W122 ne_b47_b114
  have f127 := I114.wr W122
  have k129 := k119.wr W122 (Or.inr sz_b114)
  have nf130 := Fr.snoc X122 nf109 gn_b114
  have f131 := f120.set W122
  have f132 : own_A Z h122 b114 2 (own_v2 (own_b p0) (0 : Int32)) := f131.congr (fun j hj => by rcases j with _ | _ | j <;> first | rfl | (simp [own_upd]; done) | omega)
  obtain ⟨cl133, Ar133, S133, H133⟩ := id f132
  have hin133 : ¬ ((1 : Int32) < 0 ∨ cl133.slots.size ≤ ((1 : Int32)).toNatClampNeg) := own_inb S133 (by decide) (by decide)
  obtain ⟨T134, h134, X134, e134, W134, st134⟩ := stI X122 hx hZ e122 Ar133 (j := (1 : Int32)) hin133 (g := (mkF m 151 #[.val (.int p0), .val (.int p1), .val (.int p2), .val (.int p3), .val (.ref b1), .val (.ref b47), .val (.int (own_b p0)), .val (.int (own_b p1)), .val (.ref b114), .unset, .unset, .unset] [(.int (own_b p1)), (.int (1 : Int32)), (.ref b114)])) rfl rfl (hb hby at_151)
  have f135 := f123.wr W134
  have f136 := f124.other W134 ne_b1_b114
  have f137 := f125.wr W134
  have f138 := f126.other W134 ne_b47_b114
  have f139 := f127.wr W134
  have k141 := k129.wr W134 (Or.inr sz_b114)
  have nf142 := Fr.snoc X134 nf130 gn_b114
  have f143 := f132.set W134
  have f144 : own_A Z h134 b114 2 (own_v2 (own_b p0) (own_b p1)) := f143.congr (fun j hj => by rcases j with _ | _ | j <;> first | rfl | (simp [own_upd]; done) | omega)
  obtain ⟨T145, h145, X145, e145, E145, A145, D145, -, st145⟩ := newO X134 hx hZ hown (hw _ (List.mem_of_getElem? (i := 2) rfl)) (hw _ (List.mem_of_getElem? (i := 3) rfl)) (hw _ (List.mem_of_getElem? (i := 4) rfl)) e134 (g := (mkF m 152 #[.val (.int p0), .val (.int p1), .val (.int p2), .val (.int p3), .val (.ref b1), .val (.ref b47), .val (.int (own_b p0)), .val (.int (own_b p1)), .val (.ref b114), .unset, .unset, .unset] [])) rfl (hb hby at_152) (by decide) (by decide)
  obtain ⟨b145, g145⟩ : ∃ z, z = h134.size := ⟨_, rfl⟩
  rw [← g145] at A145 D145 st145
  have sz_b145 : h0.size ≤ b145 := Nat.le_trans k141.1 (Nat.le_of_eq g145.symm)
  have gn_b145 : n0 ≤ b145 := Nat.le_trans Z0 sz_b145
  have ne_b1_b145 : b1 ≠ b145 := Nat.ne_of_lt (Nat.lt_of_lt_of_le f136.lt (Nat.le_of_eq g145.symm))
  have ne_b47_b145 : b47 ≠ b145 := Nat.ne_of_lt (Nat.lt_of_lt_of_le f138.lt (Nat.le_of_eq g145.symm))
  have ne_b114_b145 : b114 ≠ b145 := Nat.ne_of_lt (Nat.lt_of_lt_of_le f144.lt (Nat.le_of_eq g145.symm))
  have f146 := f135.ext E145
  have f147 := f136.ext E145
  have f148 := f137.ext E145
  have f149 := f138.ext E145
  have f150 := f139.ext E145
  have f151 := f144.ext E145
  have k152 := k141.ext E145
  have f153 : Fld Z h145 b145 "com/example/unfold/unfold/reduction/Splitting" "blocks" "[I" .null := D145 (Or.inr (hw _ (List.mem_of_getElem? (i := 12) rfl))) (ty := (.array .int)) (by decide)
  have f154 : Fld Z h145 b145 "com/example/unfold/unfold/reduction/Splitting" "parents" "[I" .null := D145 (Or.inr (hw _ (List.mem_of_getElem? (i := 14) rfl))) (ty := (.array .int)) (by decide)
  have f155 : Fld Z h145 b145 "com/example/unfold/unfold/reduction/Splitting" "rounds" "[I" .null := D145 (Or.inr (hw _ (List.mem_of_getElem? (i := 16) rfl))) (ty := (.array .int)) (by decide)
  have zs156 : n0 ≤ h145.size := Nat.le_trans Z0 k152.1
  obtain ⟨_, _, ⟨T157, L157, k157, n157⟩, -, X157, ⟨Lc157, hQ157, l157, y157, z157⟩, st157⟩ := X145.specialBack hx (y := (⟨"com/example/unfold/unfold/reduction/Splitting", "<init>", "([I[I[I)V"⟩ : MethodName)) rfl hown (mvT hZ (hw _ (List.mem_of_getElem? (i := 5) rfl))) (mvT hZ (hw _ (List.mem_of_getElem? (i := 6) rfl))) (mvT hZ (hw _ (List.mem_of_getElem? (i := 7) rfl))) (by decide) (backOf (W := 1) (own_rm_ctor l Z a0 hw [] b145 b114 b1 b47 h145 n0 zs156 A145 f153 f154 f155 gn_b145) hZ (hw _ (List.mem_of_getElem? (i := 7) rfl)) (hw _ (List.mem_of_getElem? (i := 4) rfl)) (by decide) (by decide)) (g := (mkF m 162 #[.val (.int p0), .val (.int p1), .val (.int p2), .val (.int p3), .val (.ref b1), .val (.ref b47), .val (.int (own_b p0)), .val (.int (own_b p1)), .val (.ref b114), .unset, .unset, .unset] [(.ref b47), (.ref b1), (.ref b114), (.ref b145), (.ref b145)])) rfl (by rw [hml]; rfl) (Steps.refl _) (a := b145) (argsL := [(.ref b114), (.ref b1), (.ref b47)]) (rest := [(.ref b145)]) (lenOf own_pd2 rfl) rfl (by show 2 * 0 + _ ≤ _; exact Nat.le_of_eq rfl) (hb hby at_162) (fun _ _ => ⟨rfl, e145, (by decide : 4 + 0 ≤ _), (by decide : 15 + 0 ≤ _)⟩)
  dsimp only [Pt.U, Pt.locs, Pt.cells, Pt.slots] at X157 l157 y157 z157 st157 hQ157
  subst l157 y157 z157
  obtain ⟨rfl, N158, K158, c158_0, c158_1, c158_2⟩ := hQ157
  have f159 := f146.keep K158
  have f160 := f147.keep K158 (ninS ne_b1_b145 nin0)
  have f161 := f148.keep K158
  have f162 := f149.keep K158 (ninS ne_b47_b145 nin0)
  have f163 := f150.keep K158
  have f164 := f151.keep K158 (ninS ne_b114_b145 nin0)
  have f165 := A145.keep K158
  have k166 := k152.trans K158 (allS (Or.inr sz_b145) all0)
  have nf167 := Fr.app nf142 N158
  have hT := own_mktree p2 p3
  obtain ⟨x_, hx_, hx5⟩ := own_br p0
  obtain ⟨y_, hy_, hy5⟩ := own_br p1
  have zs168 : n0 ≤ T157.heap.size := Nat.le_trans Z0 k166.1
  obtain ⟨cq170, kq170, q170a, q170b, q170c⟩ := isOf hZ rfl f165
  obtain ⟨_, _, ⟨T169, L169, k169, n169⟩, -, X169, ⟨Lc169, hQ169, l169, y169, z169⟩, st169⟩ := X157.virtualBack hx (y := (⟨"com/example/unfold/unfold/reduction/Splitting", "separation", "(II)I"⟩ : MethodName)) (z := (⟨"com/example/unfold/unfold/reduction/Splitting", "separation", "(II)I"⟩ : MethodName)) hown (mvT hZ (hw _ (List.mem_of_getElem? (i := 17) rfl))) (mvT hZ (hw _ (List.mem_of_getElem? (i := 18) rfl))) (notFace_of_selects (args := #[]) (mvT hZ (hw _ (List.mem_of_getElem? (i := 20) rfl)))) (mvT hZ (hw _ (List.mem_of_getElem? (i := 20) rfl))) (mvT hZ (hw _ (List.mem_of_getElem? (i := 19) rfl))) (by decide) (backOf (W := 0) (own_rm_sep l Z a0 hw [] b145 b114 b1 b47 (own_v2 (own_b p0) (own_b p1)) (own_v5 (0 : Int32) (0 : Int32) (own_q2 p2) (own_q3 p2) (own_q4 p2)) (own_v5 (0 : Int32) (own_s1 p3) (own_s2 p2 p3) (own_s3 p2 p3) (own_s4 p2 p3)) x_ y_ T157.heap n0 zs168 c158_0 c158_1 c158_2 f164 f160 f162 hx_ hx5 hy_ hy5 hT) hZ (hw _ (List.mem_of_getElem? (i := 21) rfl)) (hw _ (List.mem_of_getElem? (i := 4) rfl)) (by decide) (by decide)) q170a q170c (g := (mkF m 171 #[.val (.int p0), .val (.int p1), .val (.int p2), .val (.int p3), .val (.ref b1), .val (.ref b47), .val (.int (own_b p0)), .val (.int (own_b p1)), .val (.ref b114), .val (.ref b145), .unset, .unset] [(.int (1 : Int32)), (.int (0 : Int32)), (.ref b145)])) rfl (by rw [hml]; rfl) (Steps.refl _) (argsL := [(.int (0 : Int32)), (.int (1 : Int32))]) (rest := []) (lenOf own_pd1 rfl) rfl (by show 2 * 0 + _ ≤ _; exact Nat.le_of_eq rfl) (hb hby at_171) (fun _ _ => ⟨rfl, rfl, (by decide : 4 + 0 ≤ _), (by decide : 15 + 0 ≤ _)⟩)
  dsimp only [Pt.U, Pt.locs, Pt.cells, Pt.slots] at X169 l169 y169 z169 st169 hQ169
  subst l169 y169 z169
  obtain ⟨rfl, N171, eq171⟩ := hQ169
  have nf172 := Fr.app nf167 N171
  have zs173 : n0 ≤ T157.heap.size := Nat.le_trans Z0 k166.1
  obtain ⟨_, _, ⟨T174, L174, k174, n174⟩, -, X174, ⟨Lc174, hQ174, l174, y174, z174⟩, st174⟩ := Jvm.LawKit.callS X169 hx (y := (⟨"com/example/unfold/unfold/reduction/SplittingSeparationPinLaw", "consider", "(IIII[I[I)I"⟩ : MethodName)) hown (mvT hZ (hw _ (List.mem_of_getElem? (i := 22) rfl))) (mvT hZ (hw _ (List.mem_of_getElem? (i := 23) rfl))) (mvT hZ (hw _ (List.mem_of_getElem? (i := 24) rfl))) (mvT hZ (hw _ (List.mem_of_getElem? (i := 25) rfl))) (by decide) (backOf (W := 0) (own_rm_con l Z a0 hw [] (0 : Int32) (1 : Int32) (own_b p0) (own_b p1) b1 b47 1 x_ y_ (own_v5 (0 : Int32) (0 : Int32) (own_q2 p2) (own_q3 p2) (own_q4 p2)) (own_v5 (0 : Int32) (own_s1 p3) (own_s2 p2 p3) (own_s3 p2 p3) (own_s4 p2 p3)) T157.heap n0 zs173 f160 f162 rfl (by decide) hx_ hx5 hy_ hy5 hT) hZ (hw _ (List.mem_of_getElem? (i := 25) rfl)) (hw _ (List.mem_of_getElem? (i := 24) rfl)) (by decide) (by decide)) (g := (mkF m 190 #[.val (.int p0), .val (.int p1), .val (.int p2), .val (.int p3), .val (.ref b1), .val (.ref b47), .val (.int (own_b p0)), .val (.int (own_b p1)), .val (.ref b114), .val (.ref b145), .val (.int (own_sep (own_v5 (0 : Int32) (0 : Int32) (own_q2 p2) (own_q3 p2) (own_q4 p2)) (own_v5 (0 : Int32) (own_s1 p3) (own_s2 p2 p3) (own_s3 p2 p3) (own_s4 p2 p3)) 9 x_ y_ 0)), .val (.int (0 : Int32))] [(.ref b47), (.ref b1), (.int (own_b p1)), (.int (own_b p0)), (.int (1 : Int32)), (.int (0 : Int32))])) rfl (by rw [hml]; rfl) (argsL := [(.int (0 : Int32)), (.int (1 : Int32)), (.int (own_b p0)), (.int (own_b p1)), (.ref b1), (.ref b47)]) (rest := []) (lenOf own_pd3 rfl) rfl (by show 2 * 0 + _ ≤ _; exact Nat.le_of_eq rfl) (hb hby at_190) (fun _ _ => ⟨rfl, eq171, (by decide : 4 + 0 ≤ _), (by decide : 15 + 0 ≤ _)⟩)
  dsimp only [Pt.U, Pt.locs, Pt.cells, Pt.slots] at X174 l174 y174 z174 st174 hQ174
  subst l174 y174 z174
  obtain ⟨rfl, N175, eq175⟩ := hQ174
  have nf176 := Fr.app nf172 N175
  have zs177 : n0 ≤ T157.heap.size := Nat.le_trans Z0 k166.1
  obtain ⟨_, _, ⟨T178, L178, k178, n178⟩, -, X178, ⟨Lc178, hQ178, l178, y178, z178⟩, st178⟩ := Jvm.LawKit.callS X174 hx (y := (⟨"com/example/unfold/unfold/reduction/SplittingSeparationPinLaw", "consider", "(IIII[I[I)I"⟩ : MethodName)) hown (mvT hZ (hw _ (List.mem_of_getElem? (i := 22) rfl))) (mvT hZ (hw _ (List.mem_of_getElem? (i := 23) rfl))) (mvT hZ (hw _ (List.mem_of_getElem? (i := 24) rfl))) (mvT hZ (hw _ (List.mem_of_getElem? (i := 25) rfl))) (by decide) (backOf (W := 0) (own_rm_con l Z a0 hw [] (own_con (own_v5 (0 : Int32) (0 : Int32) (own_q2 p2) (own_q3 p2) (own_q4 p2)) (own_v5 (0 : Int32) (own_s1 p3) (own_s2 p2 p3) (own_s3 p2 p3) (own_s4 p2 p3)) (0 : Int32) (1 : Int32) 1 x_ y_) (2 : Int32) (own_b p0) (own_b p1) b1 b47 2 x_ y_ (own_v5 (0 : Int32) (0 : Int32) (own_q2 p2) (own_q3 p2) (own_q4 p2)) (own_v5 (0 : Int32) (own_s1 p3) (own_s2 p2 p3) (own_s3 p2 p3) (own_s4 p2 p3)) T157.heap n0 zs177 f160 f162 rfl (by decide) hx_ hx5 hy_ hy5 hT) hZ (hw _ (List.mem_of_getElem? (i := 25) rfl)) (hw _ (List.mem_of_getElem? (i := 24) rfl)) (by decide) (by decide)) (g := (mkF m 206 #[.val (.int p0), .val (.int p1), .val (.int p2), .val (.int p3), .val (.ref b1), .val (.ref b47), .val (.int (own_b p0)), .val (.int (own_b p1)), .val (.ref b114), .val (.ref b145), .val (.int (own_sep (own_v5 (0 : Int32) (0 : Int32) (own_q2 p2) (own_q3 p2) (own_q4 p2)) (own_v5 (0 : Int32) (own_s1 p3) (own_s2 p2 p3) (own_s3 p2 p3) (own_s4 p2 p3)) 9 x_ y_ 0)), .val (.int (own_con (own_v5 (0 : Int32) (0 : Int32) (own_q2 p2) (own_q3 p2) (own_q4 p2)) (own_v5 (0 : Int32) (own_s1 p3) (own_s2 p2 p3) (own_s3 p2 p3) (own_s4 p2 p3)) (0 : Int32) (1 : Int32) 1 x_ y_))] [(.ref b47), (.ref b1), (.int (own_b p1)), (.int (own_b p0)), (.int (2 : Int32)), (.int (own_con (own_v5 (0 : Int32) (0 : Int32) (own_q2 p2) (own_q3 p2) (own_q4 p2)) (own_v5 (0 : Int32) (own_s1 p3) (own_s2 p2 p3) (own_s3 p2 p3) (own_s4 p2 p3)) (0 : Int32) (1 : Int32) 1 x_ y_))])) rfl (by rw [hml]; rfl) (argsL := [(.int (own_con (own_v5 (0 : Int32) (0 : Int32) (own_q2 p2) (own_q3 p2) (own_q4 p2)) (own_v5 (0 : Int32) (own_s1 p3) (own_s2 p2 p3) (own_s3 p2 p3) (own_s4 p2 p3)) (0 : Int32) (1 : Int32) 1 x_ y_)), (.int (2 : Int32)), (.int (own_b p0)), (.int (own_b p1)), (.ref b1), (.ref b47)]) (rest := []) (lenOf own_pd3 rfl) rfl (by show 2 * 0 + _ ≤ _; exact Nat.le_of_eq rfl) (hb hby at_206) (fun _ _ => ⟨rfl, eq175, (by decide : 4 + 0 ≤ _), (by decide : 15 + 0 ≤ _)⟩)
  dsimp only [Pt.U, Pt.locs, Pt.cells, Pt.slots] at X178 l178 y178 z178 st178 hQ178
  subst l178 y178 z178
  obtain ⟨rfl, N179, eq179⟩ := hQ178
  have nf180 := Fr.app nf176 N179
  have zs181 : n0 ≤ T157.heap.size := Nat.le_trans Z0 k166.1
  obtain ⟨_, _, ⟨T182, L182, k182, n182⟩, -, X182, ⟨Lc182, hQ182, l182, y182, z182⟩, st182⟩ := Jvm.LawKit.callS X178 hx (y := (⟨"com/example/unfold/unfold/reduction/SplittingSeparationPinLaw", "consider", "(IIII[I[I)I"⟩ : MethodName)) hown (mvT hZ (hw _ (List.mem_of_getElem? (i := 22) rfl))) (mvT hZ (hw _ (List.mem_of_getElem? (i := 23) rfl))) (mvT hZ (hw _ (List.mem_of_getElem? (i := 24) rfl))) (mvT hZ (hw _ (List.mem_of_getElem? (i := 25) rfl))) (by decide) (backOf (W := 0) (own_rm_con l Z a0 hw [] (own_con (own_v5 (0 : Int32) (0 : Int32) (own_q2 p2) (own_q3 p2) (own_q4 p2)) (own_v5 (0 : Int32) (own_s1 p3) (own_s2 p2 p3) (own_s3 p2 p3) (own_s4 p2 p3)) (own_con (own_v5 (0 : Int32) (0 : Int32) (own_q2 p2) (own_q3 p2) (own_q4 p2)) (own_v5 (0 : Int32) (own_s1 p3) (own_s2 p2 p3) (own_s3 p2 p3) (own_s4 p2 p3)) (0 : Int32) (1 : Int32) 1 x_ y_) (2 : Int32) 2 x_ y_) (3 : Int32) (own_b p0) (own_b p1) b1 b47 3 x_ y_ (own_v5 (0 : Int32) (0 : Int32) (own_q2 p2) (own_q3 p2) (own_q4 p2)) (own_v5 (0 : Int32) (own_s1 p3) (own_s2 p2 p3) (own_s3 p2 p3) (own_s4 p2 p3)) T157.heap n0 zs181 f160 f162 rfl (by decide) hx_ hx5 hy_ hy5 hT) hZ (hw _ (List.mem_of_getElem? (i := 25) rfl)) (hw _ (List.mem_of_getElem? (i := 24) rfl)) (by decide) (by decide)) (g := (mkF m 222 #[.val (.int p0), .val (.int p1), .val (.int p2), .val (.int p3), .val (.ref b1), .val (.ref b47), .val (.int (own_b p0)), .val (.int (own_b p1)), .val (.ref b114), .val (.ref b145), .val (.int (own_sep (own_v5 (0 : Int32) (0 : Int32) (own_q2 p2) (own_q3 p2) (own_q4 p2)) (own_v5 (0 : Int32) (own_s1 p3) (own_s2 p2 p3) (own_s3 p2 p3) (own_s4 p2 p3)) 9 x_ y_ 0)), .val (.int (own_con (own_v5 (0 : Int32) (0 : Int32) (own_q2 p2) (own_q3 p2) (own_q4 p2)) (own_v5 (0 : Int32) (own_s1 p3) (own_s2 p2 p3) (own_s3 p2 p3) (own_s4 p2 p3)) (own_con (own_v5 (0 : Int32) (0 : Int32) (own_q2 p2) (own_q3 p2) (own_q4 p2)) (own_v5 (0 : Int32) (own_s1 p3) (own_s2 p2 p3) (own_s3 p2 p3) (own_s4 p2 p3)) (0 : Int32) (1 : Int32) 1 x_ y_) (2 : Int32) 2 x_ y_))] [(.ref b47), (.ref b1), (.int (own_b p1)), (.int (own_b p0)), (.int (3 : Int32)), (.int (own_con (own_v5 (0 : Int32) (0 : Int32) (own_q2 p2) (own_q3 p2) (own_q4 p2)) (own_v5 (0 : Int32) (own_s1 p3) (own_s2 p2 p3) (own_s3 p2 p3) (own_s4 p2 p3)) (own_con (own_v5 (0 : Int32) (0 : Int32) (own_q2 p2) (own_q3 p2) (own_q4 p2)) (own_v5 (0 : Int32) (own_s1 p3) (own_s2 p2 p3) (own_s3 p2 p3) (own_s4 p2 p3)) (0 : Int32) (1 : Int32) 1 x_ y_) (2 : Int32) 2 x_ y_))])) rfl (by rw [hml]; rfl) (argsL := [(.int (own_con (own_v5 (0 : Int32) (0 : Int32) (own_q2 p2) (own_q3 p2) (own_q4 p2)) (own_v5 (0 : Int32) (own_s1 p3) (own_s2 p2 p3) (own_s3 p2 p3) (own_s4 p2 p3)) (own_con (own_v5 (0 : Int32) (0 : Int32) (own_q2 p2) (own_q3 p2) (own_q4 p2)) (own_v5 (0 : Int32) (own_s1 p3) (own_s2 p2 p3) (own_s3 p2 p3) (own_s4 p2 p3)) (0 : Int32) (1 : Int32) 1 x_ y_) (2 : Int32) 2 x_ y_)), (.int (3 : Int32)), (.int (own_b p0)), (.int (own_b p1)), (.ref b1), (.ref b47)]) (rest := []) (lenOf own_pd3 rfl) rfl (by show 2 * 0 + _ ≤ _; exact Nat.le_of_eq rfl) (hb hby at_222) (fun _ _ => ⟨rfl, eq179, (by decide : 4 + 0 ≤ _), (by decide : 15 + 0 ≤ _)⟩)
  dsimp only [Pt.U, Pt.locs, Pt.cells, Pt.slots] at X182 l182 y182 z182 st182 hQ182
  subst l182 y182 z182
  obtain ⟨rfl, N183, eq183⟩ := hQ182
  have nf184 := Fr.app nf180 N183
  have zs185 : n0 ≤ T157.heap.size := Nat.le_trans Z0 k166.1
  obtain ⟨_, _, ⟨T186, L186, k186, n186⟩, -, X186, ⟨Lc186, hQ186, l186, y186, z186⟩, st186⟩ := Jvm.LawKit.callS X182 hx (y := (⟨"com/example/unfold/unfold/reduction/SplittingSeparationPinLaw", "consider", "(IIII[I[I)I"⟩ : MethodName)) hown (mvT hZ (hw _ (List.mem_of_getElem? (i := 22) rfl))) (mvT hZ (hw _ (List.mem_of_getElem? (i := 23) rfl))) (mvT hZ (hw _ (List.mem_of_getElem? (i := 24) rfl))) (mvT hZ (hw _ (List.mem_of_getElem? (i := 25) rfl))) (by decide) (backOf (W := 0) (own_rm_con l Z a0 hw [] (own_con (own_v5 (0 : Int32) (0 : Int32) (own_q2 p2) (own_q3 p2) (own_q4 p2)) (own_v5 (0 : Int32) (own_s1 p3) (own_s2 p2 p3) (own_s3 p2 p3) (own_s4 p2 p3)) (own_con (own_v5 (0 : Int32) (0 : Int32) (own_q2 p2) (own_q3 p2) (own_q4 p2)) (own_v5 (0 : Int32) (own_s1 p3) (own_s2 p2 p3) (own_s3 p2 p3) (own_s4 p2 p3)) (own_con (own_v5 (0 : Int32) (0 : Int32) (own_q2 p2) (own_q3 p2) (own_q4 p2)) (own_v5 (0 : Int32) (own_s1 p3) (own_s2 p2 p3) (own_s3 p2 p3) (own_s4 p2 p3)) (0 : Int32) (1 : Int32) 1 x_ y_) (2 : Int32) 2 x_ y_) (3 : Int32) 3 x_ y_) (4 : Int32) (own_b p0) (own_b p1) b1 b47 4 x_ y_ (own_v5 (0 : Int32) (0 : Int32) (own_q2 p2) (own_q3 p2) (own_q4 p2)) (own_v5 (0 : Int32) (own_s1 p3) (own_s2 p2 p3) (own_s3 p2 p3) (own_s4 p2 p3)) T157.heap n0 zs185 f160 f162 rfl (by decide) hx_ hx5 hy_ hy5 hT) hZ (hw _ (List.mem_of_getElem? (i := 25) rfl)) (hw _ (List.mem_of_getElem? (i := 24) rfl)) (by decide) (by decide)) (g := (mkF m 238 #[.val (.int p0), .val (.int p1), .val (.int p2), .val (.int p3), .val (.ref b1), .val (.ref b47), .val (.int (own_b p0)), .val (.int (own_b p1)), .val (.ref b114), .val (.ref b145), .val (.int (own_sep (own_v5 (0 : Int32) (0 : Int32) (own_q2 p2) (own_q3 p2) (own_q4 p2)) (own_v5 (0 : Int32) (own_s1 p3) (own_s2 p2 p3) (own_s3 p2 p3) (own_s4 p2 p3)) 9 x_ y_ 0)), .val (.int (own_con (own_v5 (0 : Int32) (0 : Int32) (own_q2 p2) (own_q3 p2) (own_q4 p2)) (own_v5 (0 : Int32) (own_s1 p3) (own_s2 p2 p3) (own_s3 p2 p3) (own_s4 p2 p3)) (own_con (own_v5 (0 : Int32) (0 : Int32) (own_q2 p2) (own_q3 p2) (own_q4 p2)) (own_v5 (0 : Int32) (own_s1 p3) (own_s2 p2 p3) (own_s3 p2 p3) (own_s4 p2 p3)) (own_con (own_v5 (0 : Int32) (0 : Int32) (own_q2 p2) (own_q3 p2) (own_q4 p2)) (own_v5 (0 : Int32) (own_s1 p3) (own_s2 p2 p3) (own_s3 p2 p3) (own_s4 p2 p3)) (0 : Int32) (1 : Int32) 1 x_ y_) (2 : Int32) 2 x_ y_) (3 : Int32) 3 x_ y_))] [(.ref b47), (.ref b1), (.int (own_b p1)), (.int (own_b p0)), (.int (4 : Int32)), (.int (own_con (own_v5 (0 : Int32) (0 : Int32) (own_q2 p2) (own_q3 p2) (own_q4 p2)) (own_v5 (0 : Int32) (own_s1 p3) (own_s2 p2 p3) (own_s3 p2 p3) (own_s4 p2 p3)) (own_con (own_v5 (0 : Int32) (0 : Int32) (own_q2 p2) (own_q3 p2) (own_q4 p2)) (own_v5 (0 : Int32) (own_s1 p3) (own_s2 p2 p3) (own_s3 p2 p3) (own_s4 p2 p3)) (own_con (own_v5 (0 : Int32) (0 : Int32) (own_q2 p2) (own_q3 p2) (own_q4 p2)) (own_v5 (0 : Int32) (own_s1 p3) (own_s2 p2 p3) (own_s3 p2 p3) (own_s4 p2 p3)) (0 : Int32) (1 : Int32) 1 x_ y_) (2 : Int32) 2 x_ y_) (3 : Int32) 3 x_ y_))])) rfl (by rw [hml]; rfl) (argsL := [(.int (own_con (own_v5 (0 : Int32) (0 : Int32) (own_q2 p2) (own_q3 p2) (own_q4 p2)) (own_v5 (0 : Int32) (own_s1 p3) (own_s2 p2 p3) (own_s3 p2 p3) (own_s4 p2 p3)) (own_con (own_v5 (0 : Int32) (0 : Int32) (own_q2 p2) (own_q3 p2) (own_q4 p2)) (own_v5 (0 : Int32) (own_s1 p3) (own_s2 p2 p3) (own_s3 p2 p3) (own_s4 p2 p3)) (own_con (own_v5 (0 : Int32) (0 : Int32) (own_q2 p2) (own_q3 p2) (own_q4 p2)) (own_v5 (0 : Int32) (own_s1 p3) (own_s2 p2 p3) (own_s3 p2 p3) (own_s4 p2 p3)) (0 : Int32) (1 : Int32) 1 x_ y_) (2 : Int32) 2 x_ y_) (3 : Int32) 3 x_ y_)), (.int (4 : Int32)), (.int (own_b p0)), (.int (own_b p1)), (.ref b1), (.ref b47)]) (rest := []) (lenOf own_pd3 rfl) rfl (by show 2 * 0 + _ ≤ _; exact Nat.le_of_eq rfl) (hb hby at_238) (fun _ _ => ⟨rfl, eq183, (by decide : 4 + 0 ≤ _), (by decide : 15 + 0 ≤ _)⟩)
  dsimp only [Pt.U, Pt.locs, Pt.cells, Pt.slots] at X186 l186 y186 z186 st186 hQ186
  subst l186 y186 z186
  obtain ⟨rfl, N187, eq187⟩ := hQ186
  have nf188 := Fr.app nf184 N187
  have pre189 : ∀ t, Steps p.tables e below (T186.setTop (mkF m 255 #[.val (.int p0), .val (.int p1), .val (.int p2), .val (.int p3), .val (.ref b1), .val (.ref b47), .val (.int (own_b p0)), .val (.int (own_b p1)), .val (.ref b114), .val (.ref b145), .val (.int (own_sep (own_v5 (0 : Int32) (0 : Int32) (own_q2 p2) (own_q3 p2) (own_q4 p2)) (own_v5 (0 : Int32) (own_s1 p3) (own_s2 p2 p3) (own_s3 p2 p3) (own_s4 p2 p3)) 9 x_ y_ 0)), .val (.int (own_con (own_v5 (0 : Int32) (0 : Int32) (own_q2 p2) (own_q3 p2) (own_q4 p2)) (own_v5 (0 : Int32) (own_s1 p3) (own_s2 p2 p3) (own_s3 p2 p3) (own_s4 p2 p3)) (own_con (own_v5 (0 : Int32) (0 : Int32) (own_q2 p2) (own_q3 p2) (own_q4 p2)) (own_v5 (0 : Int32) (own_s1 p3) (own_s2 p2 p3) (own_s3 p2 p3) (own_s4 p2 p3)) (own_con (own_v5 (0 : Int32) (0 : Int32) (own_q2 p2) (own_q3 p2) (own_q4 p2)) (own_v5 (0 : Int32) (own_s1 p3) (own_s2 p2 p3) (own_s3 p2 p3) (own_s4 p2 p3)) (own_con (own_v5 (0 : Int32) (0 : Int32) (own_q2 p2) (own_q3 p2) (own_q4 p2)) (own_v5 (0 : Int32) (own_s1 p3) (own_s2 p2 p3) (own_s3 p2 p3) (own_s4 p2 p3)) (0 : Int32) (1 : Int32) 1 x_ y_) (2 : Int32) 2 x_ y_) (3 : Int32) 3 x_ y_) (4 : Int32) 4 x_ y_))] [(.int (1 : Int32))])) t → Steps p.tables e below (s₁.setTop (entryFrame m #[(.int p0), (.int p1), (.int p2), (.int p3)] maxLocals)) t := by
    intro t kt
    refine pre113 t ?_
    show Steps p.tables e below (T103.setTop (mkF m 133 #[.val (.int p0), .val (.int p1), .val (.int p2), .val (.int p3), .val (.ref b1), .val (.ref b47), .val (.int (own_b p0)), .unset, .unset, .unset, .unset, .unset] [(.int (own_b p1))])) _
    show Steps p.tables e below (T103.setTop (mkF m 133 #[.val (.int p0), .val (.int p1), .val (.int p2), .val (.int p3), .val (.ref b1), .val (.ref b47), .val (.int (own_b p0)), .unset, .unset, .unset, .unset, .unset] [(.int (own_b p1))])) _
    refine XS.istore X103.here hx rfl (hb hby at_133) rfl (l' := #[.val (.int p0), .val (.int p1), .val (.int p2), .val (.int p3), .val (.ref b1), .val (.ref b47), .val (.int (own_b p0)), .val (.int (own_b p1)), .unset, .unset, .unset, .unset]) rfl ?_
    show Steps p.tables e below (T103.setTop (mkF m 135 #[.val (.int p0), .val (.int p1), .val (.int p2), .val (.int p3), .val (.ref b1), .val (.ref b47), .val (.int (own_b p0)), .val (.int (own_b p1)), .unset, .unset, .unset, .unset] [])) _
    refine XS.iconst X103.here hx rfl (hb hby at_135) ?_
    show Steps p.tables e below (T103.setTop (mkF m 136 #[.val (.int p0), .val (.int p1), .val (.int p2), .val (.int p3), .val (.ref b1), .val (.ref b47), .val (.int (own_b p0)), .val (.int (own_b p1)), .unset, .unset, .unset, .unset] [(.int (2 : Int32))])) _
    refine st114 _ ?_
    show Steps p.tables e below (T114.setTop (mkF m 138 #[.val (.int p0), .val (.int p1), .val (.int p2), .val (.int p3), .val (.ref b1), .val (.ref b47), .val (.int (own_b p0)), .val (.int (own_b p1)), .unset, .unset, .unset, .unset] [(.ref b114)])) _
    refine XS.astore X114.here hx rfl (hb hby at_138) rfl rfl (l' := #[.val (.int p0), .val (.int p1), .val (.int p2), .val (.int p3), .val (.ref b1), .val (.ref b47), .val (.int (own_b p0)), .val (.int (own_b p1)), .val (.ref b114), .unset, .unset, .unset]) rfl ?_
    show Steps p.tables e below (T114.setTop (mkF m 140 #[.val (.int p0), .val (.int p1), .val (.int p2), .val (.int p3), .val (.ref b1), .val (.ref b47), .val (.int (own_b p0)), .val (.int (own_b p1)), .val (.ref b114), .unset, .unset, .unset] [])) _
    refine XS.aload X114.here hx rfl (hb hby at_140) rfl rfl ?_
    show Steps p.tables e below (T114.setTop (mkF m 142 #[.val (.int p0), .val (.int p1), .val (.int p2), .val (.int p3), .val (.ref b1), .val (.ref b47), .val (.int (own_b p0)), .val (.int (own_b p1)), .val (.ref b114), .unset, .unset, .unset] [(.ref b114)])) _
    refine XS.iconst X114.here hx rfl (hb hby at_142) ?_
    show Steps p.tables e below (T114.setTop (mkF m 143 #[.val (.int p0), .val (.int p1), .val (.int p2), .val (.int p3), .val (.ref b1), .val (.ref b47), .val (.int (own_b p0)), .val (.int (own_b p1)), .val (.ref b114), .unset, .unset, .unset] [(.int (0 : Int32)), (.ref b114)])) _
    refine XS.iload X114.here hx rfl (hb hby at_143) rfl ?_
    show Steps p.tables e below (T114.setTop (mkF m 145 #[.val (.int p0), .val (.int p1), .val (.int p2), .val (.int p3), .val (.ref b1), .val (.ref b47), .val (.int (own_b p0)), .val (.int (own_b p1)), .val (.ref b114), .unset, .unset, .unset] [(.int (own_b p0)), (.int (0 : Int32)), (.ref b114)])) _
    refine st122 _ ?_
    show Steps p.tables e below (T122.setTop (mkF m 146 #[.val (.int p0), .val (.int p1), .val (.int p2), .val (.int p3), .val (.ref b1), .val (.ref b47), .val (.int (own_b p0)), .val (.int (own_b p1)), .val (.ref b114), .unset, .unset, .unset] [])) _
    refine XS.aload X122.here hx rfl (hb hby at_146) rfl rfl ?_
    show Steps p.tables e below (T122.setTop (mkF m 148 #[.val (.int p0), .val (.int p1), .val (.int p2), .val (.int p3), .val (.ref b1), .val (.ref b47), .val (.int (own_b p0)), .val (.int (own_b p1)), .val (.ref b114), .unset, .unset, .unset] [(.ref b114)])) _
    refine XS.iconst X122.here hx rfl (hb hby at_148) ?_
    show Steps p.tables e below (T122.setTop (mkF m 149 #[.val (.int p0), .val (.int p1), .val (.int p2), .val (.int p3), .val (.ref b1), .val (.ref b47), .val (.int (own_b p0)), .val (.int (own_b p1)), .val (.ref b114), .unset, .unset, .unset] [(.int (1 : Int32)), (.ref b114)])) _
    refine XS.iload X122.here hx rfl (hb hby at_149) rfl ?_
    show Steps p.tables e below (T122.setTop (mkF m 151 #[.val (.int p0), .val (.int p1), .val (.int p2), .val (.int p3), .val (.ref b1), .val (.ref b47), .val (.int (own_b p0)), .val (.int (own_b p1)), .val (.ref b114), .unset, .unset, .unset] [(.int (own_b p1)), (.int (1 : Int32)), (.ref b114)])) _
    refine st134 _ ?_
    show Steps p.tables e below (T134.setTop (mkF m 152 #[.val (.int p0), .val (.int p1), .val (.int p2), .val (.int p3), .val (.ref b1), .val (.ref b47), .val (.int (own_b p0)), .val (.int (own_b p1)), .val (.ref b114), .unset, .unset, .unset] [])) _
    refine st145 _ ?_
    show Steps p.tables e below (T145.setTop (mkF m 155 #[.val (.int p0), .val (.int p1), .val (.int p2), .val (.int p3), .val (.ref b1), .val (.ref b47), .val (.int (own_b p0)), .val (.int (own_b p1)), .val (.ref b114), .unset, .unset, .unset] [(.ref b145)])) _
    refine XS.dup X145.here hx rfl (hb hby at_155) rfl rfl ?_
    show Steps p.tables e below (T145.setTop (mkF m 156 #[.val (.int p0), .val (.int p1), .val (.int p2), .val (.int p3), .val (.ref b1), .val (.ref b47), .val (.int (own_b p0)), .val (.int (own_b p1)), .val (.ref b114), .unset, .unset, .unset] [(.ref b145), (.ref b145)])) _
    refine XS.aload X145.here hx rfl (hb hby at_156) rfl rfl ?_
    show Steps p.tables e below (T145.setTop (mkF m 158 #[.val (.int p0), .val (.int p1), .val (.int p2), .val (.int p3), .val (.ref b1), .val (.ref b47), .val (.int (own_b p0)), .val (.int (own_b p1)), .val (.ref b114), .unset, .unset, .unset] [(.ref b114), (.ref b145), (.ref b145)])) _
    refine XS.aload X145.here hx rfl (hb hby at_158) rfl rfl ?_
    show Steps p.tables e below (T145.setTop (mkF m 160 #[.val (.int p0), .val (.int p1), .val (.int p2), .val (.int p3), .val (.ref b1), .val (.ref b47), .val (.int (own_b p0)), .val (.int (own_b p1)), .val (.ref b114), .unset, .unset, .unset] [(.ref b1), (.ref b114), (.ref b145), (.ref b145)])) _
    refine XS.aload X145.here hx rfl (hb hby at_160) rfl rfl ?_
    show Steps p.tables e below (T145.setTop (mkF m 162 #[.val (.int p0), .val (.int p1), .val (.int p2), .val (.int p3), .val (.ref b1), .val (.ref b47), .val (.int (own_b p0)), .val (.int (own_b p1)), .val (.ref b114), .unset, .unset, .unset] [(.ref b47), (.ref b1), (.ref b114), (.ref b145), (.ref b145)])) _
    refine st157.trans ?_
    show Steps p.tables e below (T157.setTop (mkF m 165 #[.val (.int p0), .val (.int p1), .val (.int p2), .val (.int p3), .val (.ref b1), .val (.ref b47), .val (.int (own_b p0)), .val (.int (own_b p1)), .val (.ref b114), .unset, .unset, .unset] [(.ref b145)])) _
    refine XS.astore X157.here hx rfl (hb hby at_165) rfl rfl (l' := #[.val (.int p0), .val (.int p1), .val (.int p2), .val (.int p3), .val (.ref b1), .val (.ref b47), .val (.int (own_b p0)), .val (.int (own_b p1)), .val (.ref b114), .val (.ref b145), .unset, .unset]) rfl ?_
    show Steps p.tables e below (T157.setTop (mkF m 167 #[.val (.int p0), .val (.int p1), .val (.int p2), .val (.int p3), .val (.ref b1), .val (.ref b47), .val (.int (own_b p0)), .val (.int (own_b p1)), .val (.ref b114), .val (.ref b145), .unset, .unset] [])) _
    refine XS.aload X157.here hx rfl (hb hby at_167) rfl rfl ?_
    show Steps p.tables e below (T157.setTop (mkF m 169 #[.val (.int p0), .val (.int p1), .val (.int p2), .val (.int p3), .val (.ref b1), .val (.ref b47), .val (.int (own_b p0)), .val (.int (own_b p1)), .val (.ref b114), .val (.ref b145), .unset, .unset] [(.ref b145)])) _
    refine XS.iconst X157.here hx rfl (hb hby at_169) ?_
    show Steps p.tables e below (T157.setTop (mkF m 170 #[.val (.int p0), .val (.int p1), .val (.int p2), .val (.int p3), .val (.ref b1), .val (.ref b47), .val (.int (own_b p0)), .val (.int (own_b p1)), .val (.ref b114), .val (.ref b145), .unset, .unset] [(.int (0 : Int32)), (.ref b145)])) _
    refine XS.iconst X157.here hx rfl (hb hby at_170) ?_
    show Steps p.tables e below (T157.setTop (mkF m 171 #[.val (.int p0), .val (.int p1), .val (.int p2), .val (.int p3), .val (.ref b1), .val (.ref b47), .val (.int (own_b p0)), .val (.int (own_b p1)), .val (.ref b114), .val (.ref b145), .unset, .unset] [(.int (1 : Int32)), (.int (0 : Int32)), (.ref b145)])) _
    refine st169.trans ?_
    show Steps p.tables e below (T169.setTop (mkF m 174 #[.val (.int p0), .val (.int p1), .val (.int p2), .val (.int p3), .val (.ref b1), .val (.ref b47), .val (.int (own_b p0)), .val (.int (own_b p1)), .val (.ref b114), .val (.ref b145), .unset, .unset] [(.int (own_sep (own_v5 (0 : Int32) (0 : Int32) (own_q2 p2) (own_q3 p2) (own_q4 p2)) (own_v5 (0 : Int32) (own_s1 p3) (own_s2 p2 p3) (own_s3 p2 p3) (own_s4 p2 p3)) 9 x_ y_ 0))])) _
    refine XS.istore X169.here hx rfl (hb hby at_174) rfl (l' := #[.val (.int p0), .val (.int p1), .val (.int p2), .val (.int p3), .val (.ref b1), .val (.ref b47), .val (.int (own_b p0)), .val (.int (own_b p1)), .val (.ref b114), .val (.ref b145), .val (.int (own_sep (own_v5 (0 : Int32) (0 : Int32) (own_q2 p2) (own_q3 p2) (own_q4 p2)) (own_v5 (0 : Int32) (own_s1 p3) (own_s2 p2 p3) (own_s3 p2 p3) (own_s4 p2 p3)) 9 x_ y_ 0)), .unset]) rfl ?_
    show Steps p.tables e below (T169.setTop (mkF m 176 #[.val (.int p0), .val (.int p1), .val (.int p2), .val (.int p3), .val (.ref b1), .val (.ref b47), .val (.int (own_b p0)), .val (.int (own_b p1)), .val (.ref b114), .val (.ref b145), .val (.int (own_sep (own_v5 (0 : Int32) (0 : Int32) (own_q2 p2) (own_q3 p2) (own_q4 p2)) (own_v5 (0 : Int32) (own_s1 p3) (own_s2 p2 p3) (own_s3 p2 p3) (own_s4 p2 p3)) 9 x_ y_ 0)), .unset] [])) _
    refine XS.iconst X169.here hx rfl (hb hby at_176) ?_
    show Steps p.tables e below (T169.setTop (mkF m 177 #[.val (.int p0), .val (.int p1), .val (.int p2), .val (.int p3), .val (.ref b1), .val (.ref b47), .val (.int (own_b p0)), .val (.int (own_b p1)), .val (.ref b114), .val (.ref b145), .val (.int (own_sep (own_v5 (0 : Int32) (0 : Int32) (own_q2 p2) (own_q3 p2) (own_q4 p2)) (own_v5 (0 : Int32) (own_s1 p3) (own_s2 p2 p3) (own_s3 p2 p3) (own_s4 p2 p3)) 9 x_ y_ 0)), .unset] [(.int (0 : Int32))])) _
    refine XS.istore X169.here hx rfl (hb hby at_177) rfl (l' := #[.val (.int p0), .val (.int p1), .val (.int p2), .val (.int p3), .val (.ref b1), .val (.ref b47), .val (.int (own_b p0)), .val (.int (own_b p1)), .val (.ref b114), .val (.ref b145), .val (.int (own_sep (own_v5 (0 : Int32) (0 : Int32) (own_q2 p2) (own_q3 p2) (own_q4 p2)) (own_v5 (0 : Int32) (own_s1 p3) (own_s2 p2 p3) (own_s3 p2 p3) (own_s4 p2 p3)) 9 x_ y_ 0)), .val (.int (0 : Int32))]) rfl ?_
    show Steps p.tables e below (T169.setTop (mkF m 179 #[.val (.int p0), .val (.int p1), .val (.int p2), .val (.int p3), .val (.ref b1), .val (.ref b47), .val (.int (own_b p0)), .val (.int (own_b p1)), .val (.ref b114), .val (.ref b145), .val (.int (own_sep (own_v5 (0 : Int32) (0 : Int32) (own_q2 p2) (own_q3 p2) (own_q4 p2)) (own_v5 (0 : Int32) (own_s1 p3) (own_s2 p2 p3) (own_s3 p2 p3) (own_s4 p2 p3)) 9 x_ y_ 0)), .val (.int (0 : Int32))] [])) _
    refine XS.iload X169.here hx rfl (hb hby at_179) rfl ?_
    show Steps p.tables e below (T169.setTop (mkF m 181 #[.val (.int p0), .val (.int p1), .val (.int p2), .val (.int p3), .val (.ref b1), .val (.ref b47), .val (.int (own_b p0)), .val (.int (own_b p1)), .val (.ref b114), .val (.ref b145), .val (.int (own_sep (own_v5 (0 : Int32) (0 : Int32) (own_q2 p2) (own_q3 p2) (own_q4 p2)) (own_v5 (0 : Int32) (own_s1 p3) (own_s2 p2 p3) (own_s3 p2 p3) (own_s4 p2 p3)) 9 x_ y_ 0)), .val (.int (0 : Int32))] [(.int (0 : Int32))])) _
    refine XS.iconst X169.here hx rfl (hb hby at_181) ?_
    show Steps p.tables e below (T169.setTop (mkF m 182 #[.val (.int p0), .val (.int p1), .val (.int p2), .val (.int p3), .val (.ref b1), .val (.ref b47), .val (.int (own_b p0)), .val (.int (own_b p1)), .val (.ref b114), .val (.ref b145), .val (.int (own_sep (own_v5 (0 : Int32) (0 : Int32) (own_q2 p2) (own_q3 p2) (own_q4 p2)) (own_v5 (0 : Int32) (own_s1 p3) (own_s2 p2 p3) (own_s3 p2 p3) (own_s4 p2 p3)) 9 x_ y_ 0)), .val (.int (0 : Int32))] [(.int (1 : Int32)), (.int (0 : Int32))])) _
    refine XS.iload X169.here hx rfl (hb hby at_182) rfl ?_
    show Steps p.tables e below (T169.setTop (mkF m 184 #[.val (.int p0), .val (.int p1), .val (.int p2), .val (.int p3), .val (.ref b1), .val (.ref b47), .val (.int (own_b p0)), .val (.int (own_b p1)), .val (.ref b114), .val (.ref b145), .val (.int (own_sep (own_v5 (0 : Int32) (0 : Int32) (own_q2 p2) (own_q3 p2) (own_q4 p2)) (own_v5 (0 : Int32) (own_s1 p3) (own_s2 p2 p3) (own_s3 p2 p3) (own_s4 p2 p3)) 9 x_ y_ 0)), .val (.int (0 : Int32))] [(.int (own_b p0)), (.int (1 : Int32)), (.int (0 : Int32))])) _
    refine XS.iload X169.here hx rfl (hb hby at_184) rfl ?_
    show Steps p.tables e below (T169.setTop (mkF m 186 #[.val (.int p0), .val (.int p1), .val (.int p2), .val (.int p3), .val (.ref b1), .val (.ref b47), .val (.int (own_b p0)), .val (.int (own_b p1)), .val (.ref b114), .val (.ref b145), .val (.int (own_sep (own_v5 (0 : Int32) (0 : Int32) (own_q2 p2) (own_q3 p2) (own_q4 p2)) (own_v5 (0 : Int32) (own_s1 p3) (own_s2 p2 p3) (own_s3 p2 p3) (own_s4 p2 p3)) 9 x_ y_ 0)), .val (.int (0 : Int32))] [(.int (own_b p1)), (.int (own_b p0)), (.int (1 : Int32)), (.int (0 : Int32))])) _
    refine XS.aload X169.here hx rfl (hb hby at_186) rfl rfl ?_
    show Steps p.tables e below (T169.setTop (mkF m 188 #[.val (.int p0), .val (.int p1), .val (.int p2), .val (.int p3), .val (.ref b1), .val (.ref b47), .val (.int (own_b p0)), .val (.int (own_b p1)), .val (.ref b114), .val (.ref b145), .val (.int (own_sep (own_v5 (0 : Int32) (0 : Int32) (own_q2 p2) (own_q3 p2) (own_q4 p2)) (own_v5 (0 : Int32) (own_s1 p3) (own_s2 p2 p3) (own_s3 p2 p3) (own_s4 p2 p3)) 9 x_ y_ 0)), .val (.int (0 : Int32))] [(.ref b1), (.int (own_b p1)), (.int (own_b p0)), (.int (1 : Int32)), (.int (0 : Int32))])) _
    refine XS.aload X169.here hx rfl (hb hby at_188) rfl rfl ?_
    show Steps p.tables e below (T169.setTop (mkF m 190 #[.val (.int p0), .val (.int p1), .val (.int p2), .val (.int p3), .val (.ref b1), .val (.ref b47), .val (.int (own_b p0)), .val (.int (own_b p1)), .val (.ref b114), .val (.ref b145), .val (.int (own_sep (own_v5 (0 : Int32) (0 : Int32) (own_q2 p2) (own_q3 p2) (own_q4 p2)) (own_v5 (0 : Int32) (own_s1 p3) (own_s2 p2 p3) (own_s3 p2 p3) (own_s4 p2 p3)) 9 x_ y_ 0)), .val (.int (0 : Int32))] [(.ref b47), (.ref b1), (.int (own_b p1)), (.int (own_b p0)), (.int (1 : Int32)), (.int (0 : Int32))])) _
    refine st174 _ ?_
    show Steps p.tables e below (T174.setTop (mkF m 193 #[.val (.int p0), .val (.int p1), .val (.int p2), .val (.int p3), .val (.ref b1), .val (.ref b47), .val (.int (own_b p0)), .val (.int (own_b p1)), .val (.ref b114), .val (.ref b145), .val (.int (own_sep (own_v5 (0 : Int32) (0 : Int32) (own_q2 p2) (own_q3 p2) (own_q4 p2)) (own_v5 (0 : Int32) (own_s1 p3) (own_s2 p2 p3) (own_s3 p2 p3) (own_s4 p2 p3)) 9 x_ y_ 0)), .val (.int (0 : Int32))] [(.int (own_con (own_v5 (0 : Int32) (0 : Int32) (own_q2 p2) (own_q3 p2) (own_q4 p2)) (own_v5 (0 : Int32) (own_s1 p3) (own_s2 p2 p3) (own_s3 p2 p3) (own_s4 p2 p3)) (0 : Int32) (1 : Int32) 1 x_ y_))])) _
    refine XS.istore X174.here hx rfl (hb hby at_193) rfl (l' := #[.val (.int p0), .val (.int p1), .val (.int p2), .val (.int p3), .val (.ref b1), .val (.ref b47), .val (.int (own_b p0)), .val (.int (own_b p1)), .val (.ref b114), .val (.ref b145), .val (.int (own_sep (own_v5 (0 : Int32) (0 : Int32) (own_q2 p2) (own_q3 p2) (own_q4 p2)) (own_v5 (0 : Int32) (own_s1 p3) (own_s2 p2 p3) (own_s3 p2 p3) (own_s4 p2 p3)) 9 x_ y_ 0)), .val (.int (own_con (own_v5 (0 : Int32) (0 : Int32) (own_q2 p2) (own_q3 p2) (own_q4 p2)) (own_v5 (0 : Int32) (own_s1 p3) (own_s2 p2 p3) (own_s3 p2 p3) (own_s4 p2 p3)) (0 : Int32) (1 : Int32) 1 x_ y_))]) rfl ?_
    show Steps p.tables e below (T174.setTop (mkF m 195 #[.val (.int p0), .val (.int p1), .val (.int p2), .val (.int p3), .val (.ref b1), .val (.ref b47), .val (.int (own_b p0)), .val (.int (own_b p1)), .val (.ref b114), .val (.ref b145), .val (.int (own_sep (own_v5 (0 : Int32) (0 : Int32) (own_q2 p2) (own_q3 p2) (own_q4 p2)) (own_v5 (0 : Int32) (own_s1 p3) (own_s2 p2 p3) (own_s3 p2 p3) (own_s4 p2 p3)) 9 x_ y_ 0)), .val (.int (own_con (own_v5 (0 : Int32) (0 : Int32) (own_q2 p2) (own_q3 p2) (own_q4 p2)) (own_v5 (0 : Int32) (own_s1 p3) (own_s2 p2 p3) (own_s3 p2 p3) (own_s4 p2 p3)) (0 : Int32) (1 : Int32) 1 x_ y_))] [])) _
    refine XS.iload X174.here hx rfl (hb hby at_195) rfl ?_
    show Steps p.tables e below (T174.setTop (mkF m 197 #[.val (.int p0), .val (.int p1), .val (.int p2), .val (.int p3), .val (.ref b1), .val (.ref b47), .val (.int (own_b p0)), .val (.int (own_b p1)), .val (.ref b114), .val (.ref b145), .val (.int (own_sep (own_v5 (0 : Int32) (0 : Int32) (own_q2 p2) (own_q3 p2) (own_q4 p2)) (own_v5 (0 : Int32) (own_s1 p3) (own_s2 p2 p3) (own_s3 p2 p3) (own_s4 p2 p3)) 9 x_ y_ 0)), .val (.int (own_con (own_v5 (0 : Int32) (0 : Int32) (own_q2 p2) (own_q3 p2) (own_q4 p2)) (own_v5 (0 : Int32) (own_s1 p3) (own_s2 p2 p3) (own_s3 p2 p3) (own_s4 p2 p3)) (0 : Int32) (1 : Int32) 1 x_ y_))] [(.int (own_con (own_v5 (0 : Int32) (0 : Int32) (own_q2 p2) (own_q3 p2) (own_q4 p2)) (own_v5 (0 : Int32) (own_s1 p3) (own_s2 p2 p3) (own_s3 p2 p3) (own_s4 p2 p3)) (0 : Int32) (1 : Int32) 1 x_ y_))])) _
    refine XS.iconst X174.here hx rfl (hb hby at_197) ?_
    show Steps p.tables e below (T174.setTop (mkF m 198 #[.val (.int p0), .val (.int p1), .val (.int p2), .val (.int p3), .val (.ref b1), .val (.ref b47), .val (.int (own_b p0)), .val (.int (own_b p1)), .val (.ref b114), .val (.ref b145), .val (.int (own_sep (own_v5 (0 : Int32) (0 : Int32) (own_q2 p2) (own_q3 p2) (own_q4 p2)) (own_v5 (0 : Int32) (own_s1 p3) (own_s2 p2 p3) (own_s3 p2 p3) (own_s4 p2 p3)) 9 x_ y_ 0)), .val (.int (own_con (own_v5 (0 : Int32) (0 : Int32) (own_q2 p2) (own_q3 p2) (own_q4 p2)) (own_v5 (0 : Int32) (own_s1 p3) (own_s2 p2 p3) (own_s3 p2 p3) (own_s4 p2 p3)) (0 : Int32) (1 : Int32) 1 x_ y_))] [(.int (2 : Int32)), (.int (own_con (own_v5 (0 : Int32) (0 : Int32) (own_q2 p2) (own_q3 p2) (own_q4 p2)) (own_v5 (0 : Int32) (own_s1 p3) (own_s2 p2 p3) (own_s3 p2 p3) (own_s4 p2 p3)) (0 : Int32) (1 : Int32) 1 x_ y_))])) _
    refine XS.iload X174.here hx rfl (hb hby at_198) rfl ?_
    show Steps p.tables e below (T174.setTop (mkF m 200 #[.val (.int p0), .val (.int p1), .val (.int p2), .val (.int p3), .val (.ref b1), .val (.ref b47), .val (.int (own_b p0)), .val (.int (own_b p1)), .val (.ref b114), .val (.ref b145), .val (.int (own_sep (own_v5 (0 : Int32) (0 : Int32) (own_q2 p2) (own_q3 p2) (own_q4 p2)) (own_v5 (0 : Int32) (own_s1 p3) (own_s2 p2 p3) (own_s3 p2 p3) (own_s4 p2 p3)) 9 x_ y_ 0)), .val (.int (own_con (own_v5 (0 : Int32) (0 : Int32) (own_q2 p2) (own_q3 p2) (own_q4 p2)) (own_v5 (0 : Int32) (own_s1 p3) (own_s2 p2 p3) (own_s3 p2 p3) (own_s4 p2 p3)) (0 : Int32) (1 : Int32) 1 x_ y_))] [(.int (own_b p0)), (.int (2 : Int32)), (.int (own_con (own_v5 (0 : Int32) (0 : Int32) (own_q2 p2) (own_q3 p2) (own_q4 p2)) (own_v5 (0 : Int32) (own_s1 p3) (own_s2 p2 p3) (own_s3 p2 p3) (own_s4 p2 p3)) (0 : Int32) (1 : Int32) 1 x_ y_))])) _
    refine XS.iload X174.here hx rfl (hb hby at_200) rfl ?_
    show Steps p.tables e below (T174.setTop (mkF m 202 #[.val (.int p0), .val (.int p1), .val (.int p2), .val (.int p3), .val (.ref b1), .val (.ref b47), .val (.int (own_b p0)), .val (.int (own_b p1)), .val (.ref b114), .val (.ref b145), .val (.int (own_sep (own_v5 (0 : Int32) (0 : Int32) (own_q2 p2) (own_q3 p2) (own_q4 p2)) (own_v5 (0 : Int32) (own_s1 p3) (own_s2 p2 p3) (own_s3 p2 p3) (own_s4 p2 p3)) 9 x_ y_ 0)), .val (.int (own_con (own_v5 (0 : Int32) (0 : Int32) (own_q2 p2) (own_q3 p2) (own_q4 p2)) (own_v5 (0 : Int32) (own_s1 p3) (own_s2 p2 p3) (own_s3 p2 p3) (own_s4 p2 p3)) (0 : Int32) (1 : Int32) 1 x_ y_))] [(.int (own_b p1)), (.int (own_b p0)), (.int (2 : Int32)), (.int (own_con (own_v5 (0 : Int32) (0 : Int32) (own_q2 p2) (own_q3 p2) (own_q4 p2)) (own_v5 (0 : Int32) (own_s1 p3) (own_s2 p2 p3) (own_s3 p2 p3) (own_s4 p2 p3)) (0 : Int32) (1 : Int32) 1 x_ y_))])) _
    refine XS.aload X174.here hx rfl (hb hby at_202) rfl rfl ?_
    show Steps p.tables e below (T174.setTop (mkF m 204 #[.val (.int p0), .val (.int p1), .val (.int p2), .val (.int p3), .val (.ref b1), .val (.ref b47), .val (.int (own_b p0)), .val (.int (own_b p1)), .val (.ref b114), .val (.ref b145), .val (.int (own_sep (own_v5 (0 : Int32) (0 : Int32) (own_q2 p2) (own_q3 p2) (own_q4 p2)) (own_v5 (0 : Int32) (own_s1 p3) (own_s2 p2 p3) (own_s3 p2 p3) (own_s4 p2 p3)) 9 x_ y_ 0)), .val (.int (own_con (own_v5 (0 : Int32) (0 : Int32) (own_q2 p2) (own_q3 p2) (own_q4 p2)) (own_v5 (0 : Int32) (own_s1 p3) (own_s2 p2 p3) (own_s3 p2 p3) (own_s4 p2 p3)) (0 : Int32) (1 : Int32) 1 x_ y_))] [(.ref b1), (.int (own_b p1)), (.int (own_b p0)), (.int (2 : Int32)), (.int (own_con (own_v5 (0 : Int32) (0 : Int32) (own_q2 p2) (own_q3 p2) (own_q4 p2)) (own_v5 (0 : Int32) (own_s1 p3) (own_s2 p2 p3) (own_s3 p2 p3) (own_s4 p2 p3)) (0 : Int32) (1 : Int32) 1 x_ y_))])) _
    refine XS.aload X174.here hx rfl (hb hby at_204) rfl rfl ?_
    show Steps p.tables e below (T174.setTop (mkF m 206 #[.val (.int p0), .val (.int p1), .val (.int p2), .val (.int p3), .val (.ref b1), .val (.ref b47), .val (.int (own_b p0)), .val (.int (own_b p1)), .val (.ref b114), .val (.ref b145), .val (.int (own_sep (own_v5 (0 : Int32) (0 : Int32) (own_q2 p2) (own_q3 p2) (own_q4 p2)) (own_v5 (0 : Int32) (own_s1 p3) (own_s2 p2 p3) (own_s3 p2 p3) (own_s4 p2 p3)) 9 x_ y_ 0)), .val (.int (own_con (own_v5 (0 : Int32) (0 : Int32) (own_q2 p2) (own_q3 p2) (own_q4 p2)) (own_v5 (0 : Int32) (own_s1 p3) (own_s2 p2 p3) (own_s3 p2 p3) (own_s4 p2 p3)) (0 : Int32) (1 : Int32) 1 x_ y_))] [(.ref b47), (.ref b1), (.int (own_b p1)), (.int (own_b p0)), (.int (2 : Int32)), (.int (own_con (own_v5 (0 : Int32) (0 : Int32) (own_q2 p2) (own_q3 p2) (own_q4 p2)) (own_v5 (0 : Int32) (own_s1 p3) (own_s2 p2 p3) (own_s3 p2 p3) (own_s4 p2 p3)) (0 : Int32) (1 : Int32) 1 x_ y_))])) _
    refine st178 _ ?_
    show Steps p.tables e below (T178.setTop (mkF m 209 #[.val (.int p0), .val (.int p1), .val (.int p2), .val (.int p3), .val (.ref b1), .val (.ref b47), .val (.int (own_b p0)), .val (.int (own_b p1)), .val (.ref b114), .val (.ref b145), .val (.int (own_sep (own_v5 (0 : Int32) (0 : Int32) (own_q2 p2) (own_q3 p2) (own_q4 p2)) (own_v5 (0 : Int32) (own_s1 p3) (own_s2 p2 p3) (own_s3 p2 p3) (own_s4 p2 p3)) 9 x_ y_ 0)), .val (.int (own_con (own_v5 (0 : Int32) (0 : Int32) (own_q2 p2) (own_q3 p2) (own_q4 p2)) (own_v5 (0 : Int32) (own_s1 p3) (own_s2 p2 p3) (own_s3 p2 p3) (own_s4 p2 p3)) (0 : Int32) (1 : Int32) 1 x_ y_))] [(.int (own_con (own_v5 (0 : Int32) (0 : Int32) (own_q2 p2) (own_q3 p2) (own_q4 p2)) (own_v5 (0 : Int32) (own_s1 p3) (own_s2 p2 p3) (own_s3 p2 p3) (own_s4 p2 p3)) (own_con (own_v5 (0 : Int32) (0 : Int32) (own_q2 p2) (own_q3 p2) (own_q4 p2)) (own_v5 (0 : Int32) (own_s1 p3) (own_s2 p2 p3) (own_s3 p2 p3) (own_s4 p2 p3)) (0 : Int32) (1 : Int32) 1 x_ y_) (2 : Int32) 2 x_ y_))])) _
    refine XS.istore X178.here hx rfl (hb hby at_209) rfl (l' := #[.val (.int p0), .val (.int p1), .val (.int p2), .val (.int p3), .val (.ref b1), .val (.ref b47), .val (.int (own_b p0)), .val (.int (own_b p1)), .val (.ref b114), .val (.ref b145), .val (.int (own_sep (own_v5 (0 : Int32) (0 : Int32) (own_q2 p2) (own_q3 p2) (own_q4 p2)) (own_v5 (0 : Int32) (own_s1 p3) (own_s2 p2 p3) (own_s3 p2 p3) (own_s4 p2 p3)) 9 x_ y_ 0)), .val (.int (own_con (own_v5 (0 : Int32) (0 : Int32) (own_q2 p2) (own_q3 p2) (own_q4 p2)) (own_v5 (0 : Int32) (own_s1 p3) (own_s2 p2 p3) (own_s3 p2 p3) (own_s4 p2 p3)) (own_con (own_v5 (0 : Int32) (0 : Int32) (own_q2 p2) (own_q3 p2) (own_q4 p2)) (own_v5 (0 : Int32) (own_s1 p3) (own_s2 p2 p3) (own_s3 p2 p3) (own_s4 p2 p3)) (0 : Int32) (1 : Int32) 1 x_ y_) (2 : Int32) 2 x_ y_))]) rfl ?_
    show Steps p.tables e below (T178.setTop (mkF m 211 #[.val (.int p0), .val (.int p1), .val (.int p2), .val (.int p3), .val (.ref b1), .val (.ref b47), .val (.int (own_b p0)), .val (.int (own_b p1)), .val (.ref b114), .val (.ref b145), .val (.int (own_sep (own_v5 (0 : Int32) (0 : Int32) (own_q2 p2) (own_q3 p2) (own_q4 p2)) (own_v5 (0 : Int32) (own_s1 p3) (own_s2 p2 p3) (own_s3 p2 p3) (own_s4 p2 p3)) 9 x_ y_ 0)), .val (.int (own_con (own_v5 (0 : Int32) (0 : Int32) (own_q2 p2) (own_q3 p2) (own_q4 p2)) (own_v5 (0 : Int32) (own_s1 p3) (own_s2 p2 p3) (own_s3 p2 p3) (own_s4 p2 p3)) (own_con (own_v5 (0 : Int32) (0 : Int32) (own_q2 p2) (own_q3 p2) (own_q4 p2)) (own_v5 (0 : Int32) (own_s1 p3) (own_s2 p2 p3) (own_s3 p2 p3) (own_s4 p2 p3)) (0 : Int32) (1 : Int32) 1 x_ y_) (2 : Int32) 2 x_ y_))] [])) _
    refine XS.iload X178.here hx rfl (hb hby at_211) rfl ?_
    show Steps p.tables e below (T178.setTop (mkF m 213 #[.val (.int p0), .val (.int p1), .val (.int p2), .val (.int p3), .val (.ref b1), .val (.ref b47), .val (.int (own_b p0)), .val (.int (own_b p1)), .val (.ref b114), .val (.ref b145), .val (.int (own_sep (own_v5 (0 : Int32) (0 : Int32) (own_q2 p2) (own_q3 p2) (own_q4 p2)) (own_v5 (0 : Int32) (own_s1 p3) (own_s2 p2 p3) (own_s3 p2 p3) (own_s4 p2 p3)) 9 x_ y_ 0)), .val (.int (own_con (own_v5 (0 : Int32) (0 : Int32) (own_q2 p2) (own_q3 p2) (own_q4 p2)) (own_v5 (0 : Int32) (own_s1 p3) (own_s2 p2 p3) (own_s3 p2 p3) (own_s4 p2 p3)) (own_con (own_v5 (0 : Int32) (0 : Int32) (own_q2 p2) (own_q3 p2) (own_q4 p2)) (own_v5 (0 : Int32) (own_s1 p3) (own_s2 p2 p3) (own_s3 p2 p3) (own_s4 p2 p3)) (0 : Int32) (1 : Int32) 1 x_ y_) (2 : Int32) 2 x_ y_))] [(.int (own_con (own_v5 (0 : Int32) (0 : Int32) (own_q2 p2) (own_q3 p2) (own_q4 p2)) (own_v5 (0 : Int32) (own_s1 p3) (own_s2 p2 p3) (own_s3 p2 p3) (own_s4 p2 p3)) (own_con (own_v5 (0 : Int32) (0 : Int32) (own_q2 p2) (own_q3 p2) (own_q4 p2)) (own_v5 (0 : Int32) (own_s1 p3) (own_s2 p2 p3) (own_s3 p2 p3) (own_s4 p2 p3)) (0 : Int32) (1 : Int32) 1 x_ y_) (2 : Int32) 2 x_ y_))])) _
    refine XS.iconst X178.here hx rfl (hb hby at_213) ?_
    show Steps p.tables e below (T178.setTop (mkF m 214 #[.val (.int p0), .val (.int p1), .val (.int p2), .val (.int p3), .val (.ref b1), .val (.ref b47), .val (.int (own_b p0)), .val (.int (own_b p1)), .val (.ref b114), .val (.ref b145), .val (.int (own_sep (own_v5 (0 : Int32) (0 : Int32) (own_q2 p2) (own_q3 p2) (own_q4 p2)) (own_v5 (0 : Int32) (own_s1 p3) (own_s2 p2 p3) (own_s3 p2 p3) (own_s4 p2 p3)) 9 x_ y_ 0)), .val (.int (own_con (own_v5 (0 : Int32) (0 : Int32) (own_q2 p2) (own_q3 p2) (own_q4 p2)) (own_v5 (0 : Int32) (own_s1 p3) (own_s2 p2 p3) (own_s3 p2 p3) (own_s4 p2 p3)) (own_con (own_v5 (0 : Int32) (0 : Int32) (own_q2 p2) (own_q3 p2) (own_q4 p2)) (own_v5 (0 : Int32) (own_s1 p3) (own_s2 p2 p3) (own_s3 p2 p3) (own_s4 p2 p3)) (0 : Int32) (1 : Int32) 1 x_ y_) (2 : Int32) 2 x_ y_))] [(.int (3 : Int32)), (.int (own_con (own_v5 (0 : Int32) (0 : Int32) (own_q2 p2) (own_q3 p2) (own_q4 p2)) (own_v5 (0 : Int32) (own_s1 p3) (own_s2 p2 p3) (own_s3 p2 p3) (own_s4 p2 p3)) (own_con (own_v5 (0 : Int32) (0 : Int32) (own_q2 p2) (own_q3 p2) (own_q4 p2)) (own_v5 (0 : Int32) (own_s1 p3) (own_s2 p2 p3) (own_s3 p2 p3) (own_s4 p2 p3)) (0 : Int32) (1 : Int32) 1 x_ y_) (2 : Int32) 2 x_ y_))])) _
    refine XS.iload X178.here hx rfl (hb hby at_214) rfl ?_
    show Steps p.tables e below (T178.setTop (mkF m 216 #[.val (.int p0), .val (.int p1), .val (.int p2), .val (.int p3), .val (.ref b1), .val (.ref b47), .val (.int (own_b p0)), .val (.int (own_b p1)), .val (.ref b114), .val (.ref b145), .val (.int (own_sep (own_v5 (0 : Int32) (0 : Int32) (own_q2 p2) (own_q3 p2) (own_q4 p2)) (own_v5 (0 : Int32) (own_s1 p3) (own_s2 p2 p3) (own_s3 p2 p3) (own_s4 p2 p3)) 9 x_ y_ 0)), .val (.int (own_con (own_v5 (0 : Int32) (0 : Int32) (own_q2 p2) (own_q3 p2) (own_q4 p2)) (own_v5 (0 : Int32) (own_s1 p3) (own_s2 p2 p3) (own_s3 p2 p3) (own_s4 p2 p3)) (own_con (own_v5 (0 : Int32) (0 : Int32) (own_q2 p2) (own_q3 p2) (own_q4 p2)) (own_v5 (0 : Int32) (own_s1 p3) (own_s2 p2 p3) (own_s3 p2 p3) (own_s4 p2 p3)) (0 : Int32) (1 : Int32) 1 x_ y_) (2 : Int32) 2 x_ y_))] [(.int (own_b p0)), (.int (3 : Int32)), (.int (own_con (own_v5 (0 : Int32) (0 : Int32) (own_q2 p2) (own_q3 p2) (own_q4 p2)) (own_v5 (0 : Int32) (own_s1 p3) (own_s2 p2 p3) (own_s3 p2 p3) (own_s4 p2 p3)) (own_con (own_v5 (0 : Int32) (0 : Int32) (own_q2 p2) (own_q3 p2) (own_q4 p2)) (own_v5 (0 : Int32) (own_s1 p3) (own_s2 p2 p3) (own_s3 p2 p3) (own_s4 p2 p3)) (0 : Int32) (1 : Int32) 1 x_ y_) (2 : Int32) 2 x_ y_))])) _
    refine XS.iload X178.here hx rfl (hb hby at_216) rfl ?_
    show Steps p.tables e below (T178.setTop (mkF m 218 #[.val (.int p0), .val (.int p1), .val (.int p2), .val (.int p3), .val (.ref b1), .val (.ref b47), .val (.int (own_b p0)), .val (.int (own_b p1)), .val (.ref b114), .val (.ref b145), .val (.int (own_sep (own_v5 (0 : Int32) (0 : Int32) (own_q2 p2) (own_q3 p2) (own_q4 p2)) (own_v5 (0 : Int32) (own_s1 p3) (own_s2 p2 p3) (own_s3 p2 p3) (own_s4 p2 p3)) 9 x_ y_ 0)), .val (.int (own_con (own_v5 (0 : Int32) (0 : Int32) (own_q2 p2) (own_q3 p2) (own_q4 p2)) (own_v5 (0 : Int32) (own_s1 p3) (own_s2 p2 p3) (own_s3 p2 p3) (own_s4 p2 p3)) (own_con (own_v5 (0 : Int32) (0 : Int32) (own_q2 p2) (own_q3 p2) (own_q4 p2)) (own_v5 (0 : Int32) (own_s1 p3) (own_s2 p2 p3) (own_s3 p2 p3) (own_s4 p2 p3)) (0 : Int32) (1 : Int32) 1 x_ y_) (2 : Int32) 2 x_ y_))] [(.int (own_b p1)), (.int (own_b p0)), (.int (3 : Int32)), (.int (own_con (own_v5 (0 : Int32) (0 : Int32) (own_q2 p2) (own_q3 p2) (own_q4 p2)) (own_v5 (0 : Int32) (own_s1 p3) (own_s2 p2 p3) (own_s3 p2 p3) (own_s4 p2 p3)) (own_con (own_v5 (0 : Int32) (0 : Int32) (own_q2 p2) (own_q3 p2) (own_q4 p2)) (own_v5 (0 : Int32) (own_s1 p3) (own_s2 p2 p3) (own_s3 p2 p3) (own_s4 p2 p3)) (0 : Int32) (1 : Int32) 1 x_ y_) (2 : Int32) 2 x_ y_))])) _
    refine XS.aload X178.here hx rfl (hb hby at_218) rfl rfl ?_
    show Steps p.tables e below (T178.setTop (mkF m 220 #[.val (.int p0), .val (.int p1), .val (.int p2), .val (.int p3), .val (.ref b1), .val (.ref b47), .val (.int (own_b p0)), .val (.int (own_b p1)), .val (.ref b114), .val (.ref b145), .val (.int (own_sep (own_v5 (0 : Int32) (0 : Int32) (own_q2 p2) (own_q3 p2) (own_q4 p2)) (own_v5 (0 : Int32) (own_s1 p3) (own_s2 p2 p3) (own_s3 p2 p3) (own_s4 p2 p3)) 9 x_ y_ 0)), .val (.int (own_con (own_v5 (0 : Int32) (0 : Int32) (own_q2 p2) (own_q3 p2) (own_q4 p2)) (own_v5 (0 : Int32) (own_s1 p3) (own_s2 p2 p3) (own_s3 p2 p3) (own_s4 p2 p3)) (own_con (own_v5 (0 : Int32) (0 : Int32) (own_q2 p2) (own_q3 p2) (own_q4 p2)) (own_v5 (0 : Int32) (own_s1 p3) (own_s2 p2 p3) (own_s3 p2 p3) (own_s4 p2 p3)) (0 : Int32) (1 : Int32) 1 x_ y_) (2 : Int32) 2 x_ y_))] [(.ref b1), (.int (own_b p1)), (.int (own_b p0)), (.int (3 : Int32)), (.int (own_con (own_v5 (0 : Int32) (0 : Int32) (own_q2 p2) (own_q3 p2) (own_q4 p2)) (own_v5 (0 : Int32) (own_s1 p3) (own_s2 p2 p3) (own_s3 p2 p3) (own_s4 p2 p3)) (own_con (own_v5 (0 : Int32) (0 : Int32) (own_q2 p2) (own_q3 p2) (own_q4 p2)) (own_v5 (0 : Int32) (own_s1 p3) (own_s2 p2 p3) (own_s3 p2 p3) (own_s4 p2 p3)) (0 : Int32) (1 : Int32) 1 x_ y_) (2 : Int32) 2 x_ y_))])) _
    refine XS.aload X178.here hx rfl (hb hby at_220) rfl rfl ?_
    show Steps p.tables e below (T178.setTop (mkF m 222 #[.val (.int p0), .val (.int p1), .val (.int p2), .val (.int p3), .val (.ref b1), .val (.ref b47), .val (.int (own_b p0)), .val (.int (own_b p1)), .val (.ref b114), .val (.ref b145), .val (.int (own_sep (own_v5 (0 : Int32) (0 : Int32) (own_q2 p2) (own_q3 p2) (own_q4 p2)) (own_v5 (0 : Int32) (own_s1 p3) (own_s2 p2 p3) (own_s3 p2 p3) (own_s4 p2 p3)) 9 x_ y_ 0)), .val (.int (own_con (own_v5 (0 : Int32) (0 : Int32) (own_q2 p2) (own_q3 p2) (own_q4 p2)) (own_v5 (0 : Int32) (own_s1 p3) (own_s2 p2 p3) (own_s3 p2 p3) (own_s4 p2 p3)) (own_con (own_v5 (0 : Int32) (0 : Int32) (own_q2 p2) (own_q3 p2) (own_q4 p2)) (own_v5 (0 : Int32) (own_s1 p3) (own_s2 p2 p3) (own_s3 p2 p3) (own_s4 p2 p3)) (0 : Int32) (1 : Int32) 1 x_ y_) (2 : Int32) 2 x_ y_))] [(.ref b47), (.ref b1), (.int (own_b p1)), (.int (own_b p0)), (.int (3 : Int32)), (.int (own_con (own_v5 (0 : Int32) (0 : Int32) (own_q2 p2) (own_q3 p2) (own_q4 p2)) (own_v5 (0 : Int32) (own_s1 p3) (own_s2 p2 p3) (own_s3 p2 p3) (own_s4 p2 p3)) (own_con (own_v5 (0 : Int32) (0 : Int32) (own_q2 p2) (own_q3 p2) (own_q4 p2)) (own_v5 (0 : Int32) (own_s1 p3) (own_s2 p2 p3) (own_s3 p2 p3) (own_s4 p2 p3)) (0 : Int32) (1 : Int32) 1 x_ y_) (2 : Int32) 2 x_ y_))])) _
    refine st182 _ ?_
    show Steps p.tables e below (T182.setTop (mkF m 225 #[.val (.int p0), .val (.int p1), .val (.int p2), .val (.int p3), .val (.ref b1), .val (.ref b47), .val (.int (own_b p0)), .val (.int (own_b p1)), .val (.ref b114), .val (.ref b145), .val (.int (own_sep (own_v5 (0 : Int32) (0 : Int32) (own_q2 p2) (own_q3 p2) (own_q4 p2)) (own_v5 (0 : Int32) (own_s1 p3) (own_s2 p2 p3) (own_s3 p2 p3) (own_s4 p2 p3)) 9 x_ y_ 0)), .val (.int (own_con (own_v5 (0 : Int32) (0 : Int32) (own_q2 p2) (own_q3 p2) (own_q4 p2)) (own_v5 (0 : Int32) (own_s1 p3) (own_s2 p2 p3) (own_s3 p2 p3) (own_s4 p2 p3)) (own_con (own_v5 (0 : Int32) (0 : Int32) (own_q2 p2) (own_q3 p2) (own_q4 p2)) (own_v5 (0 : Int32) (own_s1 p3) (own_s2 p2 p3) (own_s3 p2 p3) (own_s4 p2 p3)) (0 : Int32) (1 : Int32) 1 x_ y_) (2 : Int32) 2 x_ y_))] [(.int (own_con (own_v5 (0 : Int32) (0 : Int32) (own_q2 p2) (own_q3 p2) (own_q4 p2)) (own_v5 (0 : Int32) (own_s1 p3) (own_s2 p2 p3) (own_s3 p2 p3) (own_s4 p2 p3)) (own_con (own_v5 (0 : Int32) (0 : Int32) (own_q2 p2) (own_q3 p2) (own_q4 p2)) (own_v5 (0 : Int32) (own_s1 p3) (own_s2 p2 p3) (own_s3 p2 p3) (own_s4 p2 p3)) (own_con (own_v5 (0 : Int32) (0 : Int32) (own_q2 p2) (own_q3 p2) (own_q4 p2)) (own_v5 (0 : Int32) (own_s1 p3) (own_s2 p2 p3) (own_s3 p2 p3) (own_s4 p2 p3)) (0 : Int32) (1 : Int32) 1 x_ y_) (2 : Int32) 2 x_ y_) (3 : Int32) 3 x_ y_))])) _
    refine XS.istore X182.here hx rfl (hb hby at_225) rfl (l' := #[.val (.int p0), .val (.int p1), .val (.int p2), .val (.int p3), .val (.ref b1), .val (.ref b47), .val (.int (own_b p0)), .val (.int (own_b p1)), .val (.ref b114), .val (.ref b145), .val (.int (own_sep (own_v5 (0 : Int32) (0 : Int32) (own_q2 p2) (own_q3 p2) (own_q4 p2)) (own_v5 (0 : Int32) (own_s1 p3) (own_s2 p2 p3) (own_s3 p2 p3) (own_s4 p2 p3)) 9 x_ y_ 0)), .val (.int (own_con (own_v5 (0 : Int32) (0 : Int32) (own_q2 p2) (own_q3 p2) (own_q4 p2)) (own_v5 (0 : Int32) (own_s1 p3) (own_s2 p2 p3) (own_s3 p2 p3) (own_s4 p2 p3)) (own_con (own_v5 (0 : Int32) (0 : Int32) (own_q2 p2) (own_q3 p2) (own_q4 p2)) (own_v5 (0 : Int32) (own_s1 p3) (own_s2 p2 p3) (own_s3 p2 p3) (own_s4 p2 p3)) (own_con (own_v5 (0 : Int32) (0 : Int32) (own_q2 p2) (own_q3 p2) (own_q4 p2)) (own_v5 (0 : Int32) (own_s1 p3) (own_s2 p2 p3) (own_s3 p2 p3) (own_s4 p2 p3)) (0 : Int32) (1 : Int32) 1 x_ y_) (2 : Int32) 2 x_ y_) (3 : Int32) 3 x_ y_))]) rfl ?_
    show Steps p.tables e below (T182.setTop (mkF m 227 #[.val (.int p0), .val (.int p1), .val (.int p2), .val (.int p3), .val (.ref b1), .val (.ref b47), .val (.int (own_b p0)), .val (.int (own_b p1)), .val (.ref b114), .val (.ref b145), .val (.int (own_sep (own_v5 (0 : Int32) (0 : Int32) (own_q2 p2) (own_q3 p2) (own_q4 p2)) (own_v5 (0 : Int32) (own_s1 p3) (own_s2 p2 p3) (own_s3 p2 p3) (own_s4 p2 p3)) 9 x_ y_ 0)), .val (.int (own_con (own_v5 (0 : Int32) (0 : Int32) (own_q2 p2) (own_q3 p2) (own_q4 p2)) (own_v5 (0 : Int32) (own_s1 p3) (own_s2 p2 p3) (own_s3 p2 p3) (own_s4 p2 p3)) (own_con (own_v5 (0 : Int32) (0 : Int32) (own_q2 p2) (own_q3 p2) (own_q4 p2)) (own_v5 (0 : Int32) (own_s1 p3) (own_s2 p2 p3) (own_s3 p2 p3) (own_s4 p2 p3)) (own_con (own_v5 (0 : Int32) (0 : Int32) (own_q2 p2) (own_q3 p2) (own_q4 p2)) (own_v5 (0 : Int32) (own_s1 p3) (own_s2 p2 p3) (own_s3 p2 p3) (own_s4 p2 p3)) (0 : Int32) (1 : Int32) 1 x_ y_) (2 : Int32) 2 x_ y_) (3 : Int32) 3 x_ y_))] [])) _
    refine XS.iload X182.here hx rfl (hb hby at_227) rfl ?_
    show Steps p.tables e below (T182.setTop (mkF m 229 #[.val (.int p0), .val (.int p1), .val (.int p2), .val (.int p3), .val (.ref b1), .val (.ref b47), .val (.int (own_b p0)), .val (.int (own_b p1)), .val (.ref b114), .val (.ref b145), .val (.int (own_sep (own_v5 (0 : Int32) (0 : Int32) (own_q2 p2) (own_q3 p2) (own_q4 p2)) (own_v5 (0 : Int32) (own_s1 p3) (own_s2 p2 p3) (own_s3 p2 p3) (own_s4 p2 p3)) 9 x_ y_ 0)), .val (.int (own_con (own_v5 (0 : Int32) (0 : Int32) (own_q2 p2) (own_q3 p2) (own_q4 p2)) (own_v5 (0 : Int32) (own_s1 p3) (own_s2 p2 p3) (own_s3 p2 p3) (own_s4 p2 p3)) (own_con (own_v5 (0 : Int32) (0 : Int32) (own_q2 p2) (own_q3 p2) (own_q4 p2)) (own_v5 (0 : Int32) (own_s1 p3) (own_s2 p2 p3) (own_s3 p2 p3) (own_s4 p2 p3)) (own_con (own_v5 (0 : Int32) (0 : Int32) (own_q2 p2) (own_q3 p2) (own_q4 p2)) (own_v5 (0 : Int32) (own_s1 p3) (own_s2 p2 p3) (own_s3 p2 p3) (own_s4 p2 p3)) (0 : Int32) (1 : Int32) 1 x_ y_) (2 : Int32) 2 x_ y_) (3 : Int32) 3 x_ y_))] [(.int (own_con (own_v5 (0 : Int32) (0 : Int32) (own_q2 p2) (own_q3 p2) (own_q4 p2)) (own_v5 (0 : Int32) (own_s1 p3) (own_s2 p2 p3) (own_s3 p2 p3) (own_s4 p2 p3)) (own_con (own_v5 (0 : Int32) (0 : Int32) (own_q2 p2) (own_q3 p2) (own_q4 p2)) (own_v5 (0 : Int32) (own_s1 p3) (own_s2 p2 p3) (own_s3 p2 p3) (own_s4 p2 p3)) (own_con (own_v5 (0 : Int32) (0 : Int32) (own_q2 p2) (own_q3 p2) (own_q4 p2)) (own_v5 (0 : Int32) (own_s1 p3) (own_s2 p2 p3) (own_s3 p2 p3) (own_s4 p2 p3)) (0 : Int32) (1 : Int32) 1 x_ y_) (2 : Int32) 2 x_ y_) (3 : Int32) 3 x_ y_))])) _
    refine XS.iconst X182.here hx rfl (hb hby at_229) ?_
    show Steps p.tables e below (T182.setTop (mkF m 230 #[.val (.int p0), .val (.int p1), .val (.int p2), .val (.int p3), .val (.ref b1), .val (.ref b47), .val (.int (own_b p0)), .val (.int (own_b p1)), .val (.ref b114), .val (.ref b145), .val (.int (own_sep (own_v5 (0 : Int32) (0 : Int32) (own_q2 p2) (own_q3 p2) (own_q4 p2)) (own_v5 (0 : Int32) (own_s1 p3) (own_s2 p2 p3) (own_s3 p2 p3) (own_s4 p2 p3)) 9 x_ y_ 0)), .val (.int (own_con (own_v5 (0 : Int32) (0 : Int32) (own_q2 p2) (own_q3 p2) (own_q4 p2)) (own_v5 (0 : Int32) (own_s1 p3) (own_s2 p2 p3) (own_s3 p2 p3) (own_s4 p2 p3)) (own_con (own_v5 (0 : Int32) (0 : Int32) (own_q2 p2) (own_q3 p2) (own_q4 p2)) (own_v5 (0 : Int32) (own_s1 p3) (own_s2 p2 p3) (own_s3 p2 p3) (own_s4 p2 p3)) (own_con (own_v5 (0 : Int32) (0 : Int32) (own_q2 p2) (own_q3 p2) (own_q4 p2)) (own_v5 (0 : Int32) (own_s1 p3) (own_s2 p2 p3) (own_s3 p2 p3) (own_s4 p2 p3)) (0 : Int32) (1 : Int32) 1 x_ y_) (2 : Int32) 2 x_ y_) (3 : Int32) 3 x_ y_))] [(.int (4 : Int32)), (.int (own_con (own_v5 (0 : Int32) (0 : Int32) (own_q2 p2) (own_q3 p2) (own_q4 p2)) (own_v5 (0 : Int32) (own_s1 p3) (own_s2 p2 p3) (own_s3 p2 p3) (own_s4 p2 p3)) (own_con (own_v5 (0 : Int32) (0 : Int32) (own_q2 p2) (own_q3 p2) (own_q4 p2)) (own_v5 (0 : Int32) (own_s1 p3) (own_s2 p2 p3) (own_s3 p2 p3) (own_s4 p2 p3)) (own_con (own_v5 (0 : Int32) (0 : Int32) (own_q2 p2) (own_q3 p2) (own_q4 p2)) (own_v5 (0 : Int32) (own_s1 p3) (own_s2 p2 p3) (own_s3 p2 p3) (own_s4 p2 p3)) (0 : Int32) (1 : Int32) 1 x_ y_) (2 : Int32) 2 x_ y_) (3 : Int32) 3 x_ y_))])) _
    refine XS.iload X182.here hx rfl (hb hby at_230) rfl ?_
    show Steps p.tables e below (T182.setTop (mkF m 232 #[.val (.int p0), .val (.int p1), .val (.int p2), .val (.int p3), .val (.ref b1), .val (.ref b47), .val (.int (own_b p0)), .val (.int (own_b p1)), .val (.ref b114), .val (.ref b145), .val (.int (own_sep (own_v5 (0 : Int32) (0 : Int32) (own_q2 p2) (own_q3 p2) (own_q4 p2)) (own_v5 (0 : Int32) (own_s1 p3) (own_s2 p2 p3) (own_s3 p2 p3) (own_s4 p2 p3)) 9 x_ y_ 0)), .val (.int (own_con (own_v5 (0 : Int32) (0 : Int32) (own_q2 p2) (own_q3 p2) (own_q4 p2)) (own_v5 (0 : Int32) (own_s1 p3) (own_s2 p2 p3) (own_s3 p2 p3) (own_s4 p2 p3)) (own_con (own_v5 (0 : Int32) (0 : Int32) (own_q2 p2) (own_q3 p2) (own_q4 p2)) (own_v5 (0 : Int32) (own_s1 p3) (own_s2 p2 p3) (own_s3 p2 p3) (own_s4 p2 p3)) (own_con (own_v5 (0 : Int32) (0 : Int32) (own_q2 p2) (own_q3 p2) (own_q4 p2)) (own_v5 (0 : Int32) (own_s1 p3) (own_s2 p2 p3) (own_s3 p2 p3) (own_s4 p2 p3)) (0 : Int32) (1 : Int32) 1 x_ y_) (2 : Int32) 2 x_ y_) (3 : Int32) 3 x_ y_))] [(.int (own_b p0)), (.int (4 : Int32)), (.int (own_con (own_v5 (0 : Int32) (0 : Int32) (own_q2 p2) (own_q3 p2) (own_q4 p2)) (own_v5 (0 : Int32) (own_s1 p3) (own_s2 p2 p3) (own_s3 p2 p3) (own_s4 p2 p3)) (own_con (own_v5 (0 : Int32) (0 : Int32) (own_q2 p2) (own_q3 p2) (own_q4 p2)) (own_v5 (0 : Int32) (own_s1 p3) (own_s2 p2 p3) (own_s3 p2 p3) (own_s4 p2 p3)) (own_con (own_v5 (0 : Int32) (0 : Int32) (own_q2 p2) (own_q3 p2) (own_q4 p2)) (own_v5 (0 : Int32) (own_s1 p3) (own_s2 p2 p3) (own_s3 p2 p3) (own_s4 p2 p3)) (0 : Int32) (1 : Int32) 1 x_ y_) (2 : Int32) 2 x_ y_) (3 : Int32) 3 x_ y_))])) _
    refine XS.iload X182.here hx rfl (hb hby at_232) rfl ?_
    show Steps p.tables e below (T182.setTop (mkF m 234 #[.val (.int p0), .val (.int p1), .val (.int p2), .val (.int p3), .val (.ref b1), .val (.ref b47), .val (.int (own_b p0)), .val (.int (own_b p1)), .val (.ref b114), .val (.ref b145), .val (.int (own_sep (own_v5 (0 : Int32) (0 : Int32) (own_q2 p2) (own_q3 p2) (own_q4 p2)) (own_v5 (0 : Int32) (own_s1 p3) (own_s2 p2 p3) (own_s3 p2 p3) (own_s4 p2 p3)) 9 x_ y_ 0)), .val (.int (own_con (own_v5 (0 : Int32) (0 : Int32) (own_q2 p2) (own_q3 p2) (own_q4 p2)) (own_v5 (0 : Int32) (own_s1 p3) (own_s2 p2 p3) (own_s3 p2 p3) (own_s4 p2 p3)) (own_con (own_v5 (0 : Int32) (0 : Int32) (own_q2 p2) (own_q3 p2) (own_q4 p2)) (own_v5 (0 : Int32) (own_s1 p3) (own_s2 p2 p3) (own_s3 p2 p3) (own_s4 p2 p3)) (own_con (own_v5 (0 : Int32) (0 : Int32) (own_q2 p2) (own_q3 p2) (own_q4 p2)) (own_v5 (0 : Int32) (own_s1 p3) (own_s2 p2 p3) (own_s3 p2 p3) (own_s4 p2 p3)) (0 : Int32) (1 : Int32) 1 x_ y_) (2 : Int32) 2 x_ y_) (3 : Int32) 3 x_ y_))] [(.int (own_b p1)), (.int (own_b p0)), (.int (4 : Int32)), (.int (own_con (own_v5 (0 : Int32) (0 : Int32) (own_q2 p2) (own_q3 p2) (own_q4 p2)) (own_v5 (0 : Int32) (own_s1 p3) (own_s2 p2 p3) (own_s3 p2 p3) (own_s4 p2 p3)) (own_con (own_v5 (0 : Int32) (0 : Int32) (own_q2 p2) (own_q3 p2) (own_q4 p2)) (own_v5 (0 : Int32) (own_s1 p3) (own_s2 p2 p3) (own_s3 p2 p3) (own_s4 p2 p3)) (own_con (own_v5 (0 : Int32) (0 : Int32) (own_q2 p2) (own_q3 p2) (own_q4 p2)) (own_v5 (0 : Int32) (own_s1 p3) (own_s2 p2 p3) (own_s3 p2 p3) (own_s4 p2 p3)) (0 : Int32) (1 : Int32) 1 x_ y_) (2 : Int32) 2 x_ y_) (3 : Int32) 3 x_ y_))])) _
    refine XS.aload X182.here hx rfl (hb hby at_234) rfl rfl ?_
    show Steps p.tables e below (T182.setTop (mkF m 236 #[.val (.int p0), .val (.int p1), .val (.int p2), .val (.int p3), .val (.ref b1), .val (.ref b47), .val (.int (own_b p0)), .val (.int (own_b p1)), .val (.ref b114), .val (.ref b145), .val (.int (own_sep (own_v5 (0 : Int32) (0 : Int32) (own_q2 p2) (own_q3 p2) (own_q4 p2)) (own_v5 (0 : Int32) (own_s1 p3) (own_s2 p2 p3) (own_s3 p2 p3) (own_s4 p2 p3)) 9 x_ y_ 0)), .val (.int (own_con (own_v5 (0 : Int32) (0 : Int32) (own_q2 p2) (own_q3 p2) (own_q4 p2)) (own_v5 (0 : Int32) (own_s1 p3) (own_s2 p2 p3) (own_s3 p2 p3) (own_s4 p2 p3)) (own_con (own_v5 (0 : Int32) (0 : Int32) (own_q2 p2) (own_q3 p2) (own_q4 p2)) (own_v5 (0 : Int32) (own_s1 p3) (own_s2 p2 p3) (own_s3 p2 p3) (own_s4 p2 p3)) (own_con (own_v5 (0 : Int32) (0 : Int32) (own_q2 p2) (own_q3 p2) (own_q4 p2)) (own_v5 (0 : Int32) (own_s1 p3) (own_s2 p2 p3) (own_s3 p2 p3) (own_s4 p2 p3)) (0 : Int32) (1 : Int32) 1 x_ y_) (2 : Int32) 2 x_ y_) (3 : Int32) 3 x_ y_))] [(.ref b1), (.int (own_b p1)), (.int (own_b p0)), (.int (4 : Int32)), (.int (own_con (own_v5 (0 : Int32) (0 : Int32) (own_q2 p2) (own_q3 p2) (own_q4 p2)) (own_v5 (0 : Int32) (own_s1 p3) (own_s2 p2 p3) (own_s3 p2 p3) (own_s4 p2 p3)) (own_con (own_v5 (0 : Int32) (0 : Int32) (own_q2 p2) (own_q3 p2) (own_q4 p2)) (own_v5 (0 : Int32) (own_s1 p3) (own_s2 p2 p3) (own_s3 p2 p3) (own_s4 p2 p3)) (own_con (own_v5 (0 : Int32) (0 : Int32) (own_q2 p2) (own_q3 p2) (own_q4 p2)) (own_v5 (0 : Int32) (own_s1 p3) (own_s2 p2 p3) (own_s3 p2 p3) (own_s4 p2 p3)) (0 : Int32) (1 : Int32) 1 x_ y_) (2 : Int32) 2 x_ y_) (3 : Int32) 3 x_ y_))])) _
    refine XS.aload X182.here hx rfl (hb hby at_236) rfl rfl ?_
    show Steps p.tables e below (T182.setTop (mkF m 238 #[.val (.int p0), .val (.int p1), .val (.int p2), .val (.int p3), .val (.ref b1), .val (.ref b47), .val (.int (own_b p0)), .val (.int (own_b p1)), .val (.ref b114), .val (.ref b145), .val (.int (own_sep (own_v5 (0 : Int32) (0 : Int32) (own_q2 p2) (own_q3 p2) (own_q4 p2)) (own_v5 (0 : Int32) (own_s1 p3) (own_s2 p2 p3) (own_s3 p2 p3) (own_s4 p2 p3)) 9 x_ y_ 0)), .val (.int (own_con (own_v5 (0 : Int32) (0 : Int32) (own_q2 p2) (own_q3 p2) (own_q4 p2)) (own_v5 (0 : Int32) (own_s1 p3) (own_s2 p2 p3) (own_s3 p2 p3) (own_s4 p2 p3)) (own_con (own_v5 (0 : Int32) (0 : Int32) (own_q2 p2) (own_q3 p2) (own_q4 p2)) (own_v5 (0 : Int32) (own_s1 p3) (own_s2 p2 p3) (own_s3 p2 p3) (own_s4 p2 p3)) (own_con (own_v5 (0 : Int32) (0 : Int32) (own_q2 p2) (own_q3 p2) (own_q4 p2)) (own_v5 (0 : Int32) (own_s1 p3) (own_s2 p2 p3) (own_s3 p2 p3) (own_s4 p2 p3)) (0 : Int32) (1 : Int32) 1 x_ y_) (2 : Int32) 2 x_ y_) (3 : Int32) 3 x_ y_))] [(.ref b47), (.ref b1), (.int (own_b p1)), (.int (own_b p0)), (.int (4 : Int32)), (.int (own_con (own_v5 (0 : Int32) (0 : Int32) (own_q2 p2) (own_q3 p2) (own_q4 p2)) (own_v5 (0 : Int32) (own_s1 p3) (own_s2 p2 p3) (own_s3 p2 p3) (own_s4 p2 p3)) (own_con (own_v5 (0 : Int32) (0 : Int32) (own_q2 p2) (own_q3 p2) (own_q4 p2)) (own_v5 (0 : Int32) (own_s1 p3) (own_s2 p2 p3) (own_s3 p2 p3) (own_s4 p2 p3)) (own_con (own_v5 (0 : Int32) (0 : Int32) (own_q2 p2) (own_q3 p2) (own_q4 p2)) (own_v5 (0 : Int32) (own_s1 p3) (own_s2 p2 p3) (own_s3 p2 p3) (own_s4 p2 p3)) (0 : Int32) (1 : Int32) 1 x_ y_) (2 : Int32) 2 x_ y_) (3 : Int32) 3 x_ y_))])) _
    refine st186 _ ?_
    show Steps p.tables e below (T186.setTop (mkF m 241 #[.val (.int p0), .val (.int p1), .val (.int p2), .val (.int p3), .val (.ref b1), .val (.ref b47), .val (.int (own_b p0)), .val (.int (own_b p1)), .val (.ref b114), .val (.ref b145), .val (.int (own_sep (own_v5 (0 : Int32) (0 : Int32) (own_q2 p2) (own_q3 p2) (own_q4 p2)) (own_v5 (0 : Int32) (own_s1 p3) (own_s2 p2 p3) (own_s3 p2 p3) (own_s4 p2 p3)) 9 x_ y_ 0)), .val (.int (own_con (own_v5 (0 : Int32) (0 : Int32) (own_q2 p2) (own_q3 p2) (own_q4 p2)) (own_v5 (0 : Int32) (own_s1 p3) (own_s2 p2 p3) (own_s3 p2 p3) (own_s4 p2 p3)) (own_con (own_v5 (0 : Int32) (0 : Int32) (own_q2 p2) (own_q3 p2) (own_q4 p2)) (own_v5 (0 : Int32) (own_s1 p3) (own_s2 p2 p3) (own_s3 p2 p3) (own_s4 p2 p3)) (own_con (own_v5 (0 : Int32) (0 : Int32) (own_q2 p2) (own_q3 p2) (own_q4 p2)) (own_v5 (0 : Int32) (own_s1 p3) (own_s2 p2 p3) (own_s3 p2 p3) (own_s4 p2 p3)) (0 : Int32) (1 : Int32) 1 x_ y_) (2 : Int32) 2 x_ y_) (3 : Int32) 3 x_ y_))] [(.int (own_con (own_v5 (0 : Int32) (0 : Int32) (own_q2 p2) (own_q3 p2) (own_q4 p2)) (own_v5 (0 : Int32) (own_s1 p3) (own_s2 p2 p3) (own_s3 p2 p3) (own_s4 p2 p3)) (own_con (own_v5 (0 : Int32) (0 : Int32) (own_q2 p2) (own_q3 p2) (own_q4 p2)) (own_v5 (0 : Int32) (own_s1 p3) (own_s2 p2 p3) (own_s3 p2 p3) (own_s4 p2 p3)) (own_con (own_v5 (0 : Int32) (0 : Int32) (own_q2 p2) (own_q3 p2) (own_q4 p2)) (own_v5 (0 : Int32) (own_s1 p3) (own_s2 p2 p3) (own_s3 p2 p3) (own_s4 p2 p3)) (own_con (own_v5 (0 : Int32) (0 : Int32) (own_q2 p2) (own_q3 p2) (own_q4 p2)) (own_v5 (0 : Int32) (own_s1 p3) (own_s2 p2 p3) (own_s3 p2 p3) (own_s4 p2 p3)) (0 : Int32) (1 : Int32) 1 x_ y_) (2 : Int32) 2 x_ y_) (3 : Int32) 3 x_ y_) (4 : Int32) 4 x_ y_))])) _
    refine XS.istore X186.here hx rfl (hb hby at_241) rfl (l' := #[.val (.int p0), .val (.int p1), .val (.int p2), .val (.int p3), .val (.ref b1), .val (.ref b47), .val (.int (own_b p0)), .val (.int (own_b p1)), .val (.ref b114), .val (.ref b145), .val (.int (own_sep (own_v5 (0 : Int32) (0 : Int32) (own_q2 p2) (own_q3 p2) (own_q4 p2)) (own_v5 (0 : Int32) (own_s1 p3) (own_s2 p2 p3) (own_s3 p2 p3) (own_s4 p2 p3)) 9 x_ y_ 0)), .val (.int (own_con (own_v5 (0 : Int32) (0 : Int32) (own_q2 p2) (own_q3 p2) (own_q4 p2)) (own_v5 (0 : Int32) (own_s1 p3) (own_s2 p2 p3) (own_s3 p2 p3) (own_s4 p2 p3)) (own_con (own_v5 (0 : Int32) (0 : Int32) (own_q2 p2) (own_q3 p2) (own_q4 p2)) (own_v5 (0 : Int32) (own_s1 p3) (own_s2 p2 p3) (own_s3 p2 p3) (own_s4 p2 p3)) (own_con (own_v5 (0 : Int32) (0 : Int32) (own_q2 p2) (own_q3 p2) (own_q4 p2)) (own_v5 (0 : Int32) (own_s1 p3) (own_s2 p2 p3) (own_s3 p2 p3) (own_s4 p2 p3)) (own_con (own_v5 (0 : Int32) (0 : Int32) (own_q2 p2) (own_q3 p2) (own_q4 p2)) (own_v5 (0 : Int32) (own_s1 p3) (own_s2 p2 p3) (own_s3 p2 p3) (own_s4 p2 p3)) (0 : Int32) (1 : Int32) 1 x_ y_) (2 : Int32) 2 x_ y_) (3 : Int32) 3 x_ y_) (4 : Int32) 4 x_ y_))]) rfl ?_
    show Steps p.tables e below (T186.setTop (mkF m 243 #[.val (.int p0), .val (.int p1), .val (.int p2), .val (.int p3), .val (.ref b1), .val (.ref b47), .val (.int (own_b p0)), .val (.int (own_b p1)), .val (.ref b114), .val (.ref b145), .val (.int (own_sep (own_v5 (0 : Int32) (0 : Int32) (own_q2 p2) (own_q3 p2) (own_q4 p2)) (own_v5 (0 : Int32) (own_s1 p3) (own_s2 p2 p3) (own_s3 p2 p3) (own_s4 p2 p3)) 9 x_ y_ 0)), .val (.int (own_con (own_v5 (0 : Int32) (0 : Int32) (own_q2 p2) (own_q3 p2) (own_q4 p2)) (own_v5 (0 : Int32) (own_s1 p3) (own_s2 p2 p3) (own_s3 p2 p3) (own_s4 p2 p3)) (own_con (own_v5 (0 : Int32) (0 : Int32) (own_q2 p2) (own_q3 p2) (own_q4 p2)) (own_v5 (0 : Int32) (own_s1 p3) (own_s2 p2 p3) (own_s3 p2 p3) (own_s4 p2 p3)) (own_con (own_v5 (0 : Int32) (0 : Int32) (own_q2 p2) (own_q3 p2) (own_q4 p2)) (own_v5 (0 : Int32) (own_s1 p3) (own_s2 p2 p3) (own_s3 p2 p3) (own_s4 p2 p3)) (own_con (own_v5 (0 : Int32) (0 : Int32) (own_q2 p2) (own_q3 p2) (own_q4 p2)) (own_v5 (0 : Int32) (own_s1 p3) (own_s2 p2 p3) (own_s3 p2 p3) (own_s4 p2 p3)) (0 : Int32) (1 : Int32) 1 x_ y_) (2 : Int32) 2 x_ y_) (3 : Int32) 3 x_ y_) (4 : Int32) 4 x_ y_))] [])) _
    refine XS.iload X186.here hx rfl (hb hby at_243) rfl ?_
    show Steps p.tables e below (T186.setTop (mkF m 245 #[.val (.int p0), .val (.int p1), .val (.int p2), .val (.int p3), .val (.ref b1), .val (.ref b47), .val (.int (own_b p0)), .val (.int (own_b p1)), .val (.ref b114), .val (.ref b145), .val (.int (own_sep (own_v5 (0 : Int32) (0 : Int32) (own_q2 p2) (own_q3 p2) (own_q4 p2)) (own_v5 (0 : Int32) (own_s1 p3) (own_s2 p2 p3) (own_s3 p2 p3) (own_s4 p2 p3)) 9 x_ y_ 0)), .val (.int (own_con (own_v5 (0 : Int32) (0 : Int32) (own_q2 p2) (own_q3 p2) (own_q4 p2)) (own_v5 (0 : Int32) (own_s1 p3) (own_s2 p2 p3) (own_s3 p2 p3) (own_s4 p2 p3)) (own_con (own_v5 (0 : Int32) (0 : Int32) (own_q2 p2) (own_q3 p2) (own_q4 p2)) (own_v5 (0 : Int32) (own_s1 p3) (own_s2 p2 p3) (own_s3 p2 p3) (own_s4 p2 p3)) (own_con (own_v5 (0 : Int32) (0 : Int32) (own_q2 p2) (own_q3 p2) (own_q4 p2)) (own_v5 (0 : Int32) (own_s1 p3) (own_s2 p2 p3) (own_s3 p2 p3) (own_s4 p2 p3)) (own_con (own_v5 (0 : Int32) (0 : Int32) (own_q2 p2) (own_q3 p2) (own_q4 p2)) (own_v5 (0 : Int32) (own_s1 p3) (own_s2 p2 p3) (own_s3 p2 p3) (own_s4 p2 p3)) (0 : Int32) (1 : Int32) 1 x_ y_) (2 : Int32) 2 x_ y_) (3 : Int32) 3 x_ y_) (4 : Int32) 4 x_ y_))] [(.int (own_sep (own_v5 (0 : Int32) (0 : Int32) (own_q2 p2) (own_q3 p2) (own_q4 p2)) (own_v5 (0 : Int32) (own_s1 p3) (own_s2 p2 p3) (own_s3 p2 p3) (own_s4 p2 p3)) 9 x_ y_ 0))])) _
    refine XS.iload X186.here hx rfl (hb hby at_245) rfl ?_
    show Steps p.tables e below (T186.setTop (mkF m 247 #[.val (.int p0), .val (.int p1), .val (.int p2), .val (.int p3), .val (.ref b1), .val (.ref b47), .val (.int (own_b p0)), .val (.int (own_b p1)), .val (.ref b114), .val (.ref b145), .val (.int (own_sep (own_v5 (0 : Int32) (0 : Int32) (own_q2 p2) (own_q3 p2) (own_q4 p2)) (own_v5 (0 : Int32) (own_s1 p3) (own_s2 p2 p3) (own_s3 p2 p3) (own_s4 p2 p3)) 9 x_ y_ 0)), .val (.int (own_con (own_v5 (0 : Int32) (0 : Int32) (own_q2 p2) (own_q3 p2) (own_q4 p2)) (own_v5 (0 : Int32) (own_s1 p3) (own_s2 p2 p3) (own_s3 p2 p3) (own_s4 p2 p3)) (own_con (own_v5 (0 : Int32) (0 : Int32) (own_q2 p2) (own_q3 p2) (own_q4 p2)) (own_v5 (0 : Int32) (own_s1 p3) (own_s2 p2 p3) (own_s3 p2 p3) (own_s4 p2 p3)) (own_con (own_v5 (0 : Int32) (0 : Int32) (own_q2 p2) (own_q3 p2) (own_q4 p2)) (own_v5 (0 : Int32) (own_s1 p3) (own_s2 p2 p3) (own_s3 p2 p3) (own_s4 p2 p3)) (own_con (own_v5 (0 : Int32) (0 : Int32) (own_q2 p2) (own_q3 p2) (own_q4 p2)) (own_v5 (0 : Int32) (own_s1 p3) (own_s2 p2 p3) (own_s3 p2 p3) (own_s4 p2 p3)) (0 : Int32) (1 : Int32) 1 x_ y_) (2 : Int32) 2 x_ y_) (3 : Int32) 3 x_ y_) (4 : Int32) 4 x_ y_))] [(.int (own_con (own_v5 (0 : Int32) (0 : Int32) (own_q2 p2) (own_q3 p2) (own_q4 p2)) (own_v5 (0 : Int32) (own_s1 p3) (own_s2 p2 p3) (own_s3 p2 p3) (own_s4 p2 p3)) (own_con (own_v5 (0 : Int32) (0 : Int32) (own_q2 p2) (own_q3 p2) (own_q4 p2)) (own_v5 (0 : Int32) (own_s1 p3) (own_s2 p2 p3) (own_s3 p2 p3) (own_s4 p2 p3)) (own_con (own_v5 (0 : Int32) (0 : Int32) (own_q2 p2) (own_q3 p2) (own_q4 p2)) (own_v5 (0 : Int32) (own_s1 p3) (own_s2 p2 p3) (own_s3 p2 p3) (own_s4 p2 p3)) (own_con (own_v5 (0 : Int32) (0 : Int32) (own_q2 p2) (own_q3 p2) (own_q4 p2)) (own_v5 (0 : Int32) (own_s1 p3) (own_s2 p2 p3) (own_s3 p2 p3) (own_s4 p2 p3)) (0 : Int32) (1 : Int32) 1 x_ y_) (2 : Int32) 2 x_ y_) (3 : Int32) 3 x_ y_) (4 : Int32) 4 x_ y_)), (.int (own_sep (own_v5 (0 : Int32) (0 : Int32) (own_q2 p2) (own_q3 p2) (own_q4 p2)) (own_v5 (0 : Int32) (own_s1 p3) (own_s2 p2 p3) (own_s3 p2 p3) (own_s4 p2 p3)) 9 x_ y_ 0))])) _
    refine XS.icmpNo X186.here hx rfl (hb hby at_247) rfl (teq (own_fin hT hx5 hy5)).2 ?_
    show Steps p.tables e below (T186.setTop (mkF m 250 #[.val (.int p0), .val (.int p1), .val (.int p2), .val (.int p3), .val (.ref b1), .val (.ref b47), .val (.int (own_b p0)), .val (.int (own_b p1)), .val (.ref b114), .val (.ref b145), .val (.int (own_sep (own_v5 (0 : Int32) (0 : Int32) (own_q2 p2) (own_q3 p2) (own_q4 p2)) (own_v5 (0 : Int32) (own_s1 p3) (own_s2 p2 p3) (own_s3 p2 p3) (own_s4 p2 p3)) 9 x_ y_ 0)), .val (.int (own_con (own_v5 (0 : Int32) (0 : Int32) (own_q2 p2) (own_q3 p2) (own_q4 p2)) (own_v5 (0 : Int32) (own_s1 p3) (own_s2 p2 p3) (own_s3 p2 p3) (own_s4 p2 p3)) (own_con (own_v5 (0 : Int32) (0 : Int32) (own_q2 p2) (own_q3 p2) (own_q4 p2)) (own_v5 (0 : Int32) (own_s1 p3) (own_s2 p2 p3) (own_s3 p2 p3) (own_s4 p2 p3)) (own_con (own_v5 (0 : Int32) (0 : Int32) (own_q2 p2) (own_q3 p2) (own_q4 p2)) (own_v5 (0 : Int32) (own_s1 p3) (own_s2 p2 p3) (own_s3 p2 p3) (own_s4 p2 p3)) (own_con (own_v5 (0 : Int32) (0 : Int32) (own_q2 p2) (own_q3 p2) (own_q4 p2)) (own_v5 (0 : Int32) (own_s1 p3) (own_s2 p2 p3) (own_s3 p2 p3) (own_s4 p2 p3)) (0 : Int32) (1 : Int32) 1 x_ y_) (2 : Int32) 2 x_ y_) (3 : Int32) 3 x_ y_) (4 : Int32) 4 x_ y_))] [])) _
    refine XS.iconst X186.here hx rfl (hb hby at_250) ?_
    show Steps p.tables e below (T186.setTop (mkF m 251 #[.val (.int p0), .val (.int p1), .val (.int p2), .val (.int p3), .val (.ref b1), .val (.ref b47), .val (.int (own_b p0)), .val (.int (own_b p1)), .val (.ref b114), .val (.ref b145), .val (.int (own_sep (own_v5 (0 : Int32) (0 : Int32) (own_q2 p2) (own_q3 p2) (own_q4 p2)) (own_v5 (0 : Int32) (own_s1 p3) (own_s2 p2 p3) (own_s3 p2 p3) (own_s4 p2 p3)) 9 x_ y_ 0)), .val (.int (own_con (own_v5 (0 : Int32) (0 : Int32) (own_q2 p2) (own_q3 p2) (own_q4 p2)) (own_v5 (0 : Int32) (own_s1 p3) (own_s2 p2 p3) (own_s3 p2 p3) (own_s4 p2 p3)) (own_con (own_v5 (0 : Int32) (0 : Int32) (own_q2 p2) (own_q3 p2) (own_q4 p2)) (own_v5 (0 : Int32) (own_s1 p3) (own_s2 p2 p3) (own_s3 p2 p3) (own_s4 p2 p3)) (own_con (own_v5 (0 : Int32) (0 : Int32) (own_q2 p2) (own_q3 p2) (own_q4 p2)) (own_v5 (0 : Int32) (own_s1 p3) (own_s2 p2 p3) (own_s3 p2 p3) (own_s4 p2 p3)) (own_con (own_v5 (0 : Int32) (0 : Int32) (own_q2 p2) (own_q3 p2) (own_q4 p2)) (own_v5 (0 : Int32) (own_s1 p3) (own_s2 p2 p3) (own_s3 p2 p3) (own_s4 p2 p3)) (0 : Int32) (1 : Int32) 1 x_ y_) (2 : Int32) 2 x_ y_) (3 : Int32) 3 x_ y_) (4 : Int32) 4 x_ y_))] [(.int (1 : Int32))])) _
    refine XS.goto X186.here hx rfl (pc0 := 251) (pc' := 255) rfl (hb hby at_251) (by decide) (by decide) ?_
    exact kt
  obtain ⟨fs, hr, hrun, hended, hW, hsame⟩ := X186.leave (v := some (.int (1 : Int32))) (fun h => by rw [Bd.returns] at h; cases h)
  refine ⟨_, _, pre189 _ ?_, hrun, hended, _, _, rfl, ?_, ⟨_, rfl⟩, hW, hsame.mono (by decide) (by decide)⟩
  · show Steps p.tables e below (T186.setTop (mkF m 255 #[.val (.int p0), .val (.int p1), .val (.int p2), .val (.int p3), .val (.ref b1), .val (.ref b47), .val (.int (own_b p0)), .val (.int (own_b p1)), .val (.ref b114), .val (.ref b145), .val (.int (own_sep (own_v5 (0 : Int32) (0 : Int32) (own_q2 p2) (own_q3 p2) (own_q4 p2)) (own_v5 (0 : Int32) (own_s1 p3) (own_s2 p2 p3) (own_s3 p2 p3) (own_s4 p2 p3)) 9 x_ y_ 0)), .val (.int (own_con (own_v5 (0 : Int32) (0 : Int32) (own_q2 p2) (own_q3 p2) (own_q4 p2)) (own_v5 (0 : Int32) (own_s1 p3) (own_s2 p2 p3) (own_s3 p2 p3) (own_s4 p2 p3)) (own_con (own_v5 (0 : Int32) (0 : Int32) (own_q2 p2) (own_q3 p2) (own_q4 p2)) (own_v5 (0 : Int32) (own_s1 p3) (own_s2 p2 p3) (own_s3 p2 p3) (own_s4 p2 p3)) (own_con (own_v5 (0 : Int32) (0 : Int32) (own_q2 p2) (own_q3 p2) (own_q4 p2)) (own_v5 (0 : Int32) (own_s1 p3) (own_s2 p2 p3) (own_s3 p2 p3) (own_s4 p2 p3)) (own_con (own_v5 (0 : Int32) (0 : Int32) (own_q2 p2) (own_q3 p2) (own_q4 p2)) (own_v5 (0 : Int32) (own_s1 p3) (own_s2 p2 p3) (own_s3 p2 p3) (own_s4 p2 p3)) (0 : Int32) (1 : Int32) 1 x_ y_) (2 : Int32) 2 x_ y_) (3 : Int32) 3 x_ y_) (4 : Int32) 4 x_ y_))] [(.int (1 : Int32))])) _
    exact retN X186 hx (t := .boolean) Bd.returns (by simp) (hb hby at_255) hr
  · show own_Q_law Z p0 p1 p2 p3 h0 n0 (some (.int (1 : Int32))) T186.heap _
    rw [eq187]
    exact ⟨rfl, nf188⟩
set_option maxRecDepth 65536 in
set_option maxHeartbeats 40000000 in
theorem own_comes {Post : Tables → Env → Array Value → State → Outcome → State → Prop} (hpost : ∀ tb e args s v u, (limb_1_1.after args s (.returned v) u = true ∧ limb_1_2.after args s (.returned v) u = true ∧ True) → FrameEnd s (.returned v) u (Jvm.fieldLocs frame_1_writes args s ++ Jvm.arrayLocs frame_1_arrays args s ++ Jvm.staticLocs frame_1_statics s) 16 128 → Post tb e args s (.returned v) u) :
    ArmFor flags0 classFile x code maxLocals ret World_1 tables_1 room_1 Calls_1 rest_1 Pre_1 Post := by
  intro l hfl _ _ p e ha hc hk s m args below hf hA hF happ hP
  obtain ⟨hcalls, hrest, hpre⟩ := hP
  obtain ⟨-, -, -, hnamed, -, -, -, hat⟩ := (Spec.applies_iff hf).mp happ
  obtain ⟨hg, hn⟩ := and_e (Cond.before_iff.mp (show (Jvm.Cond.and given_1 narrow_1).before args s = true from hpre))
  obtain ⟨hcount, hq0⟩ := and_e hg
  obtain ⟨hi0, hq1⟩ := and_e hq0
  obtain ⟨hi1, hq2⟩ := and_e hq1
  obtain ⟨hi2, hq3⟩ := and_e hq2
  have hi3 := hq3
  obtain ⟨w0, w1, w2, w3, rfl⟩ : ∃ w0 w1 w2 w3 : Value, args = #[w0, w1, w2, w3] := by
    have hs : args.size = 4 := by simpa [Cond.value, given_1] using hcount
    obtain ⟨L⟩ := args
    match L, hs with
    | [w0, w1, w2, w3], _ => exact ⟨w0, w1, w2, w3, rfl⟩
  have hw := fun d (hd : d ∈ tables_1) => atoms_spec (ws := Jvm.Cond.code x code maxLocals ret :: tables_1) hat d (List.mem_cons_of_mem _ hd)
  have hfit : Fit s := fun {y c} hc i hi => by
    obtain ⟨ha, rfl⟩ := Array.getElem?_eq_some_iff.mp hc
    have q := List.all_eq_true.mp ((Array.all_eq_true_iff_forall_mem.mp hF) _ (Array.getElem_mem ha)) i (List.mem_range.mpr hi)
    simpa [Array.getElem?_eq_getElem hi] using q
  obtain ⟨i0, ei0⟩ := is_v hi0
  obtain rfl : w0 = (.int i0) := Option.some.inj ei0
  obtain ⟨i1, ei1⟩ := is_v hi1
  obtain rfl : w1 = (.int i1) := Option.some.inj ei1
  obtain ⟨i2, ei2⟩ := is_v hi2
  obtain rfl : w2 = (.int i2) := Option.some.inj ei2
  obtain ⟨i3, ei3⟩ := is_v hi3
  obtain rfl : w3 = (.int i3) := Option.some.inj ei3
  obtain ⟨n, o, h1, h2, h3, _, L, rfl, ⟨rfl, N⟩, hq⟩ := own_rm_law l s _ hw tables_1 i0 i1 i2 i3  s.heap s.heap.size (Nat.le_refl _)  p e ha hc hk s m _ below hf ((Spec.applies_iff_loose hf).mp happ).1 ⟨rfl, State.Warmed39.refl s, rfl⟩ trivial
  refine ⟨n, _, h1, h2, h3, hpost _ _ _ _ _ _ ⟨Cond.after_iff.mpr rfl, Cond.after_iff.mpr (eq_i res_at (Term.int_eval (1)) rfl), trivial⟩ ⟨hq.1, hq.2.1, (hq.2.2.sift fun y hy => Or.inr (N y hy)).mono (by decide) (by decide)⟩⟩
theorem main_1_1 : Claimed_1_1 := own_comes fun _ _ _ _ _ _ h hF => ⟨h.1, hF⟩
theorem main_1_2 : Claimed_1_2 := own_comes fun _ _ _ _ _ _ h hF => ⟨h.2.1, hF⟩
end Jvm.Pilot.@@N@@
namespace Jvm.Pilot.@@N@@
open Jvm Jvm.ClassFile Sem Op Lib Jvm.Free Jvm.Stand Jvm.Pilot.@@N@@.Jvm.D
/-! MADE BY PROGRAM (witnessworld.py) out of the Statement's table words and the real class files: 10 classes; the members and pool entries that the words name. The judged class is class 1, her method 1. -/
namespace start1
open Jvm.ClassFile
def u (s : String) : CpInfo := .utf8 (stringToUtf16 s)
/-- a pool by its gaps: so many unusable entries, then the entry; so many at the end -/
def gap : Nat → List CpInfo → List CpInfo
  | 0, r => r
  | n + 1, r => .unusable :: gap n r
def poolList (es : List (Nat × CpInfo)) (last : Nat) : List CpInfo := es.foldr (fun e r => gap e.1 (e.2 :: r)) (gap last [])
def pool (es : List (Nat × CpInfo)) (last : Nat) : Array CpInfo := ⟨poolList es last⟩
def fileOf (pool : Array CpInfo) (this : Nat) (attrs : Array Attribute := #[]) (ms : Array MethodInfo := #[]) (fl : Nat := 33) (sup : Nat := 0) (ifs : Array Nat := #[]) (fds : Array FieldInfo := #[]) : ClassFile where
  minorVersion := 0
  majorVersion := 65
  constantPool := pool
  accessFlags := fl
  thisClass := this
  superClass := sup
  interfaces := ifs
  fields := fds
  methods := ms
  attributes := attrs
def plain (name : String) (sup : Option ClassId) : Class where
  name := name
  kind := .ordinary
  loader := none
  accessFlags := 33
  super := sup
  interfaces := #[]
  cf := none
  fields := #[]
  methods := #[]
  instanceTypes := #[]
  staticTypes := #[]
  resolved := #[]
  callSites := []
  init := .initialized
  statics := none
  mirror := none

def pool0 : Array CpInfo := pool [(5, u "<init>"), (0, u "()V"), (1, .class_ 10), (1, u "java/lang/Object")] 113

def k0c0 : Code := { maxStack := 0, maxLocals := 1, code := object_method_1_code, exceptionTable := #[], attributes := #[] }
def k0m0 : Method := { name := "<init>", desc := "()V", sig := { parameters := [], returnType := none }, accessFlags := 1, code := some k0c0 }
/-- java/lang/Object -/
def k0 : Class := { plain "java/lang/Object" none with
  accessFlags := 33
  interfaces := #[]
  cf := some (fileOf pool0 8 #[] #[{ accessFlags := 1, nameIndex := 5, descriptorIndex := 6, attributes := #[] }] 33 0 #[] #[])
  fields := #[]
  methods := #[k0m0]
  instanceTypes := #[]
  staticTypes := #[]
  resolved := Array.replicate 124 none
  statics := none }

def pool1 : Array CpInfo := pool [(2, .class_ 4), (1, u "java/lang/Object"), (0, u "<init>"), (0, u "()V"), (0, .integer 2147483647), (0, .class_ 9), (0, u "com/example/unfold/unfold/reduction/Splitting"), (0, .methodref 8 11), (0, .nameAndType 5 12), (0, u "([I[I[I)V"), (0, .methodref 8 14), (0, .nameAndType 15 16), (0, u "separation"), (0, u "(II)I"), (0, .methodref 18 19), (0, .class_ 20), (0, .nameAndType 21 22), (0, u "com/example/unfold/unfold/reduction/SplittingSeparationPinLaw"), (0, u "consider"), (0, u "(IIII[I[I)I"), (0, .methodref 18 24), (0, .nameAndType 25 26), (0, u "isAnc"), (0, u "(II[I)Z"), (0, .methodref 28 29), (0, .class_ 30), (0, .nameAndType 31 16), (0, u "java/lang/Math"), (0, u "min"), (2, u "law"), (0, u "(IIII)Z")] 5

def k1m0 : Method := { name := "<init>", desc := "()V", sig := { parameters := [], returnType := none }, accessFlags := 1, code := none }
def k1c1 : Code := { maxStack := 6, maxLocals := 12, code := code, exceptionTable := #[], attributes := #[] }
def k1m1 : Method := { name := "law", desc := "(IIII)Z", sig := { parameters := [.int, .int, .int, .int], returnType := some .boolean }, accessFlags := 9, code := some k1c1 }
def k1c2 : Code := { maxStack := 2, maxLocals := 6, code := method_3_code, exceptionTable := #[], attributes := #[] }
def k1m2 : Method := { name := "isAnc", desc := "(II[I)Z", sig := { parameters := [.int, .int, (.array .int)], returnType := some .boolean }, accessFlags := 10, code := some k1c2 }
def k1c3 : Code := { maxStack := 4, maxLocals := 7, code := method_4_code, exceptionTable := #[], attributes := #[] }
def k1m3 : Method := { name := "consider", desc := "(IIII[I[I)I", sig := { parameters := [.int, .int, .int, .int, (.array .int), (.array .int)], returnType := some .int }, accessFlags := 10, code := some k1c3 }
/-- com/example/unfold/unfold/reduction/SplittingSeparationPinLaw -/
def k1 : Class := { plain "com/example/unfold/unfold/reduction/SplittingSeparationPinLaw" (some 0) with
  accessFlags := 49
  interfaces := #[]
  cf := some (fileOf pool1 18 #[] #[{ accessFlags := 1, nameIndex := 5, descriptorIndex := 6, attributes := #[] }, { accessFlags := 9, nameIndex := 34, descriptorIndex := 35, attributes := #[] }, { accessFlags := 10, nameIndex := 25, descriptorIndex := 26, attributes := #[] }, { accessFlags := 10, nameIndex := 21, descriptorIndex := 22, attributes := #[] }] 49 2 #[] #[])
  fields := #[]
  methods := #[k1m0, k1m1, k1m2, k1m3]
  instanceTypes := #[]
  staticTypes := #[]
  resolved := Array.replicate 41 none
  statics := none }

def pool2 : Array CpInfo := pool [(1, .methodref 2 3), (0, .class_ 4), (0, .nameAndType 5 6), (0, u "java/lang/Object"), (0, u "<init>"), (0, u "()V"), (0, .fieldref 8 9), (0, .class_ 10), (0, .nameAndType 11 12), (0, u "com/example/unfold/unfold/reduction/Splitting"), (0, u "blocks"), (0, u "[I"), (0, .fieldref 8 14), (0, .nameAndType 15 12), (0, u "parents"), (0, .fieldref 8 17), (0, .nameAndType 18 12), (0, u "rounds"), (0, u "([I[I[I)V"), (3, u "(II)I"), (1, u "separation")] 2

def k2c0 : Code := { maxStack := 2, maxLocals := 4, code := prog_132_method_1_code, exceptionTable := #[], attributes := #[] }
def k2m0 : Method := { name := "<init>", desc := "([I[I[I)V", sig := { parameters := [(.array .int), (.array .int), (.array .int)], returnType := none }, accessFlags := 0, code := some k2c0 }
def k2c1 : Code := { maxStack := 3, maxLocals := 6, code := prog_132_method_3_code, exceptionTable := #[], attributes := #[] }
def k2m1 : Method := { name := "separation", desc := "(II)I", sig := { parameters := [.int, .int], returnType := some .int }, accessFlags := 0, code := some k2c1 }
/-- com/example/unfold/unfold/reduction/Splitting -/
def k2 : Class := { plain "com/example/unfold/unfold/reduction/Splitting" (some 0) with
  accessFlags := 32
  interfaces := #[]
  cf := some (fileOf pool2 8 #[] #[{ accessFlags := 0, nameIndex := 5, descriptorIndex := 19, attributes := #[] }, { accessFlags := 0, nameIndex := 25, descriptorIndex := 23, attributes := #[] }] 32 2 #[] #[{ accessFlags := 18, nameIndex := 11, descriptorIndex := 12, attributes := #[] }, { accessFlags := 18, nameIndex := 15, descriptorIndex := 12, attributes := #[] }, { accessFlags := 18, nameIndex := 18, descriptorIndex := 12, attributes := #[] }])
  fields := #[{ name := "blocks", type := (.array .int), accessFlags := 18, slot := 0, constantValue := 0 }, { name := "parents", type := (.array .int), accessFlags := 18, slot := 1, constantValue := 0 }, { name := "rounds", type := (.array .int), accessFlags := 18, slot := 2, constantValue := 0 }]
  methods := #[k2m0, k2m1]
  instanceTypes := #[(.array .int), (.array .int), (.array .int)]
  staticTypes := #[]
  resolved := Array.replicate 28 none
  statics := none }

def pool3 : Array CpInfo := pool [(1, .class_ 2), (0, u "java/lang/Math"), (1, .class_ 6), (1, u "java/lang/Object"), (0, u "<init>"), (0, u "()V"), (89, .class_ 100), (1, u "java/lang/Math$RandomNumberGeneratorHolder"), (71, u "negativeZeroFloatBits"), (0, u "J"), (2, u "negativeZeroDoubleBits"), (24, u "min"), (43, u "$assertionsDisabled"), (0, u "Z"), (88, u "(II)I"), (2, u "twoToTheDoubleScaleDown"), (0, u "D"), (4, u "twoToTheDoubleScaleUp"), (9, u "E"), (3, u "PI"), (2, u "TAU"), (2, u "DEGREES_TO_RADIANS"), (0, u "RADIANS_TO_DEGREES")] 94

def k3m0 : Method := { name := "<init>", desc := "()V", sig := { parameters := [], returnType := none }, accessFlags := 2, code := none }
def k3c1 : Code := { maxStack := 2, maxLocals := 2, code := jdk_29_method_69_code, exceptionTable := #[], attributes := #[] }
def k3m1 : Method := { name := "min", desc := "(II)I", sig := { parameters := [.int, .int], returnType := some .int }, accessFlags := 9, code := some k3c1 }
/-- java/lang/Math -/
def k3 : Class := { plain "java/lang/Math" (some 0) with
  accessFlags := 49
  interfaces := #[]
  cf := some (fileOf pool3 1 #[.nestMembers #[98]] #[{ accessFlags := 2, nameIndex := 7, descriptorIndex := 8, attributes := #[] }, { accessFlags := 9, nameIndex := 201, descriptorIndex := 335, attributes := #[] }] 49 4 #[] #[{ accessFlags := 25, nameIndex := 354, descriptorIndex := 339, attributes := #[] }, { accessFlags := 25, nameIndex := 358, descriptorIndex := 339, attributes := #[] }, { accessFlags := 25, nameIndex := 361, descriptorIndex := 339, attributes := #[] }, { accessFlags := 26, nameIndex := 364, descriptorIndex := 339, attributes := #[] }, { accessFlags := 26, nameIndex := 365, descriptorIndex := 339, attributes := #[] }, { accessFlags := 26, nameIndex := 172, descriptorIndex := 173, attributes := #[] }, { accessFlags := 26, nameIndex := 176, descriptorIndex := 173, attributes := #[] }, { accessFlags := 8, nameIndex := 344, descriptorIndex := 339, attributes := #[] }, { accessFlags := 8, nameIndex := 338, descriptorIndex := 339, attributes := #[] }, { accessFlags := 4120, nameIndex := 245, descriptorIndex := 246, attributes := #[] }])
  fields := #[{ name := "E", type := .double, accessFlags := 25, slot := 0, constantValue := 0 }, { name := "PI", type := .double, accessFlags := 25, slot := 1, constantValue := 0 }, { name := "TAU", type := .double, accessFlags := 25, slot := 2, constantValue := 0 }, { name := "DEGREES_TO_RADIANS", type := .double, accessFlags := 26, slot := 3, constantValue := 0 }, { name := "RADIANS_TO_DEGREES", type := .double, accessFlags := 26, slot := 4, constantValue := 0 }, { name := "negativeZeroFloatBits", type := .long, accessFlags := 26, slot := 5, constantValue := 0 }, { name := "negativeZeroDoubleBits", type := .long, accessFlags := 26, slot := 6, constantValue := 0 }, { name := "twoToTheDoubleScaleUp", type := .double, accessFlags := 8, slot := 7, constantValue := 0 }, { name := "twoToTheDoubleScaleDown", type := .double, accessFlags := 8, slot := 8, constantValue := 0 }, { name := "$assertionsDisabled", type := .boolean, accessFlags := 4120, slot := 9, constantValue := 0 }]
  methods := #[k3m0, k3m1]
  instanceTypes := #[]
  staticTypes := #[.double, .double, .double, .double, .double, .long, .long, .double, .double, .boolean]
  resolved := Array.replicate 460 none
  statics := none }

def pool4 : Array CpInfo := pool [(1, u "java/lang/Cloneable"), (0, .class_ 1), (0, u "java/lang/Object"), (0, .class_ 3)] 3

/-- java/lang/Cloneable -/
def k4 : Class := { plain "java/lang/Cloneable" (some 0) with
  accessFlags := 1537
  interfaces := #[]
  cf := some (fileOf pool4 2 #[] #[] 1537 4 #[] #[])
  fields := #[]
  methods := #[]
  instanceTypes := #[]
  staticTypes := #[]
  resolved := Array.replicate 8 none
  statics := none }

def pool5 : Array CpInfo := pool [(1, u "java/io/Serializable"), (0, .class_ 1), (0, u "java/lang/Object"), (0, .class_ 3)] 3

/-- java/io/Serializable -/
def k5 : Class := { plain "java/io/Serializable" (some 0) with
  accessFlags := 1537
  interfaces := #[]
  cf := some (fileOf pool5 2 #[] #[] 1537 4 #[] #[])
  fields := #[]
  methods := #[]
  instanceTypes := #[]
  staticTypes := #[]
  resolved := Array.replicate 8 none
  statics := none }

/-- the primitive byte -/
def k6 : Class := { plain "byte" none with kind := .primitive 'B', accessFlags := 0x411 }
/-- [B -/
def k7 : Class := { plain "[B" (some 0) with kind := .array 6 .byte, interfaces := #[4, 5], accessFlags := 1041 }

/-- the primitive int -/
def k8 : Class := { plain "int" none with kind := .primitive 'I', accessFlags := 0x411 }
/-- [I -/
def k9 : Class := { plain "[I" (some 0) with kind := .array 8 .int, interfaces := #[4, 5], accessFlags := 1041 }

def heap : Heap := #[]
def classes : Array Class := #[k0, k1, k2, k3, k4, k5, k6, k7, k8, k9]
def interned : List (Array UInt16 × Addr) := []
def slotsUsed : Nat := 0
def theMethod : MethodId := ⟨1, 1⟩
def args0 : Array Value := #[.int 3, .int 6, .int 2, .int 1]
def aboutOver (below : List Frame) : State where
  vm := { classes := classes, interned := interned.toArray }
  heap := heap
  slotsUsed := slotsUsed
  threads := #[{ frames := .invoking theMethod args0 :: below }]
def below0 : List Frame := [.native { method := ⟨0, 0⟩, args := #[] }]
def about1 : State := aboutOver below0
def p0 : Program := .bare "" "" ""
def e0 : Env := launch0.env 0 0 0
theorem w_frames : about1.frames = Frame.invoking theMethod args0 :: below0 := rfl
set_option maxRecDepth 65536 in
theorem w_args : argsFit about1.vm theMethod args0 = true := by decide +kernel
set_option maxRecDepth 65536 in
theorem w_heap : heapFits about1 = true := by decide +kernel
set_option maxRecDepth 65536 in
theorem w_runnable : about1.curStatus? = some .runnable := by decide +kernel
set_option maxRecDepth 65536 in
theorem w_alone : about1.alone = true := by decide +kernel
set_option maxRecDepth 65536 in
theorem w_named : about1.methodNamed? x = some theMethod := by decide +kernel
set_option maxRecDepth 65536 in
theorem w_hears : about1.hears theMethod below0 = true := by decide +kernel
set_option maxRecDepth 65536 in
theorem w_ripe : about1.ripe theMethod args0 below0 = true := by decide +kernel
theorem w_running : about1.status = .running := rfl
set_option maxRecDepth 65536 in
theorem w_room : about1.hasRoom e0.platform room_1 = true :=
  launch0.hasRoom_least _ room_1 (by decide +kernel) (by decide +kernel) (by decide +kernel) (by decide +kernel) (by decide +kernel) (by decide +kernel)
theorem allAtoms_all (ts : List Jvm.Cond) (a : Array Jvm.Value) (st : Jvm.State) : (allAtoms ts).before a st = ts.all (fun c => c.before a st) := by
  induction ts with
  | nil => rfl
  | cons c t ih =>
    show (Jvm.Cond.and c (allAtoms t)).before a st = _
    rw [Jvm.Cond.before_and, ih, List.all_cons]
def words1 : List Jvm.Cond := Jvm.Cond.code x code maxLocals ret :: tables_1
/-- a 'code' word, met by the world's own term for the bytes: nothing is compared byte by byte -/
theorem code_word {y : MethodName} {bytes : ByteArray} {mx : Nat} {rt : Option FieldType} {a : Array Value} {s : State} {m : MethodId} {meth : Method} {c : Code} (h1 : s.methodNamed? y = some m) (h2 : s.vm.method? m = some meth) (h3 : meth.code = some c) (h4 : c.code = bytes)
    (h5 : (c.maxLocals == mx && c.exceptionTable.isEmpty && decide (c.maxStack ≤ mostOperands) && decide (meth.sig.returnType = rt) && !meth.locks && decide (parseMethodDescriptor y.desc = some meth.sig)) = true) : (Jvm.Cond.code y bytes mx rt).before a s = true := by
  simp only [Bool.and_eq_true, beq_iff_eq, Bool.not_eq_true', decide_eq_true_eq] at h5
  obtain ⟨⟨⟨⟨⟨g1, g2⟩, g3⟩, g4⟩, g5⟩, g6⟩ := h5
  simp [Cond.before, Cond.holds, Cond.value, h1, h2, h3, h4, g1, g2, g3, g4, g5, g6]
def isCode : Jvm.Cond → Bool
  | .code _ _ _ _ => true
  | _ => false
theorem all_split {L : List Jvm.Cond} {P : Jvm.Cond → Bool} (h1 : L.all (fun c => isCode c || P c) = true) (h2 : ∀ c ∈ L.filter isCode, P c = true) : L.all P = true := by
  refine List.all_eq_true.mpr fun c hc => ?_
  have h := List.all_eq_true.mp h1 c hc
  rcases Bool.eq_false_or_eq_true (isCode c) with hi | hi
  · exact h2 c (List.mem_filter.mpr ⟨hc, hi⟩)
  · simpa [hi] using h
set_option maxRecDepth 65536 in
theorem w_c0 : (Jvm.Cond.code x code maxLocals ret).before args0 about1 = true := code_word (m := ⟨1, 1⟩) (meth := k1m1) (c := k1c1) (by decide +kernel) rfl rfl rfl (by decide +kernel)
set_option maxRecDepth 65536 in
theorem w_c1 : (Jvm.Cond.code ({ cls := "com/example/unfold/unfold/reduction/Splitting", name := "<init>", desc := "([I[I[I)V" } : Jvm.MethodName) prog_132_method_1_code (4 : Nat) (Option.none : Option Jvm.ClassFile.FieldType)).before args0 about1 = true := code_word (m := ⟨2, 0⟩) (meth := k2m0) (c := k2c0) (by decide +kernel) rfl rfl rfl (by decide +kernel)
set_option maxRecDepth 65536 in
theorem w_c2 : (Jvm.Cond.code ({ cls := "java/lang/Object", name := "<init>", desc := "()V" } : Jvm.MethodName) object_method_1_code (1 : Nat) (Option.none : Option Jvm.ClassFile.FieldType)).before args0 about1 = true := code_word (m := ⟨0, 0⟩) (meth := k0m0) (c := k0c0) (by decide +kernel) rfl rfl rfl (by decide +kernel)
set_option maxRecDepth 65536 in
theorem w_c3 : (Jvm.Cond.code ({ cls := "com/example/unfold/unfold/reduction/Splitting", name := "separation", desc := "(II)I" } : Jvm.MethodName) prog_132_method_3_code (6 : Nat) (Option.some Jvm.ClassFile.FieldType.int)).before args0 about1 = true := code_word (m := ⟨2, 1⟩) (meth := k2m1) (c := k2c1) (by decide +kernel) rfl rfl rfl (by decide +kernel)
set_option maxRecDepth 65536 in
theorem w_c4 : (Jvm.Cond.code ({ cls := "com/example/unfold/unfold/reduction/SplittingSeparationPinLaw", name := "consider", desc := "(IIII[I[I)I" } : Jvm.MethodName) method_4_code (7 : Nat) (Option.some Jvm.ClassFile.FieldType.int)).before args0 about1 = true := code_word (m := ⟨1, 3⟩) (meth := k1m3) (c := k1c3) (by decide +kernel) rfl rfl rfl (by decide +kernel)
set_option maxRecDepth 65536 in
theorem w_c5 : (Jvm.Cond.code ({ cls := "com/example/unfold/unfold/reduction/SplittingSeparationPinLaw", name := "isAnc", desc := "(II[I)Z" } : Jvm.MethodName) method_3_code (6 : Nat) (Option.some Jvm.ClassFile.FieldType.boolean)).before args0 about1 = true := code_word (m := ⟨1, 2⟩) (meth := k1m2) (c := k1c2) (by decide +kernel) rfl rfl rfl (by decide +kernel)
set_option maxRecDepth 65536 in
theorem w_c6 : (Jvm.Cond.code ({ cls := "java/lang/Math", name := "min", desc := "(II)I" } : Jvm.MethodName) jdk_29_method_69_code (2 : Nat) (Option.some Jvm.ClassFile.FieldType.int)).before args0 about1 = true := code_word (m := ⟨3, 1⟩) (meth := k3m1) (c := k3c1) (by decide +kernel) rfl rfl rfl (by decide +kernel)
def codes1 : List Jvm.Cond := [Jvm.Cond.code x code maxLocals ret, Jvm.Cond.code ({ cls := "com/example/unfold/unfold/reduction/Splitting", name := "<init>", desc := "([I[I[I)V" } : Jvm.MethodName) prog_132_method_1_code (4 : Nat) (Option.none : Option Jvm.ClassFile.FieldType), Jvm.Cond.code ({ cls := "java/lang/Object", name := "<init>", desc := "()V" } : Jvm.MethodName) object_method_1_code (1 : Nat) (Option.none : Option Jvm.ClassFile.FieldType), Jvm.Cond.code ({ cls := "com/example/unfold/unfold/reduction/Splitting", name := "separation", desc := "(II)I" } : Jvm.MethodName) prog_132_method_3_code (6 : Nat) (Option.some Jvm.ClassFile.FieldType.int), Jvm.Cond.code ({ cls := "com/example/unfold/unfold/reduction/SplittingSeparationPinLaw", name := "consider", desc := "(IIII[I[I)I" } : Jvm.MethodName) method_4_code (7 : Nat) (Option.some Jvm.ClassFile.FieldType.int), Jvm.Cond.code ({ cls := "com/example/unfold/unfold/reduction/SplittingSeparationPinLaw", name := "isAnc", desc := "(II[I)Z" } : Jvm.MethodName) method_3_code (6 : Nat) (Option.some Jvm.ClassFile.FieldType.boolean), Jvm.Cond.code ({ cls := "java/lang/Math", name := "min", desc := "(II)I" } : Jvm.MethodName) jdk_29_method_69_code (2 : Nat) (Option.some Jvm.ClassFile.FieldType.int)]
set_option maxRecDepth 65536 in
theorem codes_eq : words1.filter isCode = codes1 := rfl
theorem w_codes : ∀ c ∈ words1.filter isCode, c.before args0 about1 = true := by
  rw [codes_eq]
  intro c hc
  simp only [codes1, List.mem_cons, List.not_mem_nil, or_false] at hc
  rcases hc with rfl | rfl | rfl | rfl | rfl | rfl | rfl
  · exact w_c0
  · exact w_c1
  · exact w_c2
  · exact w_c3
  · exact w_c4
  · exact w_c5
  · exact w_c6
set_option maxRecDepth 65536 in
theorem w_t1 : (words1.take 24).all (fun c => isCode c || c.before args0 about1) = true := by decide +kernel
set_option maxRecDepth 65536 in
theorem w_t2 : (words1.drop 24).all (fun c => isCode c || c.before args0 about1) = true := by decide +kernel
theorem w_tables : (allAtoms (Jvm.Cond.code x code maxLocals ret :: tables_1)).before args0 about1 = true := by
  rw [allAtoms_all]
  show words1.all (fun c => c.before args0 about1) = true
  refine all_split ?_ w_codes
  rw [← List.take_append_drop 24 words1, List.all_append, w_t1, w_t2]
  rfl
set_option maxRecDepth 65536 in
theorem w_case : (Jvm.Cond.and given_1 narrow_1).before args0 about1 = true := by decide +kernel
theorem w_applies : (headSpec (Jvm.Cond.code x code maxLocals ret :: tables_1) room_1).applies x e0.platform about1 = true :=
  (Spec.applies_iff w_frames).mpr ⟨w_running, w_runnable, w_alone, w_named, w_hears, w_ripe, w_room, w_tables⟩
theorem atStart : AtStart classFile x code maxLocals ret World_1 tables_1 room_1 Calls_1 rest_1 Pre_1 launch0 p0 e0 about1 theMethod args0 below0 :=
  ⟨lists_1, trivial, launch0.admits_env _ _ _, launch0.least_env, fairChoices_fair.cas, fairChoices_fair.clock, w_frames, w_args, w_heap, w_applies, trivial, trivial, w_case⟩
end start1
theorem witness_1 : WitnessClaimed_1 := ⟨start1.p0, start1.e0, start1.about1, start1.theMethod, start1.args0, start1.below0, start1.atStart⟩
end Jvm.Pilot.@@N@@
