import JvmDerived
import JvmDerived.Pilot.@@N@@Statement
import JvmDerived.Pilot.@@N@@Code
set_option linter.unusedVariables false
set_option linter.unusedSimpArgs false
namespace Jvm.RoadKit
open Sem ClassFile Op Lib Jvm.Stand Jvm.Free Jvm.LawKit
section New
variable {p : Program} {l : Launch} {e : Env} {R : Room} {s : State} {m : MethodId} {args : Array Value} {below : List Frame} {meth : Method} {c : Code} {T : State} {locs : List Loc} {cells slots : Nat}
theorem retI (X : Stand p l e R s m args below meth c T locs cells slots) (hx : p.tables.exec = Jvm.exec) {pc : Nat} {Ls : Array Slot} {z : Int32} {rest : List Value} (hret : meth.sig.returnType = some .int) (hd : decode c.code pc = .ok (.ireturn, 1)) {fs : List Frame}
    (hl : ∀ (f : JFrame) (acts : List Action), f.method = m → f.locked = none → f.entered = [] → (doReturn e (T.setTop f) acts (some (.int z))).1 = T.setFrames fs) : Steps p.tables e below (T.setTop (mkF m pc Ls (.int z :: rest))) (T.setFrames fs) := by
  have hm' : T.vm.method? m = some meth := X.method'
  have hn : narrow .int (.int z) = .int z := rfl
  show Steps p.tables e below (T.setTop { method := m, pc := pc, locals := Ls, stack := _ :: rest, locked := none }) _
  jvm_step X.here [X.here.top, hx, hd, hm', hret, hn]
  first | (intro acts; rw [hl _ acts rfl rfl rfl]) | rw [hl _ _ rfl rfl rfl]
  exact Steps.refl _
end New
end Jvm.RoadKit
namespace Jvm.Pilot.@@N@@
open Jvm Jvm.ClassFile Sem Op Lib Jvm.Free Jvm.Stand Jvm.LawKit Jvm.RoadKit Bundle Jvm.Pilot.@@N@@.Jvm.D
def own_A (Z : State) (h : Heap) (a : Addr) (n : Nat) (f : Nat → Int32) : Prop := ∃ c : Cell, Arr Z h a c .int ∧ c.slots.size = n ∧ ∀ j, j < n → c.slots[j]? = some (.int (f j))
def own_upd (f : Nat → Int32) (i : Nat) (x : Int32) : Nat → Int32 := fun j => if j = i then x else f j
section OwnA
variable {Z : State} {h h' : Heap} {a b : Addr} {n : Nat} {f g : Nat → Int32} {sl : Nat} {v : Value} {ws : List Addr} {c : Cell} {j x z : Int32}
theorem own_A.lt (F : own_A Z h a n f) : a < h.size := by obtain ⟨c, A, -⟩ := F; exact A.lt
theorem own_A.ext (F : own_A Z h a n f) (E : Ext h h') : own_A Z h' a n f := by obtain ⟨c, A, r⟩ := F; exact ⟨c, A.ext E, r⟩
theorem own_A.other (F : own_A Z h b n f) (W : Wr h h' a sl v) (q : b ≠ a) : own_A Z h' b n f := by obtain ⟨c, A, r⟩ := F; exact ⟨c, A.other W q, r⟩
theorem own_A.keep (F : own_A Z h a n f) (K : Keep h h' ws) (q : a ∉ ws) : own_A Z h' a n f := by obtain ⟨c, A, r⟩ := F; exact ⟨c, ⟨K.2.1 a c A.1 q, A.2⟩, r⟩
theorem own_A.set {i : Nat} (F : own_A Z h a n f) (W : Wr h h' a i (.int x)) : own_A Z h' a n (own_upd f i x) := by
  obtain ⟨c, A, S, H⟩ := F
  have hi : i < c.slots.size := by obtain ⟨c2, e1, -, e3, -⟩ := W; cases A.1.symm.trans e1; exact e3
  refine ⟨_, A.same W, by rw [sz_set]; exact S, fun k hk => ?_⟩
  by_cases u : k = i
  · subst u; simp [Cell.setSlot, own_upd, hi]
  · simp only [Cell.setSlot, own_upd, if_neg u]; rw [Array.getElem?_setIfInBounds_ne (Ne.symm u)]; exact H k hk
theorem own_A.congr (F : own_A Z h a n f) (q : ∀ j, j < n → f j = g j) : own_A Z h a n g := by obtain ⟨c, A, S, H⟩ := F; exact ⟨c, A, S, fun j hj => by rw [← q j hj]; exact H j hj⟩
theorem own_A.new {k : ClassId} (A : Arr Z h a (newA k .int z) .int) (e : z.toNatClampNeg = n) : own_A Z h a n (fun _ => 0) := ⟨_, A, by rw [sz_new]; exact e, fun i hi => by simp [newA, e, hi, defaultValue]⟩
theorem own_inb (S : c.slots.size = n) (q1 : ¬ j < 0) (q2 : j.toNatClampNeg < n) : ¬ (j < 0 ∨ c.slots.size ≤ j.toNatClampNeg) := by rw [S]; intro y; rcases y with y | y; exact q1 y; omega
theorem own_len (S : c.slots.size = n) (q : n.toInt32 = z) : c.slots.size.toInt32 = z := by rw [S]; exact q
theorem own_A.arv (F : own_A Z h a n f) (hn : n < 2 ^ 31) : ∃ k, Arv Z h a k .int (Int32.ofNat n) ((List.range n).map fun j => .int (f j)) (.int 0) := by
  obtain ⟨c, A, S, H⟩ := F
  have e : (Int32.ofNat n).toInt = n := Int32.toInt_ofNat_of_lt (by omega)
  have gt : ∀ i, i < n → ((List.range n).map fun j => Value.int (f j)).getD i (.int 0) = .int (f i) := fun i hi => by simp [List.getD_eq_getElem?_getD, hi]
  refine ⟨c.cls, c, A, rfl, by simp only [Int32.toNatClampNeg, e]; omega, by rw [Int32.lt_iff_toInt_lt, e]; show ¬ (n : Int) < 0; omega, fun i hi => ?_, fun i hi => ?_⟩
  · rw [gt i (by omega)]; exact H i (by omega)
  · rw [gt i (by omega)]; rfl
end OwnA
def own_v0 : Nat → Int32 := fun _ => 0
def own_v1 (x0 : Int32) : Nat → Int32
  | _ => x0
def own_v2 (x0 x1 : Int32) : Nat → Int32
  | 0 => x0
  | _ => x1
def own_v3 (x0 x1 x2 : Int32) : Nat → Int32
  | 0 => x0
  | 1 => x1
  | _ => x2
def own_n (p0 : Int32) : Int32 := p0 &&& (3 : Int32)
def own_e0 (p1 : Int32) : Int32 := p1 &&& (1073741823 : Int32)
def own_e1 (p1 p2 : Int32) : Int32 := (own_e0 p1 + (1 : Int32)) + (p2 &&& (536870911 : Int32))
def own_e2 (p1 p2 p3 : Int32) : Int32 := (own_e1 p1 p2 + (1 : Int32)) + (p3 &&& (536870911 : Int32))
theorem own_nc (p0 : Int32) : own_n p0 = 0 ∨ own_n p0 = 1 ∨ own_n p0 = 2 ∨ own_n p0 = 3 := by
  have q := c_and p0 3 (by decide)
  have e : (3 : Int32).toInt = 3 := rfl
  have h : (own_n p0).toInt = 0 ∨ (own_n p0).toInt = 1 ∨ (own_n p0).toInt = 2 ∨ (own_n p0).toInt = 3 := by
    show (p0 &&& 3).toInt = 0 ∨ (p0 &&& 3).toInt = 1 ∨ (p0 &&& 3).toInt = 2 ∨ (p0 &&& 3).toInt = 3
    omega
  rcases h with h | h | h | h
  · exact Or.inl (Int32.toInt_inj.mp h)
  · exact Or.inr (Or.inl (Int32.toInt_inj.mp h))
  · exact Or.inr (Or.inr (Or.inl (Int32.toInt_inj.mp h)))
  · exact Or.inr (Or.inr (Or.inr (Int32.toInt_inj.mp h)))
theorem own_emp {args : Array Value} {Z : State} {t : Term} {a : Addr} (ev : t.eval args Z none [] Z = some (.ref a)) (h1 : (Jvm.Cond.arrayOf t .int).value args Z none Z [] = some true) (h2 : (Jvm.Cond.eq (Term.length t) (Term.int 0)).value args Z none Z [] = some true) : own_A Z Z.heap a 0 own_v0 := by
  obtain ⟨c, A⟩ := Arr.start ev h1
  obtain ⟨x, y, e1, e2, k1, k2⟩ := cmp_v (Or.inl h2)
  have e2' : y = .int 0 := (Option.some.inj e2).symm
  subst e2'
  obtain ⟨z, rfl⟩ := k2
  have q : z = 0 := by simpa [Jvm.Cond.value, e1, e2] using h2
  subst q
  have ha := A.fin (Vm.Alike.refl _)
  have hs : c.slots.size = 0 := by
    by_cases hl : c.slots.size < 2 ^ 31
    · have e3 := len_f ev ha hl
      have e4 : c.slots.size.toInt32 = 0 := by have := Option.some.inj (e3.symm.trans e1); exact Value.int.inj this
      have e5 := congrArg Int32.toInt e4
      rw [len_toInt hl] at e5
      have : (0 : Int32).toInt = 0 := rfl
      omega
    · simp [Term.eval, ev, ha, hl] at e1
  exact ⟨c, A, hs, fun j hj => by omega⟩
theorem own_d_prog_142_method_4_0 : decode prog_142_method_4_code 0 = .ok (.aload_n 0, 1) := by decide +kernel
theorem own_d_prog_142_method_4_1 : decode prog_142_method_4_code 1 = .ok (.arraylength, 1) := by decide +kernel
theorem own_d_prog_142_method_4_2 : decode prog_142_method_4_code 2 = .ok (.ifCond .le 13, 3) := by decide +kernel
theorem own_d_prog_142_method_4_5 : decode prog_142_method_4_code 5 = .ok (.aload_n 0, 1) := by decide +kernel
theorem own_d_prog_142_method_4_6 : decode prog_142_method_4_code 6 = .ok (.iconst 0, 1) := by decide +kernel
theorem own_d_prog_142_method_4_7 : decode prog_142_method_4_code 7 = .ok (.iaload, 1) := by decide +kernel
theorem own_d_prog_142_method_4_8 : decode prog_142_method_4_code 8 = .ok (.ifCond .ne 7, 3) := by decide +kernel
theorem own_d_prog_142_method_4_11 : decode prog_142_method_4_code 11 = .ok (.iconst 1, 1) := by decide +kernel
theorem own_d_prog_142_method_4_12 : decode prog_142_method_4_code 12 = .ok (.goto 4, 3) := by decide +kernel
theorem own_d_prog_142_method_4_15 : decode prog_142_method_4_code 15 = .ok (.iconst 0, 1) := by decide +kernel
theorem own_d_prog_142_method_4_16 : decode prog_142_method_4_code 16 = .ok (.istore_n 1, 1) := by decide +kernel
theorem own_d_prog_142_method_4_17 : decode prog_142_method_4_code 17 = .ok (.aload_n 0, 1) := by decide +kernel
theorem own_d_prog_142_method_4_18 : decode prog_142_method_4_code 18 = .ok (.arraylength, 1) := by decide +kernel
theorem own_d_prog_142_method_4_19 : decode prog_142_method_4_code 19 = .ok (.iload_n 1, 1) := by decide +kernel
theorem own_d_prog_142_method_4_20 : decode prog_142_method_4_code 20 = .ok (.isub, 1) := by decide +kernel
theorem own_d_prog_142_method_4_21 : decode prog_142_method_4_code 21 = .ok (.newarray .int, 2) := by decide +kernel
theorem own_d_prog_142_method_4_23 : decode prog_142_method_4_code 23 = .ok (.astore_n 2, 1) := by decide +kernel
theorem own_d_prog_142_method_4_24 : decode prog_142_method_4_code 24 = .ok (.iconst 0, 1) := by decide +kernel
theorem own_d_prog_142_method_4_25 : decode prog_142_method_4_code 25 = .ok (.istore_n 3, 1) := by decide +kernel
theorem own_d_prog_142_method_4_26 : decode prog_142_method_4_code 26 = .ok (.iload_n 3, 1) := by decide +kernel
theorem own_d_prog_142_method_4_27 : decode prog_142_method_4_code 27 = .ok (.aload_n 2, 1) := by decide +kernel
theorem own_d_prog_142_method_4_28 : decode prog_142_method_4_code 28 = .ok (.arraylength, 1) := by decide +kernel
theorem own_d_prog_142_method_4_29 : decode prog_142_method_4_code 29 = .ok (.if_icmp .ge 19, 3) := by decide +kernel
theorem own_d_prog_142_method_4_32 : decode prog_142_method_4_code 32 = .ok (.aload_n 2, 1) := by decide +kernel
theorem own_d_prog_142_method_4_33 : decode prog_142_method_4_code 33 = .ok (.iload_n 3, 1) := by decide +kernel
theorem own_d_prog_142_method_4_34 : decode prog_142_method_4_code 34 = .ok (.aload_n 0, 1) := by decide +kernel
theorem own_d_prog_142_method_4_35 : decode prog_142_method_4_code 35 = .ok (.iload_n 1, 1) := by decide +kernel
theorem own_d_prog_142_method_4_36 : decode prog_142_method_4_code 36 = .ok (.iload_n 3, 1) := by decide +kernel
theorem own_d_prog_142_method_4_37 : decode prog_142_method_4_code 37 = .ok (.iadd, 1) := by decide +kernel
theorem own_d_prog_142_method_4_38 : decode prog_142_method_4_code 38 = .ok (.iaload, 1) := by decide +kernel
theorem own_d_prog_142_method_4_39 : decode prog_142_method_4_code 39 = .ok (.iconst 1, 1) := by decide +kernel
theorem own_d_prog_142_method_4_40 : decode prog_142_method_4_code 40 = .ok (.isub, 1) := by decide +kernel
theorem own_d_prog_142_method_4_41 : decode prog_142_method_4_code 41 = .ok (.iastore, 1) := by decide +kernel
theorem own_d_prog_142_method_4_42 : decode prog_142_method_4_code 42 = .ok (.iinc 3 1, 3) := by decide +kernel
theorem own_d_prog_142_method_4_45 : decode prog_142_method_4_code 45 = .ok (.goto (-19), 3) := by decide +kernel
theorem own_d_prog_142_method_4_48 : decode prog_142_method_4_code 48 = .ok (.aload_n 2, 1) := by decide +kernel
theorem own_d_prog_142_method_4_49 : decode prog_142_method_4_code 49 = .ok (.arraylength, 1) := by decide +kernel
theorem own_d_prog_142_method_4_50 : decode prog_142_method_4_code 50 = .ok (.ifCond .ne 9, 3) := by decide +kernel
theorem own_d_prog_142_method_4_53 : decode prog_142_method_4_code 53 = .ok (.getstatic 19, 3) := by decide +kernel
theorem own_d_prog_142_method_4_56 : decode prog_142_method_4_code 56 = .ok (.goto 4, 3) := by decide +kernel
theorem own_d_prog_142_method_4_59 : decode prog_142_method_4_code 59 = .ok (.aload_n 2, 1) := by decide +kernel
theorem own_d_prog_142_method_4_60 : decode prog_142_method_4_code 60 = .ok (.areturn, 1) := by decide +kernel
theorem own_pn0 : plainName "com/example/unfold/unfold/semantics/GateSets" = true := by first | (simp [plainName, overriddenIn]; done) | decide +kernel
theorem own_ef_oh0n (m : MethodId) (a1 : Addr) : entryFrame m #[(.ref a1)] 4 = mkF m 0 #[.val (.ref a1), .unset, .unset, .unset] [] := by first | (simp [entryFrame, mkF, argsToLocals, Value.category]; done) | rfl
def own_Q_oh0n (Z : State) (a1 : Addr) (aS : Addr) (h0 : Heap) (n0 : Nat) (v : Option Value) (h : Heap) (L : List Loc) : Prop := v = some (.ref aS) ∧ Fr n0 L ∧ Keep h0 h []
set_option maxRecDepth 65536 in
set_option maxHeartbeats 40000000 in
theorem own_rm_oh0n (l : Launch) (Z : State) (a0 : Array Value) (hw : ∀ d ∈ tables_1, d.before a0 Z = true) (ws : List Jvm.Cond) (a1 : Addr) (aS : Addr) (h0 : Heap) (n0 : Nat) (Z0 : n0 ≤ h0.size) (A1 : own_A Z h0 a1 0 own_v0) (S0 : Sta Z h0 "com/example/unfold/unfold/semantics/GateSets" "EMPTY" "[I" (.ref aS)) :
    MetFree l (⟨"com/example/unfold/unfold/semantics/GateSets", "outsideHide", "([I)[I"⟩ : MethodName) (head1 (Jvm.Cond.code (⟨"com/example/unfold/unfold/semantics/GateSets", "outsideHide", "([I)[I"⟩ : MethodName) prog_142_method_4_code 4 (some (.array .int)) :: ws) ({ frames := 0, cells := 1, slots := 0, locals := 0 } : Room)) (fun a U => a = #[(.ref a1)] ∧ Z.Warmed39 U.vm ∧ U.heap = h0) (fun _ _ _ _ _ => True) (fun _ U o U' => ∃ v L, o = .returned v ∧ own_Q_oh0n Z a1 aS h0 n0 v U'.heap L ∧ FrameEnd U o U' L ({ frames := 0, cells := 1, slots := 0, locals := 0 } : Room).cells ({ frames := 0, cells := 1, slots := 0, locals := 0 } : Room).slots) := by
  refine MetFree.of_bodySF (plainFor_of_name own_pn0) hisR ?_
  intro p e s m args below meth c s₁ Bd hml0 hP hK
  obtain ⟨rfl, hZ, hh⟩ := hP
  have hx := Bd.exec
  have hby := Bd.bytes
  have hml : c.maxLocals = 4 := hml0
  have hown : s.vm.findClass "com/example/unfold/unfold/semantics/GateSets" = some m.cls := findClass_of_methodNamed Bd.named
  have hnm := (name_of_methodNamed Bd.named Bd.method).1
  have X0 : Stand p l e ({ frames := 0, cells := 1, slots := 0, locals := 0 } : Room) s m #[(.ref a1)] below meth c s₁ [] 0 0 := Stand.of_body Bd
  have e0 : s₁.heap = h0 := by rw [← hh, Bd.state]; rfl
  have N0 := Fr.nil n0
  have K0 : Keep h0 h0 [] := Keep.refl _ _
  have pre0 : ∀ t, Steps p.tables e below (s₁.setTop (mkF m 0 #[.val (.ref a1), .unset, .unset, .unset] [])) t → Steps p.tables e below (s₁.setTop (entryFrame m #[(.ref a1)] 4)) t := fun t k => castTop (own_ef_oh0n m a1) k
  obtain ⟨cl1, Ar1, S1, -⟩ := id A1
  obtain ⟨cl2, Ar2, S2, -⟩ := id A1
  obtain ⟨T3, h3, k3, X3, e3, E3, A3, I3, st3⟩ := newPE X0 hx hZ (hw _ (List.mem_of_getElem? (i := 2) rfl)) e0 (g := (mkF m 21 #[.val (.ref a1), .val (.int (0 : Int32)), .unset, .unset] [(.int (0 : Int32))])) rfl (hb hby own_d_prog_142_method_4_21) rfl (by decide) (cap := 0) (by decide) (by decide) (by decide) (by decide) (ad := "[I") rfl
  obtain ⟨b3, g3⟩ : ∃ z, z = h0.size := ⟨_, rfl⟩
  rw [← g3] at A3 I3 st3
  have sz_b3 : h0.size ≤ b3 := Nat.le_trans K0.1 (Nat.le_of_eq g3.symm)
  have gn_b3 : n0 ≤ b3 := Nat.le_trans Z0 sz_b3
  have ne_a1_b3 : a1 ≠ b3 := Nat.ne_of_lt (Nat.lt_of_lt_of_le A1.lt (Nat.le_of_eq g3.symm))
  have f4 := A1.ext E3
  have f5 := S0.ext E3
  have k6 := K0.ext E3
  have f7 : own_A Z h3 b3 0 own_v0 := (own_A.new A3 rfl).congr (fun j hj => by rcases j with j <;> first | rfl | (simp [own_upd]; done) | omega)
  have pre8 : ∀ t, Steps p.tables e below (T3.setTop (mkF m 24 #[.val (.ref a1), .val (.int (0 : Int32)), .val (.ref b3), .unset] [])) t → Steps p.tables e below (s₁.setTop (entryFrame m #[(.ref a1)] 4)) t := by
    intro t kt
    refine pre0 t ?_
    show Steps p.tables e below (s₁.setTop (mkF m 0 #[.val (.ref a1), .unset, .unset, .unset] [])) _
    refine XS.aloadN X0.here hx rfl (hb hby own_d_prog_142_method_4_0) rfl rfl ?_
    show Steps p.tables e below (s₁.setTop (mkF m 1 #[.val (.ref a1), .unset, .unset, .unset] [(.ref a1)])) _
    refine X0.arraylength hx (by rw [e0]; exact Ar1.1) (State.isArrayOf_alike hZ.alike Ar1.2.1) (g := (mkF m 1 #[.val (.ref a1), .unset, .unset, .unset] [(.ref a1)])) rfl rfl (hb hby own_d_prog_142_method_4_1) _ ?_
    rw [own_len (z := (0 : Int32)) S1 rfl]
    show Steps p.tables e below (s₁.setTop (mkF m 2 #[.val (.ref a1), .unset, .unset, .unset] [(.int (0 : Int32))])) _
    refine XS.ifYes X0.here hx rfl (pc0 := 2) (pc' := 15) rfl (hb hby own_d_prog_142_method_4_2) rfl ((if0 _ _).trans (flt (by decide : ¬ ((0 : Int32) < (0 : Int32)))).2.2.2) (by decide) (by decide) ?_
    show Steps p.tables e below (s₁.setTop (mkF m 15 #[.val (.ref a1), .unset, .unset, .unset] [])) _
    refine XS.iconst X0.here hx rfl (hb hby own_d_prog_142_method_4_15) ?_
    show Steps p.tables e below (s₁.setTop (mkF m 16 #[.val (.ref a1), .unset, .unset, .unset] [(.int (0 : Int32))])) _
    refine XS.istoreN X0.here hx rfl (hb hby own_d_prog_142_method_4_16) rfl (l' := #[.val (.ref a1), .val (.int (0 : Int32)), .unset, .unset]) rfl ?_
    show Steps p.tables e below (s₁.setTop (mkF m 17 #[.val (.ref a1), .val (.int (0 : Int32)), .unset, .unset] [])) _
    refine XS.aloadN X0.here hx rfl (hb hby own_d_prog_142_method_4_17) rfl rfl ?_
    show Steps p.tables e below (s₁.setTop (mkF m 18 #[.val (.ref a1), .val (.int (0 : Int32)), .unset, .unset] [(.ref a1)])) _
    refine X0.arraylength hx (by rw [e0]; exact Ar2.1) (State.isArrayOf_alike hZ.alike Ar2.2.1) (g := (mkF m 18 #[.val (.ref a1), .val (.int (0 : Int32)), .unset, .unset] [(.ref a1)])) rfl rfl (hb hby own_d_prog_142_method_4_18) _ ?_
    rw [own_len (z := (0 : Int32)) S2 rfl]
    show Steps p.tables e below (s₁.setTop (mkF m 19 #[.val (.ref a1), .val (.int (0 : Int32)), .unset, .unset] [(.int (0 : Int32))])) _
    refine XS.iloadN X0.here hx rfl (hb hby own_d_prog_142_method_4_19) rfl ?_
    show Steps p.tables e below (s₁.setTop (mkF m 20 #[.val (.ref a1), .val (.int (0 : Int32)), .unset, .unset] [(.int (0 : Int32)), (.int (0 : Int32))])) _
    refine XS.isub X0.here hx rfl (hb hby own_d_prog_142_method_4_20) rfl ?_
    show Steps p.tables e below (s₁.setTop (mkF m 21 #[.val (.ref a1), .val (.int (0 : Int32)), .unset, .unset] [(.int (0 : Int32))])) _
    refine st3 _ ?_
    show Steps p.tables e below (T3.setTop (mkF m 23 #[.val (.ref a1), .val (.int (0 : Int32)), .unset, .unset] [(.ref b3)])) _
    refine XS.astoreN X3.here hx rfl (hb hby own_d_prog_142_method_4_23) rfl rfl (l' := #[.val (.ref a1), .val (.int (0 : Int32)), .val (.ref b3), .unset]) rfl ?_
    exact kt
  obtain ⟨cl9, Ar9, S9, -⟩ := id f7
  obtain ⟨cl10, Ar10, S10, -⟩ := id f7
  obtain ⟨T11, X11, e11, st11⟩ := getS2 X3 hx hZ hown (host := "") (Or.inl (hw _ (List.mem_of_getElem? (i := 7) rfl))) Via.refl e3 f5 (g := (mkF m 53 #[.val (.ref a1), .val (.int (0 : Int32)), .val (.ref b3), .val (.int (0 : Int32))] [])) rfl (hb hby own_d_prog_142_method_4_53)
  have pre12 : ∀ t, Steps p.tables e below (T11.setTop (mkF m 60 #[.val (.ref a1), .val (.int (0 : Int32)), .val (.ref b3), .val (.int (0 : Int32))] [(.ref aS)])) t → Steps p.tables e below (s₁.setTop (entryFrame m #[(.ref a1)] 4)) t := by
    intro t kt
    refine pre8 t ?_
    show Steps p.tables e below (T3.setTop (mkF m 24 #[.val (.ref a1), .val (.int (0 : Int32)), .val (.ref b3), .unset] [])) _
    refine XS.iconst X3.here hx rfl (hb hby own_d_prog_142_method_4_24) ?_
    show Steps p.tables e below (T3.setTop (mkF m 25 #[.val (.ref a1), .val (.int (0 : Int32)), .val (.ref b3), .unset] [(.int (0 : Int32))])) _
    refine XS.istoreN X3.here hx rfl (hb hby own_d_prog_142_method_4_25) rfl (l' := #[.val (.ref a1), .val (.int (0 : Int32)), .val (.ref b3), .val (.int (0 : Int32))]) rfl ?_
    show Steps p.tables e below (T3.setTop (mkF m 26 #[.val (.ref a1), .val (.int (0 : Int32)), .val (.ref b3), .val (.int (0 : Int32))] [])) _
    refine XS.iloadN X3.here hx rfl (hb hby own_d_prog_142_method_4_26) rfl ?_
    show Steps p.tables e below (T3.setTop (mkF m 27 #[.val (.ref a1), .val (.int (0 : Int32)), .val (.ref b3), .val (.int (0 : Int32))] [(.int (0 : Int32))])) _
    refine XS.aloadN X3.here hx rfl (hb hby own_d_prog_142_method_4_27) rfl rfl ?_
    show Steps p.tables e below (T3.setTop (mkF m 28 #[.val (.ref a1), .val (.int (0 : Int32)), .val (.ref b3), .val (.int (0 : Int32))] [(.ref b3), (.int (0 : Int32))])) _
    refine X3.arraylength hx (by rw [e3]; exact Ar9.1) (State.isArrayOf_alike hZ.alike Ar9.2.1) (g := (mkF m 28 #[.val (.ref a1), .val (.int (0 : Int32)), .val (.ref b3), .val (.int (0 : Int32))] [(.ref b3), (.int (0 : Int32))])) rfl rfl (hb hby own_d_prog_142_method_4_28) _ ?_
    rw [own_len (z := (0 : Int32)) S9 rfl]
    show Steps p.tables e below (T3.setTop (mkF m 29 #[.val (.ref a1), .val (.int (0 : Int32)), .val (.ref b3), .val (.int (0 : Int32))] [(.int (0 : Int32)), (.int (0 : Int32))])) _
    refine XS.icmpYes X3.here hx rfl (pc0 := 29) (pc' := 48) rfl (hb hby own_d_prog_142_method_4_29) rfl (flt (by decide : ¬ ((0 : Int32) < (0 : Int32)))).2.1 (by decide) (by decide) ?_
    show Steps p.tables e below (T3.setTop (mkF m 48 #[.val (.ref a1), .val (.int (0 : Int32)), .val (.ref b3), .val (.int (0 : Int32))] [])) _
    refine XS.aloadN X3.here hx rfl (hb hby own_d_prog_142_method_4_48) rfl rfl ?_
    show Steps p.tables e below (T3.setTop (mkF m 49 #[.val (.ref a1), .val (.int (0 : Int32)), .val (.ref b3), .val (.int (0 : Int32))] [(.ref b3)])) _
    refine X3.arraylength hx (by rw [e3]; exact Ar10.1) (State.isArrayOf_alike hZ.alike Ar10.2.1) (g := (mkF m 49 #[.val (.ref a1), .val (.int (0 : Int32)), .val (.ref b3), .val (.int (0 : Int32))] [(.ref b3)])) rfl rfl (hb hby own_d_prog_142_method_4_49) _ ?_
    rw [own_len (z := (0 : Int32)) S10 rfl]
    show Steps p.tables e below (T3.setTop (mkF m 50 #[.val (.ref a1), .val (.int (0 : Int32)), .val (.ref b3), .val (.int (0 : Int32))] [(.int (0 : Int32))])) _
    refine XS.ifNo X3.here hx rfl (hb hby own_d_prog_142_method_4_50) rfl ((if0 _ _).trans (teq (rfl : (0 : Int32) = (0 : Int32))).2) ?_
    show Steps p.tables e below (T3.setTop (mkF m 53 #[.val (.ref a1), .val (.int (0 : Int32)), .val (.ref b3), .val (.int (0 : Int32))] [])) _
    refine st11 _ ?_
    show Steps p.tables e below (T11.setTop (mkF m 56 #[.val (.ref a1), .val (.int (0 : Int32)), .val (.ref b3), .val (.int (0 : Int32))] [(.ref aS)])) _
    refine XS.goto X11.here hx rfl (pc0 := 56) (pc' := 60) rfl (hb hby own_d_prog_142_method_4_56) (by decide) (by decide) ?_
    exact kt
  obtain ⟨fs, hr, hrun, hended, hW, hsame⟩ := X11.leave (v := some (.ref aS)) (fun h => by rw [Bd.returns] at h; cases h)
  refine ⟨_, _, pre12 _ ?_, hrun, hended, _, _, rfl, ?_, ⟨_, rfl⟩, hW, hsame.mono (by decide) (by decide)⟩
  · show Steps p.tables e below (T11.setTop (mkF m 60 #[.val (.ref a1), .val (.int (0 : Int32)), .val (.ref b3), .val (.int (0 : Int32))] [(.ref aS)])) _
    jvm_step X11.here [X11.here.top, hx, (hb hby own_d_prog_142_method_4_60), X11.method', Bd.returns, Value.isRef, FieldType.isReference]
    first | (intro acts; rw [hr _ acts rfl rfl rfl]) | rw [hr _ _ rfl rfl rfl]
    exact Steps.refl _
  · show own_Q_oh0n Z a1 aS h0 n0 (some (.ref aS)) T11.heap _
    rw [e11]
    exact ⟨rfl, N0, k6⟩
theorem own_ef_oh1n (m : MethodId) (a1 : Addr) : entryFrame m #[(.ref a1)] 4 = mkF m 0 #[.val (.ref a1), .unset, .unset, .unset] [] := by first | (simp [entryFrame, mkF, argsToLocals, Value.category]; done) | rfl
def own_Q_oh1n (Z : State) (a1 : Addr) (x0 : Int32) (h0 : Heap) (n0 : Nat) (v : Option Value) (h : Heap) (L : List Loc) : Prop := ∃ r : Addr, v = some (.ref r) ∧ Fr n0 L ∧ Keep h0 h [] ∧ h0.size ≤ r ∧ own_A Z h r 1 (own_v1 (x0 - (1 : Int32)))
set_option maxRecDepth 65536 in
set_option maxHeartbeats 40000000 in
theorem own_rm_oh1n (l : Launch) (Z : State) (a0 : Array Value) (hw : ∀ d ∈ tables_1, d.before a0 Z = true) (ws : List Jvm.Cond) (a1 : Addr) (x0 : Int32) (h0 : Heap) (n0 : Nat) (Z0 : n0 ≤ h0.size) (A1 : own_A Z h0 a1 1 (own_v1 x0)) (hz : ¬ x0 = (0 : Int32)) :
    MetFree l (⟨"com/example/unfold/unfold/semantics/GateSets", "outsideHide", "([I)[I"⟩ : MethodName) (head1 (Jvm.Cond.code (⟨"com/example/unfold/unfold/semantics/GateSets", "outsideHide", "([I)[I"⟩ : MethodName) prog_142_method_4_code 4 (some (.array .int)) :: ws) ({ frames := 0, cells := 1, slots := 1, locals := 0 } : Room)) (fun a U => a = #[(.ref a1)] ∧ Z.Warmed39 U.vm ∧ U.heap = h0) (fun _ _ _ _ _ => True) (fun _ U o U' => ∃ v L, o = .returned v ∧ own_Q_oh1n Z a1 x0 h0 n0 v U'.heap L ∧ FrameEnd U o U' L ({ frames := 0, cells := 1, slots := 1, locals := 0 } : Room).cells ({ frames := 0, cells := 1, slots := 1, locals := 0 } : Room).slots) := by
  refine MetFree.of_bodySF (plainFor_of_name own_pn0) hisR ?_
  intro p e s m args below meth c s₁ Bd hml0 hP hK
  obtain ⟨rfl, hZ, hh⟩ := hP
  have hx := Bd.exec
  have hby := Bd.bytes
  have hml : c.maxLocals = 4 := hml0
  have hown : s.vm.findClass "com/example/unfold/unfold/semantics/GateSets" = some m.cls := findClass_of_methodNamed Bd.named
  have hnm := (name_of_methodNamed Bd.named Bd.method).1
  have X0 : Stand p l e ({ frames := 0, cells := 1, slots := 1, locals := 0 } : Room) s m #[(.ref a1)] below meth c s₁ [] 0 0 := Stand.of_body Bd
  have e0 : s₁.heap = h0 := by rw [← hh, Bd.state]; rfl
  have N0 := Fr.nil n0
  have K0 : Keep h0 h0 [] := Keep.refl _ _
  have pre0 : ∀ t, Steps p.tables e below (s₁.setTop (mkF m 0 #[.val (.ref a1), .unset, .unset, .unset] [])) t → Steps p.tables e below (s₁.setTop (entryFrame m #[(.ref a1)] 4)) t := fun t k => castTop (own_ef_oh1n m a1) k
  obtain ⟨cl1, Ar1, S1, -⟩ := id A1
  obtain ⟨cl2, Ar2, S2, H2⟩ := id A1
  have hin2 : ¬ ((0 : Int32) < 0 ∨ cl2.slots.size ≤ ((0 : Int32)).toNatClampNeg) := own_inb S2 (by decide) (by decide)
  have hat2 : cl2.slots[((0 : Int32)).toNatClampNeg]? = some (.int x0) := H2 _ (by decide)
  obtain ⟨cl3, Ar3, S3, -⟩ := id A1
  have pre4 : ∀ t, Steps p.tables e below (s₁.setTop (mkF m 19 #[.val (.ref a1), .val (.int (0 : Int32)), .unset, .unset] [(.int (1 : Int32))])) t → Steps p.tables e below (s₁.setTop (entryFrame m #[(.ref a1)] 4)) t := by
    intro t kt
    refine pre0 t ?_
    show Steps p.tables e below (s₁.setTop (mkF m 0 #[.val (.ref a1), .unset, .unset, .unset] [])) _
    refine XS.aloadN X0.here hx rfl (hb hby own_d_prog_142_method_4_0) rfl rfl ?_
    show Steps p.tables e below (s₁.setTop (mkF m 1 #[.val (.ref a1), .unset, .unset, .unset] [(.ref a1)])) _
    refine X0.arraylength hx (by rw [e0]; exact Ar1.1) (State.isArrayOf_alike hZ.alike Ar1.2.1) (g := (mkF m 1 #[.val (.ref a1), .unset, .unset, .unset] [(.ref a1)])) rfl rfl (hb hby own_d_prog_142_method_4_1) _ ?_
    rw [own_len (z := (1 : Int32)) S1 rfl]
    show Steps p.tables e below (s₁.setTop (mkF m 2 #[.val (.ref a1), .unset, .unset, .unset] [(.int (1 : Int32))])) _
    refine XS.ifNo X0.here hx rfl (hb hby own_d_prog_142_method_4_2) rfl ((if0 _ _).trans (tlt (by decide : (0 : Int32) < (1 : Int32))).2.2.2) ?_
    show Steps p.tables e below (s₁.setTop (mkF m 5 #[.val (.ref a1), .unset, .unset, .unset] [])) _
    refine XS.aloadN X0.here hx rfl (hb hby own_d_prog_142_method_4_5) rfl rfl ?_
    show Steps p.tables e below (s₁.setTop (mkF m 6 #[.val (.ref a1), .unset, .unset, .unset] [(.ref a1)])) _
    refine XS.iconst X0.here hx rfl (hb hby own_d_prog_142_method_4_6) ?_
    show Steps p.tables e below (s₁.setTop (mkF m 7 #[.val (.ref a1), .unset, .unset, .unset] [(.int (0 : Int32)), (.ref a1)])) _
    refine X0.iaload hx (j := (0 : Int32)) (v := (.int x0)) (by rw [e0]; exact Ar2.1) (State.isArrayOf_alike hZ.alike Ar2.2.1) Ar2.2.2 hin2 hat2 (g := (mkF m 7 #[.val (.ref a1), .unset, .unset, .unset] [(.int (0 : Int32)), (.ref a1)])) rfl rfl (hb hby own_d_prog_142_method_4_7) _ ?_
    show Steps p.tables e below (s₁.setTop (mkF m 8 #[.val (.ref a1), .unset, .unset, .unset] [(.int x0)])) _
    refine XS.ifYes X0.here hx rfl (pc0 := 8) (pc' := 15) rfl (hb hby own_d_prog_142_method_4_8) rfl ((if0 _ _).trans (feq hz).2) (by decide) (by decide) ?_
    show Steps p.tables e below (s₁.setTop (mkF m 15 #[.val (.ref a1), .unset, .unset, .unset] [])) _
    refine XS.iconst X0.here hx rfl (hb hby own_d_prog_142_method_4_15) ?_
    show Steps p.tables e below (s₁.setTop (mkF m 16 #[.val (.ref a1), .unset, .unset, .unset] [(.int (0 : Int32))])) _
    refine XS.istoreN X0.here hx rfl (hb hby own_d_prog_142_method_4_16) rfl (l' := #[.val (.ref a1), .val (.int (0 : Int32)), .unset, .unset]) rfl ?_
    show Steps p.tables e below (s₁.setTop (mkF m 17 #[.val (.ref a1), .val (.int (0 : Int32)), .unset, .unset] [])) _
    refine XS.aloadN X0.here hx rfl (hb hby own_d_prog_142_method_4_17) rfl rfl ?_
    show Steps p.tables e below (s₁.setTop (mkF m 18 #[.val (.ref a1), .val (.int (0 : Int32)), .unset, .unset] [(.ref a1)])) _
    refine X0.arraylength hx (by rw [e0]; exact Ar3.1) (State.isArrayOf_alike hZ.alike Ar3.2.1) (g := (mkF m 18 #[.val (.ref a1), .val (.int (0 : Int32)), .unset, .unset] [(.ref a1)])) rfl rfl (hb hby own_d_prog_142_method_4_18) _ ?_
    rw [own_len (z := (1 : Int32)) S3 rfl]
    exact kt
  obtain ⟨T5, h5, k5, X5, e5, E5, A5, I5, st5⟩ := newPE X0 hx hZ (hw _ (List.mem_of_getElem? (i := 2) rfl)) e0 (g := (mkF m 21 #[.val (.ref a1), .val (.int (0 : Int32)), .unset, .unset] [(.int (1 : Int32))])) rfl (hb hby own_d_prog_142_method_4_21) rfl (by decide) (cap := 1) (by decide) (by decide) (by decide) (by decide) (ad := "[I") rfl
  obtain ⟨b5, g5⟩ : ∃ z, z = h0.size := ⟨_, rfl⟩
  rw [← g5] at A5 I5 st5
  have sz_b5 : h0.size ≤ b5 := Nat.le_trans K0.1 (Nat.le_of_eq g5.symm)
  have gn_b5 : n0 ≤ b5 := Nat.le_trans Z0 sz_b5
  have ne_a1_b5 : a1 ≠ b5 := Nat.ne_of_lt (Nat.lt_of_lt_of_le A1.lt (Nat.le_of_eq g5.symm))
  have f6 := A1.ext E5
  have k7 := K0.ext E5
  have f8 : own_A Z h5 b5 1 (own_v1 (0 : Int32)) := (own_A.new A5 rfl).congr (fun j hj => by rcases j with _ | j <;> first | rfl | (simp [own_upd]; done) | omega)
  obtain ⟨cl9, Ar9, S9, -⟩ := id f8
  have pre10 : ∀ t, Steps p.tables e below (T5.setTop (mkF m 34 #[.val (.ref a1), .val (.int (0 : Int32)), .val (.ref b5), .val (.int (0 : Int32))] [(.int (0 : Int32)), (.ref b5)])) t → Steps p.tables e below (s₁.setTop (entryFrame m #[(.ref a1)] 4)) t := by
    intro t kt
    refine pre4 t ?_
    show Steps p.tables e below (s₁.setTop (mkF m 19 #[.val (.ref a1), .val (.int (0 : Int32)), .unset, .unset] [(.int (1 : Int32))])) _
    refine XS.iloadN X0.here hx rfl (hb hby own_d_prog_142_method_4_19) rfl ?_
    show Steps p.tables e below (s₁.setTop (mkF m 20 #[.val (.ref a1), .val (.int (0 : Int32)), .unset, .unset] [(.int (0 : Int32)), (.int (1 : Int32))])) _
    refine XS.isub X0.here hx rfl (hb hby own_d_prog_142_method_4_20) rfl ?_
    show Steps p.tables e below (s₁.setTop (mkF m 21 #[.val (.ref a1), .val (.int (0 : Int32)), .unset, .unset] [(.int (1 : Int32))])) _
    refine st5 _ ?_
    show Steps p.tables e below (T5.setTop (mkF m 23 #[.val (.ref a1), .val (.int (0 : Int32)), .unset, .unset] [(.ref b5)])) _
    refine XS.astoreN X5.here hx rfl (hb hby own_d_prog_142_method_4_23) rfl rfl (l' := #[.val (.ref a1), .val (.int (0 : Int32)), .val (.ref b5), .unset]) rfl ?_
    show Steps p.tables e below (T5.setTop (mkF m 24 #[.val (.ref a1), .val (.int (0 : Int32)), .val (.ref b5), .unset] [])) _
    refine XS.iconst X5.here hx rfl (hb hby own_d_prog_142_method_4_24) ?_
    show Steps p.tables e below (T5.setTop (mkF m 25 #[.val (.ref a1), .val (.int (0 : Int32)), .val (.ref b5), .unset] [(.int (0 : Int32))])) _
    refine XS.istoreN X5.here hx rfl (hb hby own_d_prog_142_method_4_25) rfl (l' := #[.val (.ref a1), .val (.int (0 : Int32)), .val (.ref b5), .val (.int (0 : Int32))]) rfl ?_
    show Steps p.tables e below (T5.setTop (mkF m 26 #[.val (.ref a1), .val (.int (0 : Int32)), .val (.ref b5), .val (.int (0 : Int32))] [])) _
    refine XS.iloadN X5.here hx rfl (hb hby own_d_prog_142_method_4_26) rfl ?_
    show Steps p.tables e below (T5.setTop (mkF m 27 #[.val (.ref a1), .val (.int (0 : Int32)), .val (.ref b5), .val (.int (0 : Int32))] [(.int (0 : Int32))])) _
    refine XS.aloadN X5.here hx rfl (hb hby own_d_prog_142_method_4_27) rfl rfl ?_
    show Steps p.tables e below (T5.setTop (mkF m 28 #[.val (.ref a1), .val (.int (0 : Int32)), .val (.ref b5), .val (.int (0 : Int32))] [(.ref b5), (.int (0 : Int32))])) _
    refine X5.arraylength hx (by rw [e5]; exact Ar9.1) (State.isArrayOf_alike hZ.alike Ar9.2.1) (g := (mkF m 28 #[.val (.ref a1), .val (.int (0 : Int32)), .val (.ref b5), .val (.int (0 : Int32))] [(.ref b5), (.int (0 : Int32))])) rfl rfl (hb hby own_d_prog_142_method_4_28) _ ?_
    rw [own_len (z := (1 : Int32)) S9 rfl]
    show Steps p.tables e below (T5.setTop (mkF m 29 #[.val (.ref a1), .val (.int (0 : Int32)), .val (.ref b5), .val (.int (0 : Int32))] [(.int (1 : Int32)), (.int (0 : Int32))])) _
    refine XS.icmpNo X5.here hx rfl (hb hby own_d_prog_142_method_4_29) rfl (tlt (by decide : (0 : Int32) < (1 : Int32))).2.1 ?_
    show Steps p.tables e below (T5.setTop (mkF m 32 #[.val (.ref a1), .val (.int (0 : Int32)), .val (.ref b5), .val (.int (0 : Int32))] [])) _
    refine XS.aloadN X5.here hx rfl (hb hby own_d_prog_142_method_4_32) rfl rfl ?_
    show Steps p.tables e below (T5.setTop (mkF m 33 #[.val (.ref a1), .val (.int (0 : Int32)), .val (.ref b5), .val (.int (0 : Int32))] [(.ref b5)])) _
    refine XS.iloadN X5.here hx rfl (hb hby own_d_prog_142_method_4_33) rfl ?_
    exact kt
  obtain ⟨cl11, Ar11, S11, H11⟩ := id f6
  have hin11 : ¬ ((0 : Int32) < 0 ∨ cl11.slots.size ≤ ((0 : Int32)).toNatClampNeg) := own_inb S11 (by decide) (by decide)
  have hat11 : cl11.slots[((0 : Int32)).toNatClampNeg]? = some (.int x0) := H11 _ (by decide)
  obtain ⟨cl12, Ar12, S12, H12⟩ := id f8
  have hin12 : ¬ ((0 : Int32) < 0 ∨ cl12.slots.size ≤ ((0 : Int32)).toNatClampNeg) := own_inb S12 (by decide) (by decide)
  obtain ⟨T13, h13, X13, e13, W13, st13⟩ := stI X5 hx hZ e5 Ar12 (j := (0 : Int32)) hin12 (g := (mkF m 41 #[.val (.ref a1), .val (.int (0 : Int32)), .val (.ref b5), .val (.int (0 : Int32))] [(.int (x0 - (1 : Int32))), (.int (0 : Int32)), (.ref b5)])) rfl rfl (hb hby own_d_prog_142_method_4_41)
  have f14 := f6.other W13 ne_a1_b5
  have f15 := I5.wr W13
  have k17 := k7.wr W13 (Or.inr sz_b5)
  have nf18 := Fr.snoc X13 N0 gn_b5
  have f19 := f8.set W13
  have f20 : own_A Z h13 b5 1 (own_v1 (x0 - (1 : Int32))) := f19.congr (fun j hj => by rcases j with _ | j <;> first | rfl | (simp [own_upd]; done) | omega)
  have pre21 : ∀ t, Steps p.tables e below (T13.setTop (mkF m 28 #[.val (.ref a1), .val (.int (0 : Int32)), .val (.ref b5), .val (.int (1 : Int32))] [(.ref b5), (.int (1 : Int32))])) t → Steps p.tables e below (s₁.setTop (entryFrame m #[(.ref a1)] 4)) t := by
    intro t kt
    refine pre10 t ?_
    show Steps p.tables e below (T5.setTop (mkF m 34 #[.val (.ref a1), .val (.int (0 : Int32)), .val (.ref b5), .val (.int (0 : Int32))] [(.int (0 : Int32)), (.ref b5)])) _
    refine XS.aloadN X5.here hx rfl (hb hby own_d_prog_142_method_4_34) rfl rfl ?_
    show Steps p.tables e below (T5.setTop (mkF m 35 #[.val (.ref a1), .val (.int (0 : Int32)), .val (.ref b5), .val (.int (0 : Int32))] [(.ref a1), (.int (0 : Int32)), (.ref b5)])) _
    refine XS.iloadN X5.here hx rfl (hb hby own_d_prog_142_method_4_35) rfl ?_
    show Steps p.tables e below (T5.setTop (mkF m 36 #[.val (.ref a1), .val (.int (0 : Int32)), .val (.ref b5), .val (.int (0 : Int32))] [(.int (0 : Int32)), (.ref a1), (.int (0 : Int32)), (.ref b5)])) _
    refine XS.iloadN X5.here hx rfl (hb hby own_d_prog_142_method_4_36) rfl ?_
    show Steps p.tables e below (T5.setTop (mkF m 37 #[.val (.ref a1), .val (.int (0 : Int32)), .val (.ref b5), .val (.int (0 : Int32))] [(.int (0 : Int32)), (.int (0 : Int32)), (.ref a1), (.int (0 : Int32)), (.ref b5)])) _
    refine XS.iadd X5.here hx rfl (hb hby own_d_prog_142_method_4_37) rfl ?_
    show Steps p.tables e below (T5.setTop (mkF m 38 #[.val (.ref a1), .val (.int (0 : Int32)), .val (.ref b5), .val (.int (0 : Int32))] [(.int (0 : Int32)), (.ref a1), (.int (0 : Int32)), (.ref b5)])) _
    refine X5.iaload hx (j := (0 : Int32)) (v := (.int x0)) (by rw [e5]; exact Ar11.1) (State.isArrayOf_alike hZ.alike Ar11.2.1) Ar11.2.2 hin11 hat11 (g := (mkF m 38 #[.val (.ref a1), .val (.int (0 : Int32)), .val (.ref b5), .val (.int (0 : Int32))] [(.int (0 : Int32)), (.ref a1), (.int (0 : Int32)), (.ref b5)])) rfl rfl (hb hby own_d_prog_142_method_4_38) _ ?_
    show Steps p.tables e below (T5.setTop (mkF m 39 #[.val (.ref a1), .val (.int (0 : Int32)), .val (.ref b5), .val (.int (0 : Int32))] [(.int x0), (.int (0 : Int32)), (.ref b5)])) _
    refine XS.iconst X5.here hx rfl (hb hby own_d_prog_142_method_4_39) ?_
    show Steps p.tables e below (T5.setTop (mkF m 40 #[.val (.ref a1), .val (.int (0 : Int32)), .val (.ref b5), .val (.int (0 : Int32))] [(.int (1 : Int32)), (.int x0), (.int (0 : Int32)), (.ref b5)])) _
    refine XS.isub X5.here hx rfl (hb hby own_d_prog_142_method_4_40) rfl ?_
    show Steps p.tables e below (T5.setTop (mkF m 41 #[.val (.ref a1), .val (.int (0 : Int32)), .val (.ref b5), .val (.int (0 : Int32))] [(.int (x0 - (1 : Int32))), (.int (0 : Int32)), (.ref b5)])) _
    refine st13 _ ?_
    show Steps p.tables e below (T13.setTop (mkF m 42 #[.val (.ref a1), .val (.int (0 : Int32)), .val (.ref b5), .val (.int (0 : Int32))] [])) _
    refine XS.iinc X13.here hx rfl (hb hby own_d_prog_142_method_4_42) rfl (l' := #[.val (.ref a1), .val (.int (0 : Int32)), .val (.ref b5), .val (.int (1 : Int32))]) rfl ?_
    show Steps p.tables e below (T13.setTop (mkF m 45 #[.val (.ref a1), .val (.int (0 : Int32)), .val (.ref b5), .val (.int (1 : Int32))] [])) _
    refine XS.goto X13.here hx rfl (pc0 := 45) (pc' := 26) rfl (hb hby own_d_prog_142_method_4_45) (by decide) (by decide) ?_
    show Steps p.tables e below (T13.setTop (mkF m 26 #[.val (.ref a1), .val (.int (0 : Int32)), .val (.ref b5), .val (.int (1 : Int32))] [])) _
    refine XS.iloadN X13.here hx rfl (hb hby own_d_prog_142_method_4_26) rfl ?_
    show Steps p.tables e below (T13.setTop (mkF m 27 #[.val (.ref a1), .val (.int (0 : Int32)), .val (.ref b5), .val (.int (1 : Int32))] [(.int (1 : Int32))])) _
    refine XS.aloadN X13.here hx rfl (hb hby own_d_prog_142_method_4_27) rfl rfl ?_
    exact kt
  obtain ⟨cl22, Ar22, S22, -⟩ := id f20
  obtain ⟨cl23, Ar23, S23, -⟩ := id f20
  have pre24 : ∀ t, Steps p.tables e below (T13.setTop (mkF m 60 #[.val (.ref a1), .val (.int (0 : Int32)), .val (.ref b5), .val (.int (1 : Int32))] [(.ref b5)])) t → Steps p.tables e below (s₁.setTop (entryFrame m #[(.ref a1)] 4)) t := by
    intro t kt
    refine pre21 t ?_
    show Steps p.tables e below (T13.setTop (mkF m 28 #[.val (.ref a1), .val (.int (0 : Int32)), .val (.ref b5), .val (.int (1 : Int32))] [(.ref b5), (.int (1 : Int32))])) _
    refine X13.arraylength hx (by rw [e13]; exact Ar22.1) (State.isArrayOf_alike hZ.alike Ar22.2.1) (g := (mkF m 28 #[.val (.ref a1), .val (.int (0 : Int32)), .val (.ref b5), .val (.int (1 : Int32))] [(.ref b5), (.int (1 : Int32))])) rfl rfl (hb hby own_d_prog_142_method_4_28) _ ?_
    rw [own_len (z := (1 : Int32)) S22 rfl]
    show Steps p.tables e below (T13.setTop (mkF m 29 #[.val (.ref a1), .val (.int (0 : Int32)), .val (.ref b5), .val (.int (1 : Int32))] [(.int (1 : Int32)), (.int (1 : Int32))])) _
    refine XS.icmpYes X13.here hx rfl (pc0 := 29) (pc' := 48) rfl (hb hby own_d_prog_142_method_4_29) rfl (flt (by decide : ¬ ((1 : Int32) < (1 : Int32)))).2.1 (by decide) (by decide) ?_
    show Steps p.tables e below (T13.setTop (mkF m 48 #[.val (.ref a1), .val (.int (0 : Int32)), .val (.ref b5), .val (.int (1 : Int32))] [])) _
    refine XS.aloadN X13.here hx rfl (hb hby own_d_prog_142_method_4_48) rfl rfl ?_
    show Steps p.tables e below (T13.setTop (mkF m 49 #[.val (.ref a1), .val (.int (0 : Int32)), .val (.ref b5), .val (.int (1 : Int32))] [(.ref b5)])) _
    refine X13.arraylength hx (by rw [e13]; exact Ar23.1) (State.isArrayOf_alike hZ.alike Ar23.2.1) (g := (mkF m 49 #[.val (.ref a1), .val (.int (0 : Int32)), .val (.ref b5), .val (.int (1 : Int32))] [(.ref b5)])) rfl rfl (hb hby own_d_prog_142_method_4_49) _ ?_
    rw [own_len (z := (1 : Int32)) S23 rfl]
    show Steps p.tables e below (T13.setTop (mkF m 50 #[.val (.ref a1), .val (.int (0 : Int32)), .val (.ref b5), .val (.int (1 : Int32))] [(.int (1 : Int32))])) _
    refine XS.ifYes X13.here hx rfl (pc0 := 50) (pc' := 59) rfl (hb hby own_d_prog_142_method_4_50) rfl ((if0 _ _).trans (feq (by decide : ¬ ((1 : Int32) = (0 : Int32)))).2) (by decide) (by decide) ?_
    show Steps p.tables e below (T13.setTop (mkF m 59 #[.val (.ref a1), .val (.int (0 : Int32)), .val (.ref b5), .val (.int (1 : Int32))] [])) _
    refine XS.aloadN X13.here hx rfl (hb hby own_d_prog_142_method_4_59) rfl rfl ?_
    exact kt
  obtain ⟨fs, hr, hrun, hended, hW, hsame⟩ := X13.leave (v := some (.ref b5)) (fun h => by rw [Bd.returns] at h; cases h)
  refine ⟨_, _, pre24 _ ?_, hrun, hended, _, _, rfl, ?_, ⟨_, rfl⟩, hW, hsame.mono (by decide) (by decide)⟩
  · show Steps p.tables e below (T13.setTop (mkF m 60 #[.val (.ref a1), .val (.int (0 : Int32)), .val (.ref b5), .val (.int (1 : Int32))] [(.ref b5)])) _
    jvm_step X13.here [X13.here.top, hx, (hb hby own_d_prog_142_method_4_60), X13.method', Bd.returns, Value.isRef, FieldType.isReference]
    first | (intro acts; rw [hr _ acts rfl rfl rfl]) | rw [hr _ _ rfl rfl rfl]
    exact Steps.refl _
  · show own_Q_oh1n Z a1 x0 h0 n0 (some (.ref b5)) T13.heap _
    rw [e13]
    exact ⟨_, rfl, nf18, k17, sz_b5, f20⟩
theorem own_ef_oh1z (m : MethodId) (a1 : Addr) : entryFrame m #[(.ref a1)] 4 = mkF m 0 #[.val (.ref a1), .unset, .unset, .unset] [] := by first | (simp [entryFrame, mkF, argsToLocals, Value.category]; done) | rfl
def own_Q_oh1z (Z : State) (a1 : Addr) (x0 : Int32) (aS : Addr) (h0 : Heap) (n0 : Nat) (v : Option Value) (h : Heap) (L : List Loc) : Prop := v = some (.ref aS) ∧ Fr n0 L ∧ Keep h0 h []
set_option maxRecDepth 65536 in
set_option maxHeartbeats 40000000 in
theorem own_rm_oh1z (l : Launch) (Z : State) (a0 : Array Value) (hw : ∀ d ∈ tables_1, d.before a0 Z = true) (ws : List Jvm.Cond) (a1 : Addr) (x0 : Int32) (aS : Addr) (h0 : Heap) (n0 : Nat) (Z0 : n0 ≤ h0.size) (A1 : own_A Z h0 a1 1 (own_v1 x0)) (hz : x0 = (0 : Int32)) (S0 : Sta Z h0 "com/example/unfold/unfold/semantics/GateSets" "EMPTY" "[I" (.ref aS)) :
    MetFree l (⟨"com/example/unfold/unfold/semantics/GateSets", "outsideHide", "([I)[I"⟩ : MethodName) (head1 (Jvm.Cond.code (⟨"com/example/unfold/unfold/semantics/GateSets", "outsideHide", "([I)[I"⟩ : MethodName) prog_142_method_4_code 4 (some (.array .int)) :: ws) ({ frames := 0, cells := 1, slots := 0, locals := 0 } : Room)) (fun a U => a = #[(.ref a1)] ∧ Z.Warmed39 U.vm ∧ U.heap = h0) (fun _ _ _ _ _ => True) (fun _ U o U' => ∃ v L, o = .returned v ∧ own_Q_oh1z Z a1 x0 aS h0 n0 v U'.heap L ∧ FrameEnd U o U' L ({ frames := 0, cells := 1, slots := 0, locals := 0 } : Room).cells ({ frames := 0, cells := 1, slots := 0, locals := 0 } : Room).slots) := by
  refine MetFree.of_bodySF (plainFor_of_name own_pn0) hisR ?_
  intro p e s m args below meth c s₁ Bd hml0 hP hK
  obtain ⟨rfl, hZ, hh⟩ := hP
  have hx := Bd.exec
  have hby := Bd.bytes
  have hml : c.maxLocals = 4 := hml0
  have hown : s.vm.findClass "com/example/unfold/unfold/semantics/GateSets" = some m.cls := findClass_of_methodNamed Bd.named
  have hnm := (name_of_methodNamed Bd.named Bd.method).1
  have X0 : Stand p l e ({ frames := 0, cells := 1, slots := 0, locals := 0 } : Room) s m #[(.ref a1)] below meth c s₁ [] 0 0 := Stand.of_body Bd
  have e0 : s₁.heap = h0 := by rw [← hh, Bd.state]; rfl
  have N0 := Fr.nil n0
  have K0 : Keep h0 h0 [] := Keep.refl _ _
  have pre0 : ∀ t, Steps p.tables e below (s₁.setTop (mkF m 0 #[.val (.ref a1), .unset, .unset, .unset] [])) t → Steps p.tables e below (s₁.setTop (entryFrame m #[(.ref a1)] 4)) t := fun t k => castTop (own_ef_oh1z m a1) k
  obtain ⟨cl1, Ar1, S1, -⟩ := id A1
  obtain ⟨cl2, Ar2, S2, H2⟩ := id A1
  have hin2 : ¬ ((0 : Int32) < 0 ∨ cl2.slots.size ≤ ((0 : Int32)).toNatClampNeg) := own_inb S2 (by decide) (by decide)
  have hat2 : cl2.slots[((0 : Int32)).toNatClampNeg]? = some (.int x0) := H2 _ (by decide)
  obtain ⟨cl3, Ar3, S3, -⟩ := id A1
  have pre4 : ∀ t, Steps p.tables e below (s₁.setTop (mkF m 19 #[.val (.ref a1), .val (.int (1 : Int32)), .unset, .unset] [(.int (1 : Int32))])) t → Steps p.tables e below (s₁.setTop (entryFrame m #[(.ref a1)] 4)) t := by
    intro t kt
    refine pre0 t ?_
    show Steps p.tables e below (s₁.setTop (mkF m 0 #[.val (.ref a1), .unset, .unset, .unset] [])) _
    refine XS.aloadN X0.here hx rfl (hb hby own_d_prog_142_method_4_0) rfl rfl ?_
    show Steps p.tables e below (s₁.setTop (mkF m 1 #[.val (.ref a1), .unset, .unset, .unset] [(.ref a1)])) _
    refine X0.arraylength hx (by rw [e0]; exact Ar1.1) (State.isArrayOf_alike hZ.alike Ar1.2.1) (g := (mkF m 1 #[.val (.ref a1), .unset, .unset, .unset] [(.ref a1)])) rfl rfl (hb hby own_d_prog_142_method_4_1) _ ?_
    rw [own_len (z := (1 : Int32)) S1 rfl]
    show Steps p.tables e below (s₁.setTop (mkF m 2 #[.val (.ref a1), .unset, .unset, .unset] [(.int (1 : Int32))])) _
    refine XS.ifNo X0.here hx rfl (hb hby own_d_prog_142_method_4_2) rfl ((if0 _ _).trans (tlt (by decide : (0 : Int32) < (1 : Int32))).2.2.2) ?_
    show Steps p.tables e below (s₁.setTop (mkF m 5 #[.val (.ref a1), .unset, .unset, .unset] [])) _
    refine XS.aloadN X0.here hx rfl (hb hby own_d_prog_142_method_4_5) rfl rfl ?_
    show Steps p.tables e below (s₁.setTop (mkF m 6 #[.val (.ref a1), .unset, .unset, .unset] [(.ref a1)])) _
    refine XS.iconst X0.here hx rfl (hb hby own_d_prog_142_method_4_6) ?_
    show Steps p.tables e below (s₁.setTop (mkF m 7 #[.val (.ref a1), .unset, .unset, .unset] [(.int (0 : Int32)), (.ref a1)])) _
    refine X0.iaload hx (j := (0 : Int32)) (v := (.int x0)) (by rw [e0]; exact Ar2.1) (State.isArrayOf_alike hZ.alike Ar2.2.1) Ar2.2.2 hin2 hat2 (g := (mkF m 7 #[.val (.ref a1), .unset, .unset, .unset] [(.int (0 : Int32)), (.ref a1)])) rfl rfl (hb hby own_d_prog_142_method_4_7) _ ?_
    show Steps p.tables e below (s₁.setTop (mkF m 8 #[.val (.ref a1), .unset, .unset, .unset] [(.int x0)])) _
    refine XS.ifNo X0.here hx rfl (hb hby own_d_prog_142_method_4_8) rfl ((if0 _ _).trans (teq hz).2) ?_
    show Steps p.tables e below (s₁.setTop (mkF m 11 #[.val (.ref a1), .unset, .unset, .unset] [])) _
    refine XS.iconst X0.here hx rfl (hb hby own_d_prog_142_method_4_11) ?_
    show Steps p.tables e below (s₁.setTop (mkF m 12 #[.val (.ref a1), .unset, .unset, .unset] [(.int (1 : Int32))])) _
    refine XS.goto X0.here hx rfl (pc0 := 12) (pc' := 16) rfl (hb hby own_d_prog_142_method_4_12) (by decide) (by decide) ?_
    show Steps p.tables e below (s₁.setTop (mkF m 16 #[.val (.ref a1), .unset, .unset, .unset] [(.int (1 : Int32))])) _
    refine XS.istoreN X0.here hx rfl (hb hby own_d_prog_142_method_4_16) rfl (l' := #[.val (.ref a1), .val (.int (1 : Int32)), .unset, .unset]) rfl ?_
    show Steps p.tables e below (s₁.setTop (mkF m 17 #[.val (.ref a1), .val (.int (1 : Int32)), .unset, .unset] [])) _
    refine XS.aloadN X0.here hx rfl (hb hby own_d_prog_142_method_4_17) rfl rfl ?_
    show Steps p.tables e below (s₁.setTop (mkF m 18 #[.val (.ref a1), .val (.int (1 : Int32)), .unset, .unset] [(.ref a1)])) _
    refine X0.arraylength hx (by rw [e0]; exact Ar3.1) (State.isArrayOf_alike hZ.alike Ar3.2.1) (g := (mkF m 18 #[.val (.ref a1), .val (.int (1 : Int32)), .unset, .unset] [(.ref a1)])) rfl rfl (hb hby own_d_prog_142_method_4_18) _ ?_
    rw [own_len (z := (1 : Int32)) S3 rfl]
    exact kt
  obtain ⟨T5, h5, k5, X5, e5, E5, A5, I5, st5⟩ := newPE X0 hx hZ (hw _ (List.mem_of_getElem? (i := 2) rfl)) e0 (g := (mkF m 21 #[.val (.ref a1), .val (.int (1 : Int32)), .unset, .unset] [(.int (0 : Int32))])) rfl (hb hby own_d_prog_142_method_4_21) rfl (by decide) (cap := 0) (by decide) (by decide) (by decide) (by decide) (ad := "[I") rfl
  obtain ⟨b5, g5⟩ : ∃ z, z = h0.size := ⟨_, rfl⟩
  rw [← g5] at A5 I5 st5
  have sz_b5 : h0.size ≤ b5 := Nat.le_trans K0.1 (Nat.le_of_eq g5.symm)
  have gn_b5 : n0 ≤ b5 := Nat.le_trans Z0 sz_b5
  have ne_a1_b5 : a1 ≠ b5 := Nat.ne_of_lt (Nat.lt_of_lt_of_le A1.lt (Nat.le_of_eq g5.symm))
  have f6 := A1.ext E5
  have f7 := S0.ext E5
  have k8 := K0.ext E5
  have f9 : own_A Z h5 b5 0 own_v0 := (own_A.new A5 rfl).congr (fun j hj => by rcases j with j <;> first | rfl | (simp [own_upd]; done) | omega)
  obtain ⟨cl10, Ar10, S10, -⟩ := id f9
  obtain ⟨cl11, Ar11, S11, -⟩ := id f9
  have pre12 : ∀ t, Steps p.tables e below (T5.setTop (mkF m 50 #[.val (.ref a1), .val (.int (1 : Int32)), .val (.ref b5), .val (.int (0 : Int32))] [(.int (0 : Int32))])) t → Steps p.tables e below (s₁.setTop (entryFrame m #[(.ref a1)] 4)) t := by
    intro t kt
    refine pre4 t ?_
    show Steps p.tables e below (s₁.setTop (mkF m 19 #[.val (.ref a1), .val (.int (1 : Int32)), .unset, .unset] [(.int (1 : Int32))])) _
    refine XS.iloadN X0.here hx rfl (hb hby own_d_prog_142_method_4_19) rfl ?_
    show Steps p.tables e below (s₁.setTop (mkF m 20 #[.val (.ref a1), .val (.int (1 : Int32)), .unset, .unset] [(.int (1 : Int32)), (.int (1 : Int32))])) _
    refine XS.isub X0.here hx rfl (hb hby own_d_prog_142_method_4_20) rfl ?_
    show Steps p.tables e below (s₁.setTop (mkF m 21 #[.val (.ref a1), .val (.int (1 : Int32)), .unset, .unset] [(.int (0 : Int32))])) _
    refine st5 _ ?_
    show Steps p.tables e below (T5.setTop (mkF m 23 #[.val (.ref a1), .val (.int (1 : Int32)), .unset, .unset] [(.ref b5)])) _
    refine XS.astoreN X5.here hx rfl (hb hby own_d_prog_142_method_4_23) rfl rfl (l' := #[.val (.ref a1), .val (.int (1 : Int32)), .val (.ref b5), .unset]) rfl ?_
    show Steps p.tables e below (T5.setTop (mkF m 24 #[.val (.ref a1), .val (.int (1 : Int32)), .val (.ref b5), .unset] [])) _
    refine XS.iconst X5.here hx rfl (hb hby own_d_prog_142_method_4_24) ?_
    show Steps p.tables e below (T5.setTop (mkF m 25 #[.val (.ref a1), .val (.int (1 : Int32)), .val (.ref b5), .unset] [(.int (0 : Int32))])) _
    refine XS.istoreN X5.here hx rfl (hb hby own_d_prog_142_method_4_25) rfl (l' := #[.val (.ref a1), .val (.int (1 : Int32)), .val (.ref b5), .val (.int (0 : Int32))]) rfl ?_
    show Steps p.tables e below (T5.setTop (mkF m 26 #[.val (.ref a1), .val (.int (1 : Int32)), .val (.ref b5), .val (.int (0 : Int32))] [])) _
    refine XS.iloadN X5.here hx rfl (hb hby own_d_prog_142_method_4_26) rfl ?_
    show Steps p.tables e below (T5.setTop (mkF m 27 #[.val (.ref a1), .val (.int (1 : Int32)), .val (.ref b5), .val (.int (0 : Int32))] [(.int (0 : Int32))])) _
    refine XS.aloadN X5.here hx rfl (hb hby own_d_prog_142_method_4_27) rfl rfl ?_
    show Steps p.tables e below (T5.setTop (mkF m 28 #[.val (.ref a1), .val (.int (1 : Int32)), .val (.ref b5), .val (.int (0 : Int32))] [(.ref b5), (.int (0 : Int32))])) _
    refine X5.arraylength hx (by rw [e5]; exact Ar10.1) (State.isArrayOf_alike hZ.alike Ar10.2.1) (g := (mkF m 28 #[.val (.ref a1), .val (.int (1 : Int32)), .val (.ref b5), .val (.int (0 : Int32))] [(.ref b5), (.int (0 : Int32))])) rfl rfl (hb hby own_d_prog_142_method_4_28) _ ?_
    rw [own_len (z := (0 : Int32)) S10 rfl]
    show Steps p.tables e below (T5.setTop (mkF m 29 #[.val (.ref a1), .val (.int (1 : Int32)), .val (.ref b5), .val (.int (0 : Int32))] [(.int (0 : Int32)), (.int (0 : Int32))])) _
    refine XS.icmpYes X5.here hx rfl (pc0 := 29) (pc' := 48) rfl (hb hby own_d_prog_142_method_4_29) rfl (flt (by decide : ¬ ((0 : Int32) < (0 : Int32)))).2.1 (by decide) (by decide) ?_
    show Steps p.tables e below (T5.setTop (mkF m 48 #[.val (.ref a1), .val (.int (1 : Int32)), .val (.ref b5), .val (.int (0 : Int32))] [])) _
    refine XS.aloadN X5.here hx rfl (hb hby own_d_prog_142_method_4_48) rfl rfl ?_
    show Steps p.tables e below (T5.setTop (mkF m 49 #[.val (.ref a1), .val (.int (1 : Int32)), .val (.ref b5), .val (.int (0 : Int32))] [(.ref b5)])) _
    refine X5.arraylength hx (by rw [e5]; exact Ar11.1) (State.isArrayOf_alike hZ.alike Ar11.2.1) (g := (mkF m 49 #[.val (.ref a1), .val (.int (1 : Int32)), .val (.ref b5), .val (.int (0 : Int32))] [(.ref b5)])) rfl rfl (hb hby own_d_prog_142_method_4_49) _ ?_
    rw [own_len (z := (0 : Int32)) S11 rfl]
    exact kt
  obtain ⟨T13, X13, e13, st13⟩ := getS2 X5 hx hZ hown (host := "") (Or.inl (hw _ (List.mem_of_getElem? (i := 7) rfl))) Via.refl e5 f7 (g := (mkF m 53 #[.val (.ref a1), .val (.int (1 : Int32)), .val (.ref b5), .val (.int (0 : Int32))] [])) rfl (hb hby own_d_prog_142_method_4_53)
  have pre14 : ∀ t, Steps p.tables e below (T13.setTop (mkF m 60 #[.val (.ref a1), .val (.int (1 : Int32)), .val (.ref b5), .val (.int (0 : Int32))] [(.ref aS)])) t → Steps p.tables e below (s₁.setTop (entryFrame m #[(.ref a1)] 4)) t := by
    intro t kt
    refine pre12 t ?_
    show Steps p.tables e below (T5.setTop (mkF m 50 #[.val (.ref a1), .val (.int (1 : Int32)), .val (.ref b5), .val (.int (0 : Int32))] [(.int (0 : Int32))])) _
    refine XS.ifNo X5.here hx rfl (hb hby own_d_prog_142_method_4_50) rfl ((if0 _ _).trans (teq (rfl : (0 : Int32) = (0 : Int32))).2) ?_
    show Steps p.tables e below (T5.setTop (mkF m 53 #[.val (.ref a1), .val (.int (1 : Int32)), .val (.ref b5), .val (.int (0 : Int32))] [])) _
    refine st13 _ ?_
    show Steps p.tables e below (T13.setTop (mkF m 56 #[.val (.ref a1), .val (.int (1 : Int32)), .val (.ref b5), .val (.int (0 : Int32))] [(.ref aS)])) _
    refine XS.goto X13.here hx rfl (pc0 := 56) (pc' := 60) rfl (hb hby own_d_prog_142_method_4_56) (by decide) (by decide) ?_
    exact kt
  obtain ⟨fs, hr, hrun, hended, hW, hsame⟩ := X13.leave (v := some (.ref aS)) (fun h => by rw [Bd.returns] at h; cases h)
  refine ⟨_, _, pre14 _ ?_, hrun, hended, _, _, rfl, ?_, ⟨_, rfl⟩, hW, hsame.mono (by decide) (by decide)⟩
  · show Steps p.tables e below (T13.setTop (mkF m 60 #[.val (.ref a1), .val (.int (1 : Int32)), .val (.ref b5), .val (.int (0 : Int32))] [(.ref aS)])) _
    jvm_step X13.here [X13.here.top, hx, (hb hby own_d_prog_142_method_4_60), X13.method', Bd.returns, Value.isRef, FieldType.isReference]
    first | (intro acts; rw [hr _ acts rfl rfl rfl]) | rw [hr _ _ rfl rfl rfl]
    exact Steps.refl _
  · show own_Q_oh1z Z a1 x0 aS h0 n0 (some (.ref aS)) T13.heap _
    rw [e13]
    exact ⟨rfl, N0, k8⟩
theorem own_ef_oh2n (m : MethodId) (a1 : Addr) : entryFrame m #[(.ref a1)] 4 = mkF m 0 #[.val (.ref a1), .unset, .unset, .unset] [] := by first | (simp [entryFrame, mkF, argsToLocals, Value.category]; done) | rfl
def own_Q_oh2n (Z : State) (a1 : Addr) (x0 : Int32) (x1 : Int32) (h0 : Heap) (n0 : Nat) (v : Option Value) (h : Heap) (L : List Loc) : Prop := ∃ r : Addr, v = some (.ref r) ∧ Fr n0 L ∧ Keep h0 h [] ∧ h0.size ≤ r ∧ own_A Z h r 2 (own_v2 (x0 - (1 : Int32)) (x1 - (1 : Int32)))
set_option maxRecDepth 65536 in
set_option maxHeartbeats 40000000 in
theorem own_rm_oh2n (l : Launch) (Z : State) (a0 : Array Value) (hw : ∀ d ∈ tables_1, d.before a0 Z = true) (ws : List Jvm.Cond) (a1 : Addr) (x0 : Int32) (x1 : Int32) (h0 : Heap) (n0 : Nat) (Z0 : n0 ≤ h0.size) (A1 : own_A Z h0 a1 2 (own_v2 x0 x1)) (hz : ¬ x0 = (0 : Int32)) :
    MetFree l (⟨"com/example/unfold/unfold/semantics/GateSets", "outsideHide", "([I)[I"⟩ : MethodName) (head1 (Jvm.Cond.code (⟨"com/example/unfold/unfold/semantics/GateSets", "outsideHide", "([I)[I"⟩ : MethodName) prog_142_method_4_code 4 (some (.array .int)) :: ws) ({ frames := 0, cells := 1, slots := 2, locals := 0 } : Room)) (fun a U => a = #[(.ref a1)] ∧ Z.Warmed39 U.vm ∧ U.heap = h0) (fun _ _ _ _ _ => True) (fun _ U o U' => ∃ v L, o = .returned v ∧ own_Q_oh2n Z a1 x0 x1 h0 n0 v U'.heap L ∧ FrameEnd U o U' L ({ frames := 0, cells := 1, slots := 2, locals := 0 } : Room).cells ({ frames := 0, cells := 1, slots := 2, locals := 0 } : Room).slots) := by
  refine MetFree.of_bodySF (plainFor_of_name own_pn0) hisR ?_
  intro p e s m args below meth c s₁ Bd hml0 hP hK
  obtain ⟨rfl, hZ, hh⟩ := hP
  have hx := Bd.exec
  have hby := Bd.bytes
  have hml : c.maxLocals = 4 := hml0
  have hown : s.vm.findClass "com/example/unfold/unfold/semantics/GateSets" = some m.cls := findClass_of_methodNamed Bd.named
  have hnm := (name_of_methodNamed Bd.named Bd.method).1
  have X0 : Stand p l e ({ frames := 0, cells := 1, slots := 2, locals := 0 } : Room) s m #[(.ref a1)] below meth c s₁ [] 0 0 := Stand.of_body Bd
  have e0 : s₁.heap = h0 := by rw [← hh, Bd.state]; rfl
  have N0 := Fr.nil n0
  have K0 : Keep h0 h0 [] := Keep.refl _ _
  have pre0 : ∀ t, Steps p.tables e below (s₁.setTop (mkF m 0 #[.val (.ref a1), .unset, .unset, .unset] [])) t → Steps p.tables e below (s₁.setTop (entryFrame m #[(.ref a1)] 4)) t := fun t k => castTop (own_ef_oh2n m a1) k
  obtain ⟨cl1, Ar1, S1, -⟩ := id A1
  obtain ⟨cl2, Ar2, S2, H2⟩ := id A1
  have hin2 : ¬ ((0 : Int32) < 0 ∨ cl2.slots.size ≤ ((0 : Int32)).toNatClampNeg) := own_inb S2 (by decide) (by decide)
  have hat2 : cl2.slots[((0 : Int32)).toNatClampNeg]? = some (.int x0) := H2 _ (by decide)
  obtain ⟨cl3, Ar3, S3, -⟩ := id A1
  have pre4 : ∀ t, Steps p.tables e below (s₁.setTop (mkF m 19 #[.val (.ref a1), .val (.int (0 : Int32)), .unset, .unset] [(.int (2 : Int32))])) t → Steps p.tables e below (s₁.setTop (entryFrame m #[(.ref a1)] 4)) t := by
    intro t kt
    refine pre0 t ?_
    show Steps p.tables e below (s₁.setTop (mkF m 0 #[.val (.ref a1), .unset, .unset, .unset] [])) _
    refine XS.aloadN X0.here hx rfl (hb hby own_d_prog_142_method_4_0) rfl rfl ?_
    show Steps p.tables e below (s₁.setTop (mkF m 1 #[.val (.ref a1), .unset, .unset, .unset] [(.ref a1)])) _
    refine X0.arraylength hx (by rw [e0]; exact Ar1.1) (State.isArrayOf_alike hZ.alike Ar1.2.1) (g := (mkF m 1 #[.val (.ref a1), .unset, .unset, .unset] [(.ref a1)])) rfl rfl (hb hby own_d_prog_142_method_4_1) _ ?_
    rw [own_len (z := (2 : Int32)) S1 rfl]
    show Steps p.tables e below (s₁.setTop (mkF m 2 #[.val (.ref a1), .unset, .unset, .unset] [(.int (2 : Int32))])) _
    refine XS.ifNo X0.here hx rfl (hb hby own_d_prog_142_method_4_2) rfl ((if0 _ _).trans (tlt (by decide : (0 : Int32) < (2 : Int32))).2.2.2) ?_
    show Steps p.tables e below (s₁.setTop (mkF m 5 #[.val (.ref a1), .unset, .unset, .unset] [])) _
    refine XS.aloadN X0.here hx rfl (hb hby own_d_prog_142_method_4_5) rfl rfl ?_
    show Steps p.tables e below (s₁.setTop (mkF m 6 #[.val (.ref a1), .unset, .unset, .unset] [(.ref a1)])) _
    refine XS.iconst X0.here hx rfl (hb hby own_d_prog_142_method_4_6) ?_
    show Steps p.tables e below (s₁.setTop (mkF m 7 #[.val (.ref a1), .unset, .unset, .unset] [(.int (0 : Int32)), (.ref a1)])) _
    refine X0.iaload hx (j := (0 : Int32)) (v := (.int x0)) (by rw [e0]; exact Ar2.1) (State.isArrayOf_alike hZ.alike Ar2.2.1) Ar2.2.2 hin2 hat2 (g := (mkF m 7 #[.val (.ref a1), .unset, .unset, .unset] [(.int (0 : Int32)), (.ref a1)])) rfl rfl (hb hby own_d_prog_142_method_4_7) _ ?_
    show Steps p.tables e below (s₁.setTop (mkF m 8 #[.val (.ref a1), .unset, .unset, .unset] [(.int x0)])) _
    refine XS.ifYes X0.here hx rfl (pc0 := 8) (pc' := 15) rfl (hb hby own_d_prog_142_method_4_8) rfl ((if0 _ _).trans (feq hz).2) (by decide) (by decide) ?_
    show Steps p.tables e below (s₁.setTop (mkF m 15 #[.val (.ref a1), .unset, .unset, .unset] [])) _
    refine XS.iconst X0.here hx rfl (hb hby own_d_prog_142_method_4_15) ?_
    show Steps p.tables e below (s₁.setTop (mkF m 16 #[.val (.ref a1), .unset, .unset, .unset] [(.int (0 : Int32))])) _
    refine XS.istoreN X0.here hx rfl (hb hby own_d_prog_142_method_4_16) rfl (l' := #[.val (.ref a1), .val (.int (0 : Int32)), .unset, .unset]) rfl ?_
    show Steps p.tables e below (s₁.setTop (mkF m 17 #[.val (.ref a1), .val (.int (0 : Int32)), .unset, .unset] [])) _
    refine XS.aloadN X0.here hx rfl (hb hby own_d_prog_142_method_4_17) rfl rfl ?_
    show Steps p.tables e below (s₁.setTop (mkF m 18 #[.val (.ref a1), .val (.int (0 : Int32)), .unset, .unset] [(.ref a1)])) _
    refine X0.arraylength hx (by rw [e0]; exact Ar3.1) (State.isArrayOf_alike hZ.alike Ar3.2.1) (g := (mkF m 18 #[.val (.ref a1), .val (.int (0 : Int32)), .unset, .unset] [(.ref a1)])) rfl rfl (hb hby own_d_prog_142_method_4_18) _ ?_
    rw [own_len (z := (2 : Int32)) S3 rfl]
    exact kt
  obtain ⟨T5, h5, k5, X5, e5, E5, A5, I5, st5⟩ := newPE X0 hx hZ (hw _ (List.mem_of_getElem? (i := 2) rfl)) e0 (g := (mkF m 21 #[.val (.ref a1), .val (.int (0 : Int32)), .unset, .unset] [(.int (2 : Int32))])) rfl (hb hby own_d_prog_142_method_4_21) rfl (by decide) (cap := 2) (by decide) (by decide) (by decide) (by decide) (ad := "[I") rfl
  obtain ⟨b5, g5⟩ : ∃ z, z = h0.size := ⟨_, rfl⟩
  rw [← g5] at A5 I5 st5
  have sz_b5 : h0.size ≤ b5 := Nat.le_trans K0.1 (Nat.le_of_eq g5.symm)
  have gn_b5 : n0 ≤ b5 := Nat.le_trans Z0 sz_b5
  have ne_a1_b5 : a1 ≠ b5 := Nat.ne_of_lt (Nat.lt_of_lt_of_le A1.lt (Nat.le_of_eq g5.symm))
  have f6 := A1.ext E5
  have k7 := K0.ext E5
  have f8 : own_A Z h5 b5 2 (own_v2 (0 : Int32) (0 : Int32)) := (own_A.new A5 rfl).congr (fun j hj => by rcases j with _ | _ | j <;> first | rfl | (simp [own_upd]; done) | omega)
  obtain ⟨cl9, Ar9, S9, -⟩ := id f8
  have pre10 : ∀ t, Steps p.tables e below (T5.setTop (mkF m 34 #[.val (.ref a1), .val (.int (0 : Int32)), .val (.ref b5), .val (.int (0 : Int32))] [(.int (0 : Int32)), (.ref b5)])) t → Steps p.tables e below (s₁.setTop (entryFrame m #[(.ref a1)] 4)) t := by
    intro t kt
    refine pre4 t ?_
    show Steps p.tables e below (s₁.setTop (mkF m 19 #[.val (.ref a1), .val (.int (0 : Int32)), .unset, .unset] [(.int (2 : Int32))])) _
    refine XS.iloadN X0.here hx rfl (hb hby own_d_prog_142_method_4_19) rfl ?_
    show Steps p.tables e below (s₁.setTop (mkF m 20 #[.val (.ref a1), .val (.int (0 : Int32)), .unset, .unset] [(.int (0 : Int32)), (.int (2 : Int32))])) _
    refine XS.isub X0.here hx rfl (hb hby own_d_prog_142_method_4_20) rfl ?_
    show Steps p.tables e below (s₁.setTop (mkF m 21 #[.val (.ref a1), .val (.int (0 : Int32)), .unset, .unset] [(.int (2 : Int32))])) _
    refine st5 _ ?_
    show Steps p.tables e below (T5.setTop (mkF m 23 #[.val (.ref a1), .val (.int (0 : Int32)), .unset, .unset] [(.ref b5)])) _
    refine XS.astoreN X5.here hx rfl (hb hby own_d_prog_142_method_4_23) rfl rfl (l' := #[.val (.ref a1), .val (.int (0 : Int32)), .val (.ref b5), .unset]) rfl ?_
    show Steps p.tables e below (T5.setTop (mkF m 24 #[.val (.ref a1), .val (.int (0 : Int32)), .val (.ref b5), .unset] [])) _
    refine XS.iconst X5.here hx rfl (hb hby own_d_prog_142_method_4_24) ?_
    show Steps p.tables e below (T5.setTop (mkF m 25 #[.val (.ref a1), .val (.int (0 : Int32)), .val (.ref b5), .unset] [(.int (0 : Int32))])) _
    refine XS.istoreN X5.here hx rfl (hb hby own_d_prog_142_method_4_25) rfl (l' := #[.val (.ref a1), .val (.int (0 : Int32)), .val (.ref b5), .val (.int (0 : Int32))]) rfl ?_
    show Steps p.tables e below (T5.setTop (mkF m 26 #[.val (.ref a1), .val (.int (0 : Int32)), .val (.ref b5), .val (.int (0 : Int32))] [])) _
    refine XS.iloadN X5.here hx rfl (hb hby own_d_prog_142_method_4_26) rfl ?_
    show Steps p.tables e below (T5.setTop (mkF m 27 #[.val (.ref a1), .val (.int (0 : Int32)), .val (.ref b5), .val (.int (0 : Int32))] [(.int (0 : Int32))])) _
    refine XS.aloadN X5.here hx rfl (hb hby own_d_prog_142_method_4_27) rfl rfl ?_
    show Steps p.tables e below (T5.setTop (mkF m 28 #[.val (.ref a1), .val (.int (0 : Int32)), .val (.ref b5), .val (.int (0 : Int32))] [(.ref b5), (.int (0 : Int32))])) _
    refine X5.arraylength hx (by rw [e5]; exact Ar9.1) (State.isArrayOf_alike hZ.alike Ar9.2.1) (g := (mkF m 28 #[.val (.ref a1), .val (.int (0 : Int32)), .val (.ref b5), .val (.int (0 : Int32))] [(.ref b5), (.int (0 : Int32))])) rfl rfl (hb hby own_d_prog_142_method_4_28) _ ?_
    rw [own_len (z := (2 : Int32)) S9 rfl]
    show Steps p.tables e below (T5.setTop (mkF m 29 #[.val (.ref a1), .val (.int (0 : Int32)), .val (.ref b5), .val (.int (0 : Int32))] [(.int (2 : Int32)), (.int (0 : Int32))])) _
    refine XS.icmpNo X5.here hx rfl (hb hby own_d_prog_142_method_4_29) rfl (tlt (by decide : (0 : Int32) < (2 : Int32))).2.1 ?_
    show Steps p.tables e below (T5.setTop (mkF m 32 #[.val (.ref a1), .val (.int (0 : Int32)), .val (.ref b5), .val (.int (0 : Int32))] [])) _
    refine XS.aloadN X5.here hx rfl (hb hby own_d_prog_142_method_4_32) rfl rfl ?_
    show Steps p.tables e below (T5.setTop (mkF m 33 #[.val (.ref a1), .val (.int (0 : Int32)), .val (.ref b5), .val (.int (0 : Int32))] [(.ref b5)])) _
    refine XS.iloadN X5.here hx rfl (hb hby own_d_prog_142_method_4_33) rfl ?_
    exact kt
  obtain ⟨cl11, Ar11, S11, H11⟩ := id f6
  have hin11 : ¬ ((0 : Int32) < 0 ∨ cl11.slots.size ≤ ((0 : Int32)).toNatClampNeg) := own_inb S11 (by decide) (by decide)
  have hat11 : cl11.slots[((0 : Int32)).toNatClampNeg]? = some (.int x0) := H11 _ (by decide)
  obtain ⟨cl12, Ar12, S12, H12⟩ := id f8
  have hin12 : ¬ ((0 : Int32) < 0 ∨ cl12.slots.size ≤ ((0 : Int32)).toNatClampNeg) := own_inb S12 (by decide) (by decide)
  obtain ⟨T13, h13, X13, e13, W13, st13⟩ := stI X5 hx hZ e5 Ar12 (j := (0 : Int32)) hin12 (g := (mkF m 41 #[.val (.ref a1), .val (.int (0 : Int32)), .val (.ref b5), .val (.int (0 : Int32))] [(.int (x0 - (1 : Int32))), (.int (0 : Int32)), (.ref b5)])) rfl rfl (hb hby own_d_prog_142_method_4_41)
  have f14 := f6.other W13 ne_a1_b5
  have f15 := I5.wr W13
  have k17 := k7.wr W13 (Or.inr sz_b5)
  have nf18 := Fr.snoc X13 N0 gn_b5
  have f19 := f8.set W13
  have f20 : own_A Z h13 b5 2 (own_v2 (x0 - (1 : Int32)) (0 : Int32)) := f19.congr (fun j hj => by rcases j with _ | _ | j <;> first | rfl | (simp [own_upd]; done) | omega)
  have pre21 : ∀ t, Steps p.tables e below (T13.setTop (mkF m 28 #[.val (.ref a1), .val (.int (0 : Int32)), .val (.ref b5), .val (.int (1 : Int32))] [(.ref b5), (.int (1 : Int32))])) t → Steps p.tables e below (s₁.setTop (entryFrame m #[(.ref a1)] 4)) t := by
    intro t kt
    refine pre10 t ?_
    show Steps p.tables e below (T5.setTop (mkF m 34 #[.val (.ref a1), .val (.int (0 : Int32)), .val (.ref b5), .val (.int (0 : Int32))] [(.int (0 : Int32)), (.ref b5)])) _
    refine XS.aloadN X5.here hx rfl (hb hby own_d_prog_142_method_4_34) rfl rfl ?_
    show Steps p.tables e below (T5.setTop (mkF m 35 #[.val (.ref a1), .val (.int (0 : Int32)), .val (.ref b5), .val (.int (0 : Int32))] [(.ref a1), (.int (0 : Int32)), (.ref b5)])) _
    refine XS.iloadN X5.here hx rfl (hb hby own_d_prog_142_method_4_35) rfl ?_
    show Steps p.tables e below (T5.setTop (mkF m 36 #[.val (.ref a1), .val (.int (0 : Int32)), .val (.ref b5), .val (.int (0 : Int32))] [(.int (0 : Int32)), (.ref a1), (.int (0 : Int32)), (.ref b5)])) _
    refine XS.iloadN X5.here hx rfl (hb hby own_d_prog_142_method_4_36) rfl ?_
    show Steps p.tables e below (T5.setTop (mkF m 37 #[.val (.ref a1), .val (.int (0 : Int32)), .val (.ref b5), .val (.int (0 : Int32))] [(.int (0 : Int32)), (.int (0 : Int32)), (.ref a1), (.int (0 : Int32)), (.ref b5)])) _
    refine XS.iadd X5.here hx rfl (hb hby own_d_prog_142_method_4_37) rfl ?_
    show Steps p.tables e below (T5.setTop (mkF m 38 #[.val (.ref a1), .val (.int (0 : Int32)), .val (.ref b5), .val (.int (0 : Int32))] [(.int (0 : Int32)), (.ref a1), (.int (0 : Int32)), (.ref b5)])) _
    refine X5.iaload hx (j := (0 : Int32)) (v := (.int x0)) (by rw [e5]; exact Ar11.1) (State.isArrayOf_alike hZ.alike Ar11.2.1) Ar11.2.2 hin11 hat11 (g := (mkF m 38 #[.val (.ref a1), .val (.int (0 : Int32)), .val (.ref b5), .val (.int (0 : Int32))] [(.int (0 : Int32)), (.ref a1), (.int (0 : Int32)), (.ref b5)])) rfl rfl (hb hby own_d_prog_142_method_4_38) _ ?_
    show Steps p.tables e below (T5.setTop (mkF m 39 #[.val (.ref a1), .val (.int (0 : Int32)), .val (.ref b5), .val (.int (0 : Int32))] [(.int x0), (.int (0 : Int32)), (.ref b5)])) _
    refine XS.iconst X5.here hx rfl (hb hby own_d_prog_142_method_4_39) ?_
    show Steps p.tables e below (T5.setTop (mkF m 40 #[.val (.ref a1), .val (.int (0 : Int32)), .val (.ref b5), .val (.int (0 : Int32))] [(.int (1 : Int32)), (.int x0), (.int (0 : Int32)), (.ref b5)])) _
    refine XS.isub X5.here hx rfl (hb hby own_d_prog_142_method_4_40) rfl ?_
    show Steps p.tables e below (T5.setTop (mkF m 41 #[.val (.ref a1), .val (.int (0 : Int32)), .val (.ref b5), .val (.int (0 : Int32))] [(.int (x0 - (1 : Int32))), (.int (0 : Int32)), (.ref b5)])) _
    refine st13 _ ?_
    show Steps p.tables e below (T13.setTop (mkF m 42 #[.val (.ref a1), .val (.int (0 : Int32)), .val (.ref b5), .val (.int (0 : Int32))] [])) _
    refine XS.iinc X13.here hx rfl (hb hby own_d_prog_142_method_4_42) rfl (l' := #[.val (.ref a1), .val (.int (0 : Int32)), .val (.ref b5), .val (.int (1 : Int32))]) rfl ?_
    show Steps p.tables e below (T13.setTop (mkF m 45 #[.val (.ref a1), .val (.int (0 : Int32)), .val (.ref b5), .val (.int (1 : Int32))] [])) _
    refine XS.goto X13.here hx rfl (pc0 := 45) (pc' := 26) rfl (hb hby own_d_prog_142_method_4_45) (by decide) (by decide) ?_
    show Steps p.tables e below (T13.setTop (mkF m 26 #[.val (.ref a1), .val (.int (0 : Int32)), .val (.ref b5), .val (.int (1 : Int32))] [])) _
    refine XS.iloadN X13.here hx rfl (hb hby own_d_prog_142_method_4_26) rfl ?_
    show Steps p.tables e below (T13.setTop (mkF m 27 #[.val (.ref a1), .val (.int (0 : Int32)), .val (.ref b5), .val (.int (1 : Int32))] [(.int (1 : Int32))])) _
    refine XS.aloadN X13.here hx rfl (hb hby own_d_prog_142_method_4_27) rfl rfl ?_
    exact kt
  obtain ⟨cl22, Ar22, S22, -⟩ := id f20
  obtain ⟨cl23, Ar23, S23, H23⟩ := id f14
  have hin23 : ¬ ((1 : Int32) < 0 ∨ cl23.slots.size ≤ ((1 : Int32)).toNatClampNeg) := own_inb S23 (by decide) (by decide)
  have hat23 : cl23.slots[((1 : Int32)).toNatClampNeg]? = some (.int x1) := H23 _ (by decide)
  obtain ⟨cl24, Ar24, S24, H24⟩ := id f20
  have hin24 : ¬ ((1 : Int32) < 0 ∨ cl24.slots.size ≤ ((1 : Int32)).toNatClampNeg) := own_inb S24 (by decide) (by decide)
  obtain ⟨T25, h25, X25, e25, W25, st25⟩ := stI X13 hx hZ e13 Ar24 (j := (1 : Int32)) hin24 (g := (mkF m 41 #[.val (.ref a1), .val (.int (0 : Int32)), .val (.ref b5), .val (.int (1 : Int32))] [(.int (x1 - (1 : Int32))), (.int (1 : Int32)), (.ref b5)])) rfl rfl (hb hby own_d_prog_142_method_4_41)
  have f26 := f14.other W25 ne_a1_b5
  have f27 := f15.wr W25
  have k29 := k17.wr W25 (Or.inr sz_b5)
  have nf30 := Fr.snoc X25 nf18 gn_b5
  have f31 := f20.set W25
  have f32 : own_A Z h25 b5 2 (own_v2 (x0 - (1 : Int32)) (x1 - (1 : Int32))) := f31.congr (fun j hj => by rcases j with _ | _ | j <;> first | rfl | (simp [own_upd]; done) | omega)
  have pre33 : ∀ t, Steps p.tables e below (T25.setTop (mkF m 42 #[.val (.ref a1), .val (.int (0 : Int32)), .val (.ref b5), .val (.int (1 : Int32))] [])) t → Steps p.tables e below (s₁.setTop (entryFrame m #[(.ref a1)] 4)) t := by
    intro t kt
    refine pre21 t ?_
    show Steps p.tables e below (T13.setTop (mkF m 28 #[.val (.ref a1), .val (.int (0 : Int32)), .val (.ref b5), .val (.int (1 : Int32))] [(.ref b5), (.int (1 : Int32))])) _
    refine X13.arraylength hx (by rw [e13]; exact Ar22.1) (State.isArrayOf_alike hZ.alike Ar22.2.1) (g := (mkF m 28 #[.val (.ref a1), .val (.int (0 : Int32)), .val (.ref b5), .val (.int (1 : Int32))] [(.ref b5), (.int (1 : Int32))])) rfl rfl (hb hby own_d_prog_142_method_4_28) _ ?_
    rw [own_len (z := (2 : Int32)) S22 rfl]
    show Steps p.tables e below (T13.setTop (mkF m 29 #[.val (.ref a1), .val (.int (0 : Int32)), .val (.ref b5), .val (.int (1 : Int32))] [(.int (2 : Int32)), (.int (1 : Int32))])) _
    refine XS.icmpNo X13.here hx rfl (hb hby own_d_prog_142_method_4_29) rfl (tlt (by decide : (1 : Int32) < (2 : Int32))).2.1 ?_
    show Steps p.tables e below (T13.setTop (mkF m 32 #[.val (.ref a1), .val (.int (0 : Int32)), .val (.ref b5), .val (.int (1 : Int32))] [])) _
    refine XS.aloadN X13.here hx rfl (hb hby own_d_prog_142_method_4_32) rfl rfl ?_
    show Steps p.tables e below (T13.setTop (mkF m 33 #[.val (.ref a1), .val (.int (0 : Int32)), .val (.ref b5), .val (.int (1 : Int32))] [(.ref b5)])) _
    refine XS.iloadN X13.here hx rfl (hb hby own_d_prog_142_method_4_33) rfl ?_
    show Steps p.tables e below (T13.setTop (mkF m 34 #[.val (.ref a1), .val (.int (0 : Int32)), .val (.ref b5), .val (.int (1 : Int32))] [(.int (1 : Int32)), (.ref b5)])) _
    refine XS.aloadN X13.here hx rfl (hb hby own_d_prog_142_method_4_34) rfl rfl ?_
    show Steps p.tables e below (T13.setTop (mkF m 35 #[.val (.ref a1), .val (.int (0 : Int32)), .val (.ref b5), .val (.int (1 : Int32))] [(.ref a1), (.int (1 : Int32)), (.ref b5)])) _
    refine XS.iloadN X13.here hx rfl (hb hby own_d_prog_142_method_4_35) rfl ?_
    show Steps p.tables e below (T13.setTop (mkF m 36 #[.val (.ref a1), .val (.int (0 : Int32)), .val (.ref b5), .val (.int (1 : Int32))] [(.int (0 : Int32)), (.ref a1), (.int (1 : Int32)), (.ref b5)])) _
    refine XS.iloadN X13.here hx rfl (hb hby own_d_prog_142_method_4_36) rfl ?_
    show Steps p.tables e below (T13.setTop (mkF m 37 #[.val (.ref a1), .val (.int (0 : Int32)), .val (.ref b5), .val (.int (1 : Int32))] [(.int (1 : Int32)), (.int (0 : Int32)), (.ref a1), (.int (1 : Int32)), (.ref b5)])) _
    refine XS.iadd X13.here hx rfl (hb hby own_d_prog_142_method_4_37) rfl ?_
    show Steps p.tables e below (T13.setTop (mkF m 38 #[.val (.ref a1), .val (.int (0 : Int32)), .val (.ref b5), .val (.int (1 : Int32))] [(.int (1 : Int32)), (.ref a1), (.int (1 : Int32)), (.ref b5)])) _
    refine X13.iaload hx (j := (1 : Int32)) (v := (.int x1)) (by rw [e13]; exact Ar23.1) (State.isArrayOf_alike hZ.alike Ar23.2.1) Ar23.2.2 hin23 hat23 (g := (mkF m 38 #[.val (.ref a1), .val (.int (0 : Int32)), .val (.ref b5), .val (.int (1 : Int32))] [(.int (1 : Int32)), (.ref a1), (.int (1 : Int32)), (.ref b5)])) rfl rfl (hb hby own_d_prog_142_method_4_38) _ ?_
    show Steps p.tables e below (T13.setTop (mkF m 39 #[.val (.ref a1), .val (.int (0 : Int32)), .val (.ref b5), .val (.int (1 : Int32))] [(.int x1), (.int (1 : Int32)), (.ref b5)])) _
    refine XS.iconst X13.here hx rfl (hb hby own_d_prog_142_method_4_39) ?_
    show Steps p.tables e below (T13.setTop (mkF m 40 #[.val (.ref a1), .val (.int (0 : Int32)), .val (.ref b5), .val (.int (1 : Int32))] [(.int (1 : Int32)), (.int x1), (.int (1 : Int32)), (.ref b5)])) _
    refine XS.isub X13.here hx rfl (hb hby own_d_prog_142_method_4_40) rfl ?_
    show Steps p.tables e below (T13.setTop (mkF m 41 #[.val (.ref a1), .val (.int (0 : Int32)), .val (.ref b5), .val (.int (1 : Int32))] [(.int (x1 - (1 : Int32))), (.int (1 : Int32)), (.ref b5)])) _
    refine st25 _ ?_
    exact kt
  obtain ⟨cl34, Ar34, S34, -⟩ := id f32
  obtain ⟨cl35, Ar35, S35, -⟩ := id f32
  have pre36 : ∀ t, Steps p.tables e below (T25.setTop (mkF m 60 #[.val (.ref a1), .val (.int (0 : Int32)), .val (.ref b5), .val (.int (2 : Int32))] [(.ref b5)])) t → Steps p.tables e below (s₁.setTop (entryFrame m #[(.ref a1)] 4)) t := by
    intro t kt
    refine pre33 t ?_
    show Steps p.tables e below (T25.setTop (mkF m 42 #[.val (.ref a1), .val (.int (0 : Int32)), .val (.ref b5), .val (.int (1 : Int32))] [])) _
    refine XS.iinc X25.here hx rfl (hb hby own_d_prog_142_method_4_42) rfl (l' := #[.val (.ref a1), .val (.int (0 : Int32)), .val (.ref b5), .val (.int (2 : Int32))]) rfl ?_
    show Steps p.tables e below (T25.setTop (mkF m 45 #[.val (.ref a1), .val (.int (0 : Int32)), .val (.ref b5), .val (.int (2 : Int32))] [])) _
    refine XS.goto X25.here hx rfl (pc0 := 45) (pc' := 26) rfl (hb hby own_d_prog_142_method_4_45) (by decide) (by decide) ?_
    show Steps p.tables e below (T25.setTop (mkF m 26 #[.val (.ref a1), .val (.int (0 : Int32)), .val (.ref b5), .val (.int (2 : Int32))] [])) _
    refine XS.iloadN X25.here hx rfl (hb hby own_d_prog_142_method_4_26) rfl ?_
    show Steps p.tables e below (T25.setTop (mkF m 27 #[.val (.ref a1), .val (.int (0 : Int32)), .val (.ref b5), .val (.int (2 : Int32))] [(.int (2 : Int32))])) _
    refine XS.aloadN X25.here hx rfl (hb hby own_d_prog_142_method_4_27) rfl rfl ?_
    show Steps p.tables e below (T25.setTop (mkF m 28 #[.val (.ref a1), .val (.int (0 : Int32)), .val (.ref b5), .val (.int (2 : Int32))] [(.ref b5), (.int (2 : Int32))])) _
    refine X25.arraylength hx (by rw [e25]; exact Ar34.1) (State.isArrayOf_alike hZ.alike Ar34.2.1) (g := (mkF m 28 #[.val (.ref a1), .val (.int (0 : Int32)), .val (.ref b5), .val (.int (2 : Int32))] [(.ref b5), (.int (2 : Int32))])) rfl rfl (hb hby own_d_prog_142_method_4_28) _ ?_
    rw [own_len (z := (2 : Int32)) S34 rfl]
    show Steps p.tables e below (T25.setTop (mkF m 29 #[.val (.ref a1), .val (.int (0 : Int32)), .val (.ref b5), .val (.int (2 : Int32))] [(.int (2 : Int32)), (.int (2 : Int32))])) _
    refine XS.icmpYes X25.here hx rfl (pc0 := 29) (pc' := 48) rfl (hb hby own_d_prog_142_method_4_29) rfl (flt (by decide : ¬ ((2 : Int32) < (2 : Int32)))).2.1 (by decide) (by decide) ?_
    show Steps p.tables e below (T25.setTop (mkF m 48 #[.val (.ref a1), .val (.int (0 : Int32)), .val (.ref b5), .val (.int (2 : Int32))] [])) _
    refine XS.aloadN X25.here hx rfl (hb hby own_d_prog_142_method_4_48) rfl rfl ?_
    show Steps p.tables e below (T25.setTop (mkF m 49 #[.val (.ref a1), .val (.int (0 : Int32)), .val (.ref b5), .val (.int (2 : Int32))] [(.ref b5)])) _
    refine X25.arraylength hx (by rw [e25]; exact Ar35.1) (State.isArrayOf_alike hZ.alike Ar35.2.1) (g := (mkF m 49 #[.val (.ref a1), .val (.int (0 : Int32)), .val (.ref b5), .val (.int (2 : Int32))] [(.ref b5)])) rfl rfl (hb hby own_d_prog_142_method_4_49) _ ?_
    rw [own_len (z := (2 : Int32)) S35 rfl]
    show Steps p.tables e below (T25.setTop (mkF m 50 #[.val (.ref a1), .val (.int (0 : Int32)), .val (.ref b5), .val (.int (2 : Int32))] [(.int (2 : Int32))])) _
    refine XS.ifYes X25.here hx rfl (pc0 := 50) (pc' := 59) rfl (hb hby own_d_prog_142_method_4_50) rfl ((if0 _ _).trans (feq (by decide : ¬ ((2 : Int32) = (0 : Int32)))).2) (by decide) (by decide) ?_
    show Steps p.tables e below (T25.setTop (mkF m 59 #[.val (.ref a1), .val (.int (0 : Int32)), .val (.ref b5), .val (.int (2 : Int32))] [])) _
    refine XS.aloadN X25.here hx rfl (hb hby own_d_prog_142_method_4_59) rfl rfl ?_
    exact kt
  obtain ⟨fs, hr, hrun, hended, hW, hsame⟩ := X25.leave (v := some (.ref b5)) (fun h => by rw [Bd.returns] at h; cases h)
  refine ⟨_, _, pre36 _ ?_, hrun, hended, _, _, rfl, ?_, ⟨_, rfl⟩, hW, hsame.mono (by decide) (by decide)⟩
  · show Steps p.tables e below (T25.setTop (mkF m 60 #[.val (.ref a1), .val (.int (0 : Int32)), .val (.ref b5), .val (.int (2 : Int32))] [(.ref b5)])) _
    jvm_step X25.here [X25.here.top, hx, (hb hby own_d_prog_142_method_4_60), X25.method', Bd.returns, Value.isRef, FieldType.isReference]
    first | (intro acts; rw [hr _ acts rfl rfl rfl]) | rw [hr _ _ rfl rfl rfl]
    exact Steps.refl _
  · show own_Q_oh2n Z a1 x0 x1 h0 n0 (some (.ref b5)) T25.heap _
    rw [e25]
    exact ⟨_, rfl, nf30, k29, sz_b5, f32⟩
theorem own_ef_oh2z (m : MethodId) (a1 : Addr) : entryFrame m #[(.ref a1)] 4 = mkF m 0 #[.val (.ref a1), .unset, .unset, .unset] [] := by first | (simp [entryFrame, mkF, argsToLocals, Value.category]; done) | rfl
def own_Q_oh2z (Z : State) (a1 : Addr) (x0 : Int32) (x1 : Int32) (h0 : Heap) (n0 : Nat) (v : Option Value) (h : Heap) (L : List Loc) : Prop := ∃ r : Addr, v = some (.ref r) ∧ Fr n0 L ∧ Keep h0 h [] ∧ h0.size ≤ r ∧ own_A Z h r 1 (own_v1 (x1 - (1 : Int32)))
set_option maxRecDepth 65536 in
set_option maxHeartbeats 40000000 in
theorem own_rm_oh2z (l : Launch) (Z : State) (a0 : Array Value) (hw : ∀ d ∈ tables_1, d.before a0 Z = true) (ws : List Jvm.Cond) (a1 : Addr) (x0 : Int32) (x1 : Int32) (h0 : Heap) (n0 : Nat) (Z0 : n0 ≤ h0.size) (A1 : own_A Z h0 a1 2 (own_v2 x0 x1)) (hz : x0 = (0 : Int32)) :
    MetFree l (⟨"com/example/unfold/unfold/semantics/GateSets", "outsideHide", "([I)[I"⟩ : MethodName) (head1 (Jvm.Cond.code (⟨"com/example/unfold/unfold/semantics/GateSets", "outsideHide", "([I)[I"⟩ : MethodName) prog_142_method_4_code 4 (some (.array .int)) :: ws) ({ frames := 0, cells := 1, slots := 1, locals := 0 } : Room)) (fun a U => a = #[(.ref a1)] ∧ Z.Warmed39 U.vm ∧ U.heap = h0) (fun _ _ _ _ _ => True) (fun _ U o U' => ∃ v L, o = .returned v ∧ own_Q_oh2z Z a1 x0 x1 h0 n0 v U'.heap L ∧ FrameEnd U o U' L ({ frames := 0, cells := 1, slots := 1, locals := 0 } : Room).cells ({ frames := 0, cells := 1, slots := 1, locals := 0 } : Room).slots) := by
  refine MetFree.of_bodySF (plainFor_of_name own_pn0) hisR ?_
  intro p e s m args below meth c s₁ Bd hml0 hP hK
  obtain ⟨rfl, hZ, hh⟩ := hP
  have hx := Bd.exec
  have hby := Bd.bytes
  have hml : c.maxLocals = 4 := hml0
  have hown : s.vm.findClass "com/example/unfold/unfold/semantics/GateSets" = some m.cls := findClass_of_methodNamed Bd.named
  have hnm := (name_of_methodNamed Bd.named Bd.method).1
  have X0 : Stand p l e ({ frames := 0, cells := 1, slots := 1, locals := 0 } : Room) s m #[(.ref a1)] below meth c s₁ [] 0 0 := Stand.of_body Bd
  have e0 : s₁.heap = h0 := by rw [← hh, Bd.state]; rfl
  have N0 := Fr.nil n0
  have K0 : Keep h0 h0 [] := Keep.refl _ _
  have pre0 : ∀ t, Steps p.tables e below (s₁.setTop (mkF m 0 #[.val (.ref a1), .unset, .unset, .unset] [])) t → Steps p.tables e below (s₁.setTop (entryFrame m #[(.ref a1)] 4)) t := fun t k => castTop (own_ef_oh2z m a1) k
  obtain ⟨cl1, Ar1, S1, -⟩ := id A1
  obtain ⟨cl2, Ar2, S2, H2⟩ := id A1
  have hin2 : ¬ ((0 : Int32) < 0 ∨ cl2.slots.size ≤ ((0 : Int32)).toNatClampNeg) := own_inb S2 (by decide) (by decide)
  have hat2 : cl2.slots[((0 : Int32)).toNatClampNeg]? = some (.int x0) := H2 _ (by decide)
  obtain ⟨cl3, Ar3, S3, -⟩ := id A1
  have pre4 : ∀ t, Steps p.tables e below (s₁.setTop (mkF m 19 #[.val (.ref a1), .val (.int (1 : Int32)), .unset, .unset] [(.int (2 : Int32))])) t → Steps p.tables e below (s₁.setTop (entryFrame m #[(.ref a1)] 4)) t := by
    intro t kt
    refine pre0 t ?_
    show Steps p.tables e below (s₁.setTop (mkF m 0 #[.val (.ref a1), .unset, .unset, .unset] [])) _
    refine XS.aloadN X0.here hx rfl (hb hby own_d_prog_142_method_4_0) rfl rfl ?_
    show Steps p.tables e below (s₁.setTop (mkF m 1 #[.val (.ref a1), .unset, .unset, .unset] [(.ref a1)])) _
    refine X0.arraylength hx (by rw [e0]; exact Ar1.1) (State.isArrayOf_alike hZ.alike Ar1.2.1) (g := (mkF m 1 #[.val (.ref a1), .unset, .unset, .unset] [(.ref a1)])) rfl rfl (hb hby own_d_prog_142_method_4_1) _ ?_
    rw [own_len (z := (2 : Int32)) S1 rfl]
    show Steps p.tables e below (s₁.setTop (mkF m 2 #[.val (.ref a1), .unset, .unset, .unset] [(.int (2 : Int32))])) _
    refine XS.ifNo X0.here hx rfl (hb hby own_d_prog_142_method_4_2) rfl ((if0 _ _).trans (tlt (by decide : (0 : Int32) < (2 : Int32))).2.2.2) ?_
    show Steps p.tables e below (s₁.setTop (mkF m 5 #[.val (.ref a1), .unset, .unset, .unset] [])) _
    refine XS.aloadN X0.here hx rfl (hb hby own_d_prog_142_method_4_5) rfl rfl ?_
    show Steps p.tables e below (s₁.setTop (mkF m 6 #[.val (.ref a1), .unset, .unset, .unset] [(.ref a1)])) _
    refine XS.iconst X0.here hx rfl (hb hby own_d_prog_142_method_4_6) ?_
    show Steps p.tables e below (s₁.setTop (mkF m 7 #[.val (.ref a1), .unset, .unset, .unset] [(.int (0 : Int32)), (.ref a1)])) _
    refine X0.iaload hx (j := (0 : Int32)) (v := (.int x0)) (by rw [e0]; exact Ar2.1) (State.isArrayOf_alike hZ.alike Ar2.2.1) Ar2.2.2 hin2 hat2 (g := (mkF m 7 #[.val (.ref a1), .unset, .unset, .unset] [(.int (0 : Int32)), (.ref a1)])) rfl rfl (hb hby own_d_prog_142_method_4_7) _ ?_
    show Steps p.tables e below (s₁.setTop (mkF m 8 #[.val (.ref a1), .unset, .unset, .unset] [(.int x0)])) _
    refine XS.ifNo X0.here hx rfl (hb hby own_d_prog_142_method_4_8) rfl ((if0 _ _).trans (teq hz).2) ?_
    show Steps p.tables e below (s₁.setTop (mkF m 11 #[.val (.ref a1), .unset, .unset, .unset] [])) _
    refine XS.iconst X0.here hx rfl (hb hby own_d_prog_142_method_4_11) ?_
    show Steps p.tables e below (s₁.setTop (mkF m 12 #[.val (.ref a1), .unset, .unset, .unset] [(.int (1 : Int32))])) _
    refine XS.goto X0.here hx rfl (pc0 := 12) (pc' := 16) rfl (hb hby own_d_prog_142_method_4_12) (by decide) (by decide) ?_
    show Steps p.tables e below (s₁.setTop (mkF m 16 #[.val (.ref a1), .unset, .unset, .unset] [(.int (1 : Int32))])) _
    refine XS.istoreN X0.here hx rfl (hb hby own_d_prog_142_method_4_16) rfl (l' := #[.val (.ref a1), .val (.int (1 : Int32)), .unset, .unset]) rfl ?_
    show Steps p.tables e below (s₁.setTop (mkF m 17 #[.val (.ref a1), .val (.int (1 : Int32)), .unset, .unset] [])) _
    refine XS.aloadN X0.here hx rfl (hb hby own_d_prog_142_method_4_17) rfl rfl ?_
    show Steps p.tables e below (s₁.setTop (mkF m 18 #[.val (.ref a1), .val (.int (1 : Int32)), .unset, .unset] [(.ref a1)])) _
    refine X0.arraylength hx (by rw [e0]; exact Ar3.1) (State.isArrayOf_alike hZ.alike Ar3.2.1) (g := (mkF m 18 #[.val (.ref a1), .val (.int (1 : Int32)), .unset, .unset] [(.ref a1)])) rfl rfl (hb hby own_d_prog_142_method_4_18) _ ?_
    rw [own_len (z := (2 : Int32)) S3 rfl]
    exact kt
  obtain ⟨T5, h5, k5, X5, e5, E5, A5, I5, st5⟩ := newPE X0 hx hZ (hw _ (List.mem_of_getElem? (i := 2) rfl)) e0 (g := (mkF m 21 #[.val (.ref a1), .val (.int (1 : Int32)), .unset, .unset] [(.int (1 : Int32))])) rfl (hb hby own_d_prog_142_method_4_21) rfl (by decide) (cap := 1) (by decide) (by decide) (by decide) (by decide) (ad := "[I") rfl
  obtain ⟨b5, g5⟩ : ∃ z, z = h0.size := ⟨_, rfl⟩
  rw [← g5] at A5 I5 st5
  have sz_b5 : h0.size ≤ b5 := Nat.le_trans K0.1 (Nat.le_of_eq g5.symm)
  have gn_b5 : n0 ≤ b5 := Nat.le_trans Z0 sz_b5
  have ne_a1_b5 : a1 ≠ b5 := Nat.ne_of_lt (Nat.lt_of_lt_of_le A1.lt (Nat.le_of_eq g5.symm))
  have f6 := A1.ext E5
  have k7 := K0.ext E5
  have f8 : own_A Z h5 b5 1 (own_v1 (0 : Int32)) := (own_A.new A5 rfl).congr (fun j hj => by rcases j with _ | j <;> first | rfl | (simp [own_upd]; done) | omega)
  obtain ⟨cl9, Ar9, S9, -⟩ := id f8
  have pre10 : ∀ t, Steps p.tables e below (T5.setTop (mkF m 34 #[.val (.ref a1), .val (.int (1 : Int32)), .val (.ref b5), .val (.int (0 : Int32))] [(.int (0 : Int32)), (.ref b5)])) t → Steps p.tables e below (s₁.setTop (entryFrame m #[(.ref a1)] 4)) t := by
    intro t kt
    refine pre4 t ?_
    show Steps p.tables e below (s₁.setTop (mkF m 19 #[.val (.ref a1), .val (.int (1 : Int32)), .unset, .unset] [(.int (2 : Int32))])) _
    refine XS.iloadN X0.here hx rfl (hb hby own_d_prog_142_method_4_19) rfl ?_
    show Steps p.tables e below (s₁.setTop (mkF m 20 #[.val (.ref a1), .val (.int (1 : Int32)), .unset, .unset] [(.int (1 : Int32)), (.int (2 : Int32))])) _
    refine XS.isub X0.here hx rfl (hb hby own_d_prog_142_method_4_20) rfl ?_
    show Steps p.tables e below (s₁.setTop (mkF m 21 #[.val (.ref a1), .val (.int (1 : Int32)), .unset, .unset] [(.int (1 : Int32))])) _
    refine st5 _ ?_
    show Steps p.tables e below (T5.setTop (mkF m 23 #[.val (.ref a1), .val (.int (1 : Int32)), .unset, .unset] [(.ref b5)])) _
    refine XS.astoreN X5.here hx rfl (hb hby own_d_prog_142_method_4_23) rfl rfl (l' := #[.val (.ref a1), .val (.int (1 : Int32)), .val (.ref b5), .unset]) rfl ?_
    show Steps p.tables e below (T5.setTop (mkF m 24 #[.val (.ref a1), .val (.int (1 : Int32)), .val (.ref b5), .unset] [])) _
    refine XS.iconst X5.here hx rfl (hb hby own_d_prog_142_method_4_24) ?_
    show Steps p.tables e below (T5.setTop (mkF m 25 #[.val (.ref a1), .val (.int (1 : Int32)), .val (.ref b5), .unset] [(.int (0 : Int32))])) _
    refine XS.istoreN X5.here hx rfl (hb hby own_d_prog_142_method_4_25) rfl (l' := #[.val (.ref a1), .val (.int (1 : Int32)), .val (.ref b5), .val (.int (0 : Int32))]) rfl ?_
    show Steps p.tables e below (T5.setTop (mkF m 26 #[.val (.ref a1), .val (.int (1 : Int32)), .val (.ref b5), .val (.int (0 : Int32))] [])) _
    refine XS.iloadN X5.here hx rfl (hb hby own_d_prog_142_method_4_26) rfl ?_
    show Steps p.tables e below (T5.setTop (mkF m 27 #[.val (.ref a1), .val (.int (1 : Int32)), .val (.ref b5), .val (.int (0 : Int32))] [(.int (0 : Int32))])) _
    refine XS.aloadN X5.here hx rfl (hb hby own_d_prog_142_method_4_27) rfl rfl ?_
    show Steps p.tables e below (T5.setTop (mkF m 28 #[.val (.ref a1), .val (.int (1 : Int32)), .val (.ref b5), .val (.int (0 : Int32))] [(.ref b5), (.int (0 : Int32))])) _
    refine X5.arraylength hx (by rw [e5]; exact Ar9.1) (State.isArrayOf_alike hZ.alike Ar9.2.1) (g := (mkF m 28 #[.val (.ref a1), .val (.int (1 : Int32)), .val (.ref b5), .val (.int (0 : Int32))] [(.ref b5), (.int (0 : Int32))])) rfl rfl (hb hby own_d_prog_142_method_4_28) _ ?_
    rw [own_len (z := (1 : Int32)) S9 rfl]
    show Steps p.tables e below (T5.setTop (mkF m 29 #[.val (.ref a1), .val (.int (1 : Int32)), .val (.ref b5), .val (.int (0 : Int32))] [(.int (1 : Int32)), (.int (0 : Int32))])) _
    refine XS.icmpNo X5.here hx rfl (hb hby own_d_prog_142_method_4_29) rfl (tlt (by decide : (0 : Int32) < (1 : Int32))).2.1 ?_
    show Steps p.tables e below (T5.setTop (mkF m 32 #[.val (.ref a1), .val (.int (1 : Int32)), .val (.ref b5), .val (.int (0 : Int32))] [])) _
    refine XS.aloadN X5.here hx rfl (hb hby own_d_prog_142_method_4_32) rfl rfl ?_
    show Steps p.tables e below (T5.setTop (mkF m 33 #[.val (.ref a1), .val (.int (1 : Int32)), .val (.ref b5), .val (.int (0 : Int32))] [(.ref b5)])) _
    refine XS.iloadN X5.here hx rfl (hb hby own_d_prog_142_method_4_33) rfl ?_
    exact kt
  obtain ⟨cl11, Ar11, S11, H11⟩ := id f6
  have hin11 : ¬ ((1 : Int32) < 0 ∨ cl11.slots.size ≤ ((1 : Int32)).toNatClampNeg) := own_inb S11 (by decide) (by decide)
  have hat11 : cl11.slots[((1 : Int32)).toNatClampNeg]? = some (.int x1) := H11 _ (by decide)
  obtain ⟨cl12, Ar12, S12, H12⟩ := id f8
  have hin12 : ¬ ((0 : Int32) < 0 ∨ cl12.slots.size ≤ ((0 : Int32)).toNatClampNeg) := own_inb S12 (by decide) (by decide)
  obtain ⟨T13, h13, X13, e13, W13, st13⟩ := stI X5 hx hZ e5 Ar12 (j := (0 : Int32)) hin12 (g := (mkF m 41 #[.val (.ref a1), .val (.int (1 : Int32)), .val (.ref b5), .val (.int (0 : Int32))] [(.int (x1 - (1 : Int32))), (.int (0 : Int32)), (.ref b5)])) rfl rfl (hb hby own_d_prog_142_method_4_41)
  have f14 := f6.other W13 ne_a1_b5
  have f15 := I5.wr W13
  have k17 := k7.wr W13 (Or.inr sz_b5)
  have nf18 := Fr.snoc X13 N0 gn_b5
  have f19 := f8.set W13
  have f20 : own_A Z h13 b5 1 (own_v1 (x1 - (1 : Int32))) := f19.congr (fun j hj => by rcases j with _ | j <;> first | rfl | (simp [own_upd]; done) | omega)
  have pre21 : ∀ t, Steps p.tables e below (T13.setTop (mkF m 28 #[.val (.ref a1), .val (.int (1 : Int32)), .val (.ref b5), .val (.int (1 : Int32))] [(.ref b5), (.int (1 : Int32))])) t → Steps p.tables e below (s₁.setTop (entryFrame m #[(.ref a1)] 4)) t := by
    intro t kt
    refine pre10 t ?_
    show Steps p.tables e below (T5.setTop (mkF m 34 #[.val (.ref a1), .val (.int (1 : Int32)), .val (.ref b5), .val (.int (0 : Int32))] [(.int (0 : Int32)), (.ref b5)])) _
    refine XS.aloadN X5.here hx rfl (hb hby own_d_prog_142_method_4_34) rfl rfl ?_
    show Steps p.tables e below (T5.setTop (mkF m 35 #[.val (.ref a1), .val (.int (1 : Int32)), .val (.ref b5), .val (.int (0 : Int32))] [(.ref a1), (.int (0 : Int32)), (.ref b5)])) _
    refine XS.iloadN X5.here hx rfl (hb hby own_d_prog_142_method_4_35) rfl ?_
    show Steps p.tables e below (T5.setTop (mkF m 36 #[.val (.ref a1), .val (.int (1 : Int32)), .val (.ref b5), .val (.int (0 : Int32))] [(.int (1 : Int32)), (.ref a1), (.int (0 : Int32)), (.ref b5)])) _
    refine XS.iloadN X5.here hx rfl (hb hby own_d_prog_142_method_4_36) rfl ?_
    show Steps p.tables e below (T5.setTop (mkF m 37 #[.val (.ref a1), .val (.int (1 : Int32)), .val (.ref b5), .val (.int (0 : Int32))] [(.int (0 : Int32)), (.int (1 : Int32)), (.ref a1), (.int (0 : Int32)), (.ref b5)])) _
    refine XS.iadd X5.here hx rfl (hb hby own_d_prog_142_method_4_37) rfl ?_
    show Steps p.tables e below (T5.setTop (mkF m 38 #[.val (.ref a1), .val (.int (1 : Int32)), .val (.ref b5), .val (.int (0 : Int32))] [(.int (1 : Int32)), (.ref a1), (.int (0 : Int32)), (.ref b5)])) _
    refine X5.iaload hx (j := (1 : Int32)) (v := (.int x1)) (by rw [e5]; exact Ar11.1) (State.isArrayOf_alike hZ.alike Ar11.2.1) Ar11.2.2 hin11 hat11 (g := (mkF m 38 #[.val (.ref a1), .val (.int (1 : Int32)), .val (.ref b5), .val (.int (0 : Int32))] [(.int (1 : Int32)), (.ref a1), (.int (0 : Int32)), (.ref b5)])) rfl rfl (hb hby own_d_prog_142_method_4_38) _ ?_
    show Steps p.tables e below (T5.setTop (mkF m 39 #[.val (.ref a1), .val (.int (1 : Int32)), .val (.ref b5), .val (.int (0 : Int32))] [(.int x1), (.int (0 : Int32)), (.ref b5)])) _
    refine XS.iconst X5.here hx rfl (hb hby own_d_prog_142_method_4_39) ?_
    show Steps p.tables e below (T5.setTop (mkF m 40 #[.val (.ref a1), .val (.int (1 : Int32)), .val (.ref b5), .val (.int (0 : Int32))] [(.int (1 : Int32)), (.int x1), (.int (0 : Int32)), (.ref b5)])) _
    refine XS.isub X5.here hx rfl (hb hby own_d_prog_142_method_4_40) rfl ?_
    show Steps p.tables e below (T5.setTop (mkF m 41 #[.val (.ref a1), .val (.int (1 : Int32)), .val (.ref b5), .val (.int (0 : Int32))] [(.int (x1 - (1 : Int32))), (.int (0 : Int32)), (.ref b5)])) _
    refine st13 _ ?_
    show Steps p.tables e below (T13.setTop (mkF m 42 #[.val (.ref a1), .val (.int (1 : Int32)), .val (.ref b5), .val (.int (0 : Int32))] [])) _
    refine XS.iinc X13.here hx rfl (hb hby own_d_prog_142_method_4_42) rfl (l' := #[.val (.ref a1), .val (.int (1 : Int32)), .val (.ref b5), .val (.int (1 : Int32))]) rfl ?_
    show Steps p.tables e below (T13.setTop (mkF m 45 #[.val (.ref a1), .val (.int (1 : Int32)), .val (.ref b5), .val (.int (1 : Int32))] [])) _
    refine XS.goto X13.here hx rfl (pc0 := 45) (pc' := 26) rfl (hb hby own_d_prog_142_method_4_45) (by decide) (by decide) ?_
    show Steps p.tables e below (T13.setTop (mkF m 26 #[.val (.ref a1), .val (.int (1 : Int32)), .val (.ref b5), .val (.int (1 : Int32))] [])) _
    refine XS.iloadN X13.here hx rfl (hb hby own_d_prog_142_method_4_26) rfl ?_
    show Steps p.tables e below (T13.setTop (mkF m 27 #[.val (.ref a1), .val (.int (1 : Int32)), .val (.ref b5), .val (.int (1 : Int32))] [(.int (1 : Int32))])) _
    refine XS.aloadN X13.here hx rfl (hb hby own_d_prog_142_method_4_27) rfl rfl ?_
    exact kt
  obtain ⟨cl22, Ar22, S22, -⟩ := id f20
  obtain ⟨cl23, Ar23, S23, -⟩ := id f20
  have pre24 : ∀ t, Steps p.tables e below (T13.setTop (mkF m 60 #[.val (.ref a1), .val (.int (1 : Int32)), .val (.ref b5), .val (.int (1 : Int32))] [(.ref b5)])) t → Steps p.tables e below (s₁.setTop (entryFrame m #[(.ref a1)] 4)) t := by
    intro t kt
    refine pre21 t ?_
    show Steps p.tables e below (T13.setTop (mkF m 28 #[.val (.ref a1), .val (.int (1 : Int32)), .val (.ref b5), .val (.int (1 : Int32))] [(.ref b5), (.int (1 : Int32))])) _
    refine X13.arraylength hx (by rw [e13]; exact Ar22.1) (State.isArrayOf_alike hZ.alike Ar22.2.1) (g := (mkF m 28 #[.val (.ref a1), .val (.int (1 : Int32)), .val (.ref b5), .val (.int (1 : Int32))] [(.ref b5), (.int (1 : Int32))])) rfl rfl (hb hby own_d_prog_142_method_4_28) _ ?_
    rw [own_len (z := (1 : Int32)) S22 rfl]
    show Steps p.tables e below (T13.setTop (mkF m 29 #[.val (.ref a1), .val (.int (1 : Int32)), .val (.ref b5), .val (.int (1 : Int32))] [(.int (1 : Int32)), (.int (1 : Int32))])) _
    refine XS.icmpYes X13.here hx rfl (pc0 := 29) (pc' := 48) rfl (hb hby own_d_prog_142_method_4_29) rfl (flt (by decide : ¬ ((1 : Int32) < (1 : Int32)))).2.1 (by decide) (by decide) ?_
    show Steps p.tables e below (T13.setTop (mkF m 48 #[.val (.ref a1), .val (.int (1 : Int32)), .val (.ref b5), .val (.int (1 : Int32))] [])) _
    refine XS.aloadN X13.here hx rfl (hb hby own_d_prog_142_method_4_48) rfl rfl ?_
    show Steps p.tables e below (T13.setTop (mkF m 49 #[.val (.ref a1), .val (.int (1 : Int32)), .val (.ref b5), .val (.int (1 : Int32))] [(.ref b5)])) _
    refine X13.arraylength hx (by rw [e13]; exact Ar23.1) (State.isArrayOf_alike hZ.alike Ar23.2.1) (g := (mkF m 49 #[.val (.ref a1), .val (.int (1 : Int32)), .val (.ref b5), .val (.int (1 : Int32))] [(.ref b5)])) rfl rfl (hb hby own_d_prog_142_method_4_49) _ ?_
    rw [own_len (z := (1 : Int32)) S23 rfl]
    show Steps p.tables e below (T13.setTop (mkF m 50 #[.val (.ref a1), .val (.int (1 : Int32)), .val (.ref b5), .val (.int (1 : Int32))] [(.int (1 : Int32))])) _
    refine XS.ifYes X13.here hx rfl (pc0 := 50) (pc' := 59) rfl (hb hby own_d_prog_142_method_4_50) rfl ((if0 _ _).trans (feq (by decide : ¬ ((1 : Int32) = (0 : Int32)))).2) (by decide) (by decide) ?_
    show Steps p.tables e below (T13.setTop (mkF m 59 #[.val (.ref a1), .val (.int (1 : Int32)), .val (.ref b5), .val (.int (1 : Int32))] [])) _
    refine XS.aloadN X13.here hx rfl (hb hby own_d_prog_142_method_4_59) rfl rfl ?_
    exact kt
  obtain ⟨fs, hr, hrun, hended, hW, hsame⟩ := X13.leave (v := some (.ref b5)) (fun h => by rw [Bd.returns] at h; cases h)
  refine ⟨_, _, pre24 _ ?_, hrun, hended, _, _, rfl, ?_, ⟨_, rfl⟩, hW, hsame.mono (by decide) (by decide)⟩
  · show Steps p.tables e below (T13.setTop (mkF m 60 #[.val (.ref a1), .val (.int (1 : Int32)), .val (.ref b5), .val (.int (1 : Int32))] [(.ref b5)])) _
    jvm_step X13.here [X13.here.top, hx, (hb hby own_d_prog_142_method_4_60), X13.method', Bd.returns, Value.isRef, FieldType.isReference]
    first | (intro acts; rw [hr _ acts rfl rfl rfl]) | rw [hr _ _ rfl rfl rfl]
    exact Steps.refl _
  · show own_Q_oh2z Z a1 x0 x1 h0 n0 (some (.ref b5)) T13.heap _
    rw [e13]
    exact ⟨_, rfl, nf18, k17, sz_b5, f20⟩
theorem own_ef_oh3n (m : MethodId) (a1 : Addr) : entryFrame m #[(.ref a1)] 4 = mkF m 0 #[.val (.ref a1), .unset, .unset, .unset] [] := by first | (simp [entryFrame, mkF, argsToLocals, Value.category]; done) | rfl
def own_Q_oh3n (Z : State) (a1 : Addr) (x0 : Int32) (x1 : Int32) (x2 : Int32) (h0 : Heap) (n0 : Nat) (v : Option Value) (h : Heap) (L : List Loc) : Prop := ∃ r : Addr, v = some (.ref r) ∧ Fr n0 L ∧ Keep h0 h [] ∧ h0.size ≤ r ∧ own_A Z h r 3 (own_v3 (x0 - (1 : Int32)) (x1 - (1 : Int32)) (x2 - (1 : Int32)))
set_option maxRecDepth 65536 in
set_option maxHeartbeats 40000000 in
theorem own_rm_oh3n (l : Launch) (Z : State) (a0 : Array Value) (hw : ∀ d ∈ tables_1, d.before a0 Z = true) (ws : List Jvm.Cond) (a1 : Addr) (x0 : Int32) (x1 : Int32) (x2 : Int32) (h0 : Heap) (n0 : Nat) (Z0 : n0 ≤ h0.size) (A1 : own_A Z h0 a1 3 (own_v3 x0 x1 x2)) (hz : ¬ x0 = (0 : Int32)) :
    MetFree l (⟨"com/example/unfold/unfold/semantics/GateSets", "outsideHide", "([I)[I"⟩ : MethodName) (head1 (Jvm.Cond.code (⟨"com/example/unfold/unfold/semantics/GateSets", "outsideHide", "([I)[I"⟩ : MethodName) prog_142_method_4_code 4 (some (.array .int)) :: ws) ({ frames := 0, cells := 1, slots := 3, locals := 0 } : Room)) (fun a U => a = #[(.ref a1)] ∧ Z.Warmed39 U.vm ∧ U.heap = h0) (fun _ _ _ _ _ => True) (fun _ U o U' => ∃ v L, o = .returned v ∧ own_Q_oh3n Z a1 x0 x1 x2 h0 n0 v U'.heap L ∧ FrameEnd U o U' L ({ frames := 0, cells := 1, slots := 3, locals := 0 } : Room).cells ({ frames := 0, cells := 1, slots := 3, locals := 0 } : Room).slots) := by
  refine MetFree.of_bodySF (plainFor_of_name own_pn0) hisR ?_
  intro p e s m args below meth c s₁ Bd hml0 hP hK
  obtain ⟨rfl, hZ, hh⟩ := hP
  have hx := Bd.exec
  have hby := Bd.bytes
  have hml : c.maxLocals = 4 := hml0
  have hown : s.vm.findClass "com/example/unfold/unfold/semantics/GateSets" = some m.cls := findClass_of_methodNamed Bd.named
  have hnm := (name_of_methodNamed Bd.named Bd.method).1
  have X0 : Stand p l e ({ frames := 0, cells := 1, slots := 3, locals := 0 } : Room) s m #[(.ref a1)] below meth c s₁ [] 0 0 := Stand.of_body Bd
  have e0 : s₁.heap = h0 := by rw [← hh, Bd.state]; rfl
  have N0 := Fr.nil n0
  have K0 : Keep h0 h0 [] := Keep.refl _ _
  have pre0 : ∀ t, Steps p.tables e below (s₁.setTop (mkF m 0 #[.val (.ref a1), .unset, .unset, .unset] [])) t → Steps p.tables e below (s₁.setTop (entryFrame m #[(.ref a1)] 4)) t := fun t k => castTop (own_ef_oh3n m a1) k
  obtain ⟨cl1, Ar1, S1, -⟩ := id A1
  obtain ⟨cl2, Ar2, S2, H2⟩ := id A1
  have hin2 : ¬ ((0 : Int32) < 0 ∨ cl2.slots.size ≤ ((0 : Int32)).toNatClampNeg) := own_inb S2 (by decide) (by decide)
  have hat2 : cl2.slots[((0 : Int32)).toNatClampNeg]? = some (.int x0) := H2 _ (by decide)
  obtain ⟨cl3, Ar3, S3, -⟩ := id A1
  have pre4 : ∀ t, Steps p.tables e below (s₁.setTop (mkF m 19 #[.val (.ref a1), .val (.int (0 : Int32)), .unset, .unset] [(.int (3 : Int32))])) t → Steps p.tables e below (s₁.setTop (entryFrame m #[(.ref a1)] 4)) t := by
    intro t kt
    refine pre0 t ?_
    show Steps p.tables e below (s₁.setTop (mkF m 0 #[.val (.ref a1), .unset, .unset, .unset] [])) _
    refine XS.aloadN X0.here hx rfl (hb hby own_d_prog_142_method_4_0) rfl rfl ?_
    show Steps p.tables e below (s₁.setTop (mkF m 1 #[.val (.ref a1), .unset, .unset, .unset] [(.ref a1)])) _
    refine X0.arraylength hx (by rw [e0]; exact Ar1.1) (State.isArrayOf_alike hZ.alike Ar1.2.1) (g := (mkF m 1 #[.val (.ref a1), .unset, .unset, .unset] [(.ref a1)])) rfl rfl (hb hby own_d_prog_142_method_4_1) _ ?_
    rw [own_len (z := (3 : Int32)) S1 rfl]
    show Steps p.tables e below (s₁.setTop (mkF m 2 #[.val (.ref a1), .unset, .unset, .unset] [(.int (3 : Int32))])) _
    refine XS.ifNo X0.here hx rfl (hb hby own_d_prog_142_method_4_2) rfl ((if0 _ _).trans (tlt (by decide : (0 : Int32) < (3 : Int32))).2.2.2) ?_
    show Steps p.tables e below (s₁.setTop (mkF m 5 #[.val (.ref a1), .unset, .unset, .unset] [])) _
    refine XS.aloadN X0.here hx rfl (hb hby own_d_prog_142_method_4_5) rfl rfl ?_
    show Steps p.tables e below (s₁.setTop (mkF m 6 #[.val (.ref a1), .unset, .unset, .unset] [(.ref a1)])) _
    refine XS.iconst X0.here hx rfl (hb hby own_d_prog_142_method_4_6) ?_
    show Steps p.tables e below (s₁.setTop (mkF m 7 #[.val (.ref a1), .unset, .unset, .unset] [(.int (0 : Int32)), (.ref a1)])) _
    refine X0.iaload hx (j := (0 : Int32)) (v := (.int x0)) (by rw [e0]; exact Ar2.1) (State.isArrayOf_alike hZ.alike Ar2.2.1) Ar2.2.2 hin2 hat2 (g := (mkF m 7 #[.val (.ref a1), .unset, .unset, .unset] [(.int (0 : Int32)), (.ref a1)])) rfl rfl (hb hby own_d_prog_142_method_4_7) _ ?_
    show Steps p.tables e below (s₁.setTop (mkF m 8 #[.val (.ref a1), .unset, .unset, .unset] [(.int x0)])) _
    refine XS.ifYes X0.here hx rfl (pc0 := 8) (pc' := 15) rfl (hb hby own_d_prog_142_method_4_8) rfl ((if0 _ _).trans (feq hz).2) (by decide) (by decide) ?_
    show Steps p.tables e below (s₁.setTop (mkF m 15 #[.val (.ref a1), .unset, .unset, .unset] [])) _
    refine XS.iconst X0.here hx rfl (hb hby own_d_prog_142_method_4_15) ?_
    show Steps p.tables e below (s₁.setTop (mkF m 16 #[.val (.ref a1), .unset, .unset, .unset] [(.int (0 : Int32))])) _
    refine XS.istoreN X0.here hx rfl (hb hby own_d_prog_142_method_4_16) rfl (l' := #[.val (.ref a1), .val (.int (0 : Int32)), .unset, .unset]) rfl ?_
    show Steps p.tables e below (s₁.setTop (mkF m 17 #[.val (.ref a1), .val (.int (0 : Int32)), .unset, .unset] [])) _
    refine XS.aloadN X0.here hx rfl (hb hby own_d_prog_142_method_4_17) rfl rfl ?_
    show Steps p.tables e below (s₁.setTop (mkF m 18 #[.val (.ref a1), .val (.int (0 : Int32)), .unset, .unset] [(.ref a1)])) _
    refine X0.arraylength hx (by rw [e0]; exact Ar3.1) (State.isArrayOf_alike hZ.alike Ar3.2.1) (g := (mkF m 18 #[.val (.ref a1), .val (.int (0 : Int32)), .unset, .unset] [(.ref a1)])) rfl rfl (hb hby own_d_prog_142_method_4_18) _ ?_
    rw [own_len (z := (3 : Int32)) S3 rfl]
    exact kt
  obtain ⟨T5, h5, k5, X5, e5, E5, A5, I5, st5⟩ := newPE X0 hx hZ (hw _ (List.mem_of_getElem? (i := 2) rfl)) e0 (g := (mkF m 21 #[.val (.ref a1), .val (.int (0 : Int32)), .unset, .unset] [(.int (3 : Int32))])) rfl (hb hby own_d_prog_142_method_4_21) rfl (by decide) (cap := 3) (by decide) (by decide) (by decide) (by decide) (ad := "[I") rfl
  obtain ⟨b5, g5⟩ : ∃ z, z = h0.size := ⟨_, rfl⟩
  rw [← g5] at A5 I5 st5
  have sz_b5 : h0.size ≤ b5 := Nat.le_trans K0.1 (Nat.le_of_eq g5.symm)
  have gn_b5 : n0 ≤ b5 := Nat.le_trans Z0 sz_b5
  have ne_a1_b5 : a1 ≠ b5 := Nat.ne_of_lt (Nat.lt_of_lt_of_le A1.lt (Nat.le_of_eq g5.symm))
  have f6 := A1.ext E5
  have k7 := K0.ext E5
  have f8 : own_A Z h5 b5 3 (own_v3 (0 : Int32) (0 : Int32) (0 : Int32)) := (own_A.new A5 rfl).congr (fun j hj => by rcases j with _ | _ | _ | j <;> first | rfl | (simp [own_upd]; done) | omega)
  obtain ⟨cl9, Ar9, S9, -⟩ := id f8
  have pre10 : ∀ t, Steps p.tables e below (T5.setTop (mkF m 34 #[.val (.ref a1), .val (.int (0 : Int32)), .val (.ref b5), .val (.int (0 : Int32))] [(.int (0 : Int32)), (.ref b5)])) t → Steps p.tables e below (s₁.setTop (entryFrame m #[(.ref a1)] 4)) t := by
    intro t kt
    refine pre4 t ?_
    show Steps p.tables e below (s₁.setTop (mkF m 19 #[.val (.ref a1), .val (.int (0 : Int32)), .unset, .unset] [(.int (3 : Int32))])) _
    refine XS.iloadN X0.here hx rfl (hb hby own_d_prog_142_method_4_19) rfl ?_
    show Steps p.tables e below (s₁.setTop (mkF m 20 #[.val (.ref a1), .val (.int (0 : Int32)), .unset, .unset] [(.int (0 : Int32)), (.int (3 : Int32))])) _
    refine XS.isub X0.here hx rfl (hb hby own_d_prog_142_method_4_20) rfl ?_
    show Steps p.tables e below (s₁.setTop (mkF m 21 #[.val (.ref a1), .val (.int (0 : Int32)), .unset, .unset] [(.int (3 : Int32))])) _
    refine st5 _ ?_
    show Steps p.tables e below (T5.setTop (mkF m 23 #[.val (.ref a1), .val (.int (0 : Int32)), .unset, .unset] [(.ref b5)])) _
    refine XS.astoreN X5.here hx rfl (hb hby own_d_prog_142_method_4_23) rfl rfl (l' := #[.val (.ref a1), .val (.int (0 : Int32)), .val (.ref b5), .unset]) rfl ?_
    show Steps p.tables e below (T5.setTop (mkF m 24 #[.val (.ref a1), .val (.int (0 : Int32)), .val (.ref b5), .unset] [])) _
    refine XS.iconst X5.here hx rfl (hb hby own_d_prog_142_method_4_24) ?_
    show Steps p.tables e below (T5.setTop (mkF m 25 #[.val (.ref a1), .val (.int (0 : Int32)), .val (.ref b5), .unset] [(.int (0 : Int32))])) _
    refine XS.istoreN X5.here hx rfl (hb hby own_d_prog_142_method_4_25) rfl (l' := #[.val (.ref a1), .val (.int (0 : Int32)), .val (.ref b5), .val (.int (0 : Int32))]) rfl ?_
    show Steps p.tables e below (T5.setTop (mkF m 26 #[.val (.ref a1), .val (.int (0 : Int32)), .val (.ref b5), .val (.int (0 : Int32))] [])) _
    refine XS.iloadN X5.here hx rfl (hb hby own_d_prog_142_method_4_26) rfl ?_
    show Steps p.tables e below (T5.setTop (mkF m 27 #[.val (.ref a1), .val (.int (0 : Int32)), .val (.ref b5), .val (.int (0 : Int32))] [(.int (0 : Int32))])) _
    refine XS.aloadN X5.here hx rfl (hb hby own_d_prog_142_method_4_27) rfl rfl ?_
    show Steps p.tables e below (T5.setTop (mkF m 28 #[.val (.ref a1), .val (.int (0 : Int32)), .val (.ref b5), .val (.int (0 : Int32))] [(.ref b5), (.int (0 : Int32))])) _
    refine X5.arraylength hx (by rw [e5]; exact Ar9.1) (State.isArrayOf_alike hZ.alike Ar9.2.1) (g := (mkF m 28 #[.val (.ref a1), .val (.int (0 : Int32)), .val (.ref b5), .val (.int (0 : Int32))] [(.ref b5), (.int (0 : Int32))])) rfl rfl (hb hby own_d_prog_142_method_4_28) _ ?_
    rw [own_len (z := (3 : Int32)) S9 rfl]
    show Steps p.tables e below (T5.setTop (mkF m 29 #[.val (.ref a1), .val (.int (0 : Int32)), .val (.ref b5), .val (.int (0 : Int32))] [(.int (3 : Int32)), (.int (0 : Int32))])) _
    refine XS.icmpNo X5.here hx rfl (hb hby own_d_prog_142_method_4_29) rfl (tlt (by decide : (0 : Int32) < (3 : Int32))).2.1 ?_
    show Steps p.tables e below (T5.setTop (mkF m 32 #[.val (.ref a1), .val (.int (0 : Int32)), .val (.ref b5), .val (.int (0 : Int32))] [])) _
    refine XS.aloadN X5.here hx rfl (hb hby own_d_prog_142_method_4_32) rfl rfl ?_
    show Steps p.tables e below (T5.setTop (mkF m 33 #[.val (.ref a1), .val (.int (0 : Int32)), .val (.ref b5), .val (.int (0 : Int32))] [(.ref b5)])) _
    refine XS.iloadN X5.here hx rfl (hb hby own_d_prog_142_method_4_33) rfl ?_
    exact kt
  obtain ⟨cl11, Ar11, S11, H11⟩ := id f6
  have hin11 : ¬ ((0 : Int32) < 0 ∨ cl11.slots.size ≤ ((0 : Int32)).toNatClampNeg) := own_inb S11 (by decide) (by decide)
  have hat11 : cl11.slots[((0 : Int32)).toNatClampNeg]? = some (.int x0) := H11 _ (by decide)
  obtain ⟨cl12, Ar12, S12, H12⟩ := id f8
  have hin12 : ¬ ((0 : Int32) < 0 ∨ cl12.slots.size ≤ ((0 : Int32)).toNatClampNeg) := own_inb S12 (by decide) (by decide)
  obtain ⟨T13, h13, X13, e13, W13, st13⟩ := stI X5 hx hZ e5 Ar12 (j := (0 : Int32)) hin12 (g := (mkF m 41 #[.val (.ref a1), .val (.int (0 : Int32)), .val (.ref b5), .val (.int (0 : Int32))] [(.int (x0 - (1 : Int32))), (.int (0 : Int32)), (.ref b5)])) rfl rfl (hb hby own_d_prog_142_method_4_41)
  have f14 := f6.other W13 ne_a1_b5
  have f15 := I5.wr W13
  have k17 := k7.wr W13 (Or.inr sz_b5)
  have nf18 := Fr.snoc X13 N0 gn_b5
  have f19 := f8.set W13
  have f20 : own_A Z h13 b5 3 (own_v3 (x0 - (1 : Int32)) (0 : Int32) (0 : Int32)) := f19.congr (fun j hj => by rcases j with _ | _ | _ | j <;> first | rfl | (simp [own_upd]; done) | omega)
  have pre21 : ∀ t, Steps p.tables e below (T13.setTop (mkF m 28 #[.val (.ref a1), .val (.int (0 : Int32)), .val (.ref b5), .val (.int (1 : Int32))] [(.ref b5), (.int (1 : Int32))])) t → Steps p.tables e below (s₁.setTop (entryFrame m #[(.ref a1)] 4)) t := by
    intro t kt
    refine pre10 t ?_
    show Steps p.tables e below (T5.setTop (mkF m 34 #[.val (.ref a1), .val (.int (0 : Int32)), .val (.ref b5), .val (.int (0 : Int32))] [(.int (0 : Int32)), (.ref b5)])) _
    refine XS.aloadN X5.here hx rfl (hb hby own_d_prog_142_method_4_34) rfl rfl ?_
    show Steps p.tables e below (T5.setTop (mkF m 35 #[.val (.ref a1), .val (.int (0 : Int32)), .val (.ref b5), .val (.int (0 : Int32))] [(.ref a1), (.int (0 : Int32)), (.ref b5)])) _
    refine XS.iloadN X5.here hx rfl (hb hby own_d_prog_142_method_4_35) rfl ?_
    show Steps p.tables e below (T5.setTop (mkF m 36 #[.val (.ref a1), .val (.int (0 : Int32)), .val (.ref b5), .val (.int (0 : Int32))] [(.int (0 : Int32)), (.ref a1), (.int (0 : Int32)), (.ref b5)])) _
    refine XS.iloadN X5.here hx rfl (hb hby own_d_prog_142_method_4_36) rfl ?_
    show Steps p.tables e below (T5.setTop (mkF m 37 #[.val (.ref a1), .val (.int (0 : Int32)), .val (.ref b5), .val (.int (0 : Int32))] [(.int (0 : Int32)), (.int (0 : Int32)), (.ref a1), (.int (0 : Int32)), (.ref b5)])) _
    refine XS.iadd X5.here hx rfl (hb hby own_d_prog_142_method_4_37) rfl ?_
    show Steps p.tables e below (T5.setTop (mkF m 38 #[.val (.ref a1), .val (.int (0 : Int32)), .val (.ref b5), .val (.int (0 : Int32))] [(.int (0 : Int32)), (.ref a1), (.int (0 : Int32)), (.ref b5)])) _
    refine X5.iaload hx (j := (0 : Int32)) (v := (.int x0)) (by rw [e5]; exact Ar11.1) (State.isArrayOf_alike hZ.alike Ar11.2.1) Ar11.2.2 hin11 hat11 (g := (mkF m 38 #[.val (.ref a1), .val (.int (0 : Int32)), .val (.ref b5), .val (.int (0 : Int32))] [(.int (0 : Int32)), (.ref a1), (.int (0 : Int32)), (.ref b5)])) rfl rfl (hb hby own_d_prog_142_method_4_38) _ ?_
    show Steps p.tables e below (T5.setTop (mkF m 39 #[.val (.ref a1), .val (.int (0 : Int32)), .val (.ref b5), .val (.int (0 : Int32))] [(.int x0), (.int (0 : Int32)), (.ref b5)])) _
    refine XS.iconst X5.here hx rfl (hb hby own_d_prog_142_method_4_39) ?_
    show Steps p.tables e below (T5.setTop (mkF m 40 #[.val (.ref a1), .val (.int (0 : Int32)), .val (.ref b5), .val (.int (0 : Int32))] [(.int (1 : Int32)), (.int x0), (.int (0 : Int32)), (.ref b5)])) _
    refine XS.isub X5.here hx rfl (hb hby own_d_prog_142_method_4_40) rfl ?_
    show Steps p.tables e below (T5.setTop (mkF m 41 #[.val (.ref a1), .val (.int (0 : Int32)), .val (.ref b5), .val (.int (0 : Int32))] [(.int (x0 - (1 : Int32))), (.int (0 : Int32)), (.ref b5)])) _
    refine st13 _ ?_
    show Steps p.tables e below (T13.setTop (mkF m 42 #[.val (.ref a1), .val (.int (0 : Int32)), .val (.ref b5), .val (.int (0 : Int32))] [])) _
    refine XS.iinc X13.here hx rfl (hb hby own_d_prog_142_method_4_42) rfl (l' := #[.val (.ref a1), .val (.int (0 : Int32)), .val (.ref b5), .val (.int (1 : Int32))]) rfl ?_
    show Steps p.tables e below (T13.setTop (mkF m 45 #[.val (.ref a1), .val (.int (0 : Int32)), .val (.ref b5), .val (.int (1 : Int32))] [])) _
    refine XS.goto X13.here hx rfl (pc0 := 45) (pc' := 26) rfl (hb hby own_d_prog_142_method_4_45) (by decide) (by decide) ?_
    show Steps p.tables e below (T13.setTop (mkF m 26 #[.val (.ref a1), .val (.int (0 : Int32)), .val (.ref b5), .val (.int (1 : Int32))] [])) _
    refine XS.iloadN X13.here hx rfl (hb hby own_d_prog_142_method_4_26) rfl ?_
    show Steps p.tables e below (T13.setTop (mkF m 27 #[.val (.ref a1), .val (.int (0 : Int32)), .val (.ref b5), .val (.int (1 : Int32))] [(.int (1 : Int32))])) _
    refine XS.aloadN X13.here hx rfl (hb hby own_d_prog_142_method_4_27) rfl rfl ?_
    exact kt
  obtain ⟨cl22, Ar22, S22, -⟩ := id f20
  obtain ⟨cl23, Ar23, S23, H23⟩ := id f14
  have hin23 : ¬ ((1 : Int32) < 0 ∨ cl23.slots.size ≤ ((1 : Int32)).toNatClampNeg) := own_inb S23 (by decide) (by decide)
  have hat23 : cl23.slots[((1 : Int32)).toNatClampNeg]? = some (.int x1) := H23 _ (by decide)
  obtain ⟨cl24, Ar24, S24, H24⟩ := id f20
  have hin24 : ¬ ((1 : Int32) < 0 ∨ cl24.slots.size ≤ ((1 : Int32)).toNatClampNeg) := own_inb S24 (by decide) (by decide)
  obtain ⟨T25, h25, X25, e25, W25, st25⟩ := stI X13 hx hZ e13 Ar24 (j := (1 : Int32)) hin24 (g := (mkF m 41 #[.val (.ref a1), .val (.int (0 : Int32)), .val (.ref b5), .val (.int (1 : Int32))] [(.int (x1 - (1 : Int32))), (.int (1 : Int32)), (.ref b5)])) rfl rfl (hb hby own_d_prog_142_method_4_41)
  have f26 := f14.other W25 ne_a1_b5
  have f27 := f15.wr W25
  have k29 := k17.wr W25 (Or.inr sz_b5)
  have nf30 := Fr.snoc X25 nf18 gn_b5
  have f31 := f20.set W25
  have f32 : own_A Z h25 b5 3 (own_v3 (x0 - (1 : Int32)) (x1 - (1 : Int32)) (0 : Int32)) := f31.congr (fun j hj => by rcases j with _ | _ | _ | j <;> first | rfl | (simp [own_upd]; done) | omega)
  have pre33 : ∀ t, Steps p.tables e below (T25.setTop (mkF m 42 #[.val (.ref a1), .val (.int (0 : Int32)), .val (.ref b5), .val (.int (1 : Int32))] [])) t → Steps p.tables e below (s₁.setTop (entryFrame m #[(.ref a1)] 4)) t := by
    intro t kt
    refine pre21 t ?_
    show Steps p.tables e below (T13.setTop (mkF m 28 #[.val (.ref a1), .val (.int (0 : Int32)), .val (.ref b5), .val (.int (1 : Int32))] [(.ref b5), (.int (1 : Int32))])) _
    refine X13.arraylength hx (by rw [e13]; exact Ar22.1) (State.isArrayOf_alike hZ.alike Ar22.2.1) (g := (mkF m 28 #[.val (.ref a1), .val (.int (0 : Int32)), .val (.ref b5), .val (.int (1 : Int32))] [(.ref b5), (.int (1 : Int32))])) rfl rfl (hb hby own_d_prog_142_method_4_28) _ ?_
    rw [own_len (z := (3 : Int32)) S22 rfl]
    show Steps p.tables e below (T13.setTop (mkF m 29 #[.val (.ref a1), .val (.int (0 : Int32)), .val (.ref b5), .val (.int (1 : Int32))] [(.int (3 : Int32)), (.int (1 : Int32))])) _
    refine XS.icmpNo X13.here hx rfl (hb hby own_d_prog_142_method_4_29) rfl (tlt (by decide : (1 : Int32) < (3 : Int32))).2.1 ?_
    show Steps p.tables e below (T13.setTop (mkF m 32 #[.val (.ref a1), .val (.int (0 : Int32)), .val (.ref b5), .val (.int (1 : Int32))] [])) _
    refine XS.aloadN X13.here hx rfl (hb hby own_d_prog_142_method_4_32) rfl rfl ?_
    show Steps p.tables e below (T13.setTop (mkF m 33 #[.val (.ref a1), .val (.int (0 : Int32)), .val (.ref b5), .val (.int (1 : Int32))] [(.ref b5)])) _
    refine XS.iloadN X13.here hx rfl (hb hby own_d_prog_142_method_4_33) rfl ?_
    show Steps p.tables e below (T13.setTop (mkF m 34 #[.val (.ref a1), .val (.int (0 : Int32)), .val (.ref b5), .val (.int (1 : Int32))] [(.int (1 : Int32)), (.ref b5)])) _
    refine XS.aloadN X13.here hx rfl (hb hby own_d_prog_142_method_4_34) rfl rfl ?_
    show Steps p.tables e below (T13.setTop (mkF m 35 #[.val (.ref a1), .val (.int (0 : Int32)), .val (.ref b5), .val (.int (1 : Int32))] [(.ref a1), (.int (1 : Int32)), (.ref b5)])) _
    refine XS.iloadN X13.here hx rfl (hb hby own_d_prog_142_method_4_35) rfl ?_
    show Steps p.tables e below (T13.setTop (mkF m 36 #[.val (.ref a1), .val (.int (0 : Int32)), .val (.ref b5), .val (.int (1 : Int32))] [(.int (0 : Int32)), (.ref a1), (.int (1 : Int32)), (.ref b5)])) _
    refine XS.iloadN X13.here hx rfl (hb hby own_d_prog_142_method_4_36) rfl ?_
    show Steps p.tables e below (T13.setTop (mkF m 37 #[.val (.ref a1), .val (.int (0 : Int32)), .val (.ref b5), .val (.int (1 : Int32))] [(.int (1 : Int32)), (.int (0 : Int32)), (.ref a1), (.int (1 : Int32)), (.ref b5)])) _
    refine XS.iadd X13.here hx rfl (hb hby own_d_prog_142_method_4_37) rfl ?_
    show Steps p.tables e below (T13.setTop (mkF m 38 #[.val (.ref a1), .val (.int (0 : Int32)), .val (.ref b5), .val (.int (1 : Int32))] [(.int (1 : Int32)), (.ref a1), (.int (1 : Int32)), (.ref b5)])) _
    refine X13.iaload hx (j := (1 : Int32)) (v := (.int x1)) (by rw [e13]; exact Ar23.1) (State.isArrayOf_alike hZ.alike Ar23.2.1) Ar23.2.2 hin23 hat23 (g := (mkF m 38 #[.val (.ref a1), .val (.int (0 : Int32)), .val (.ref b5), .val (.int (1 : Int32))] [(.int (1 : Int32)), (.ref a1), (.int (1 : Int32)), (.ref b5)])) rfl rfl (hb hby own_d_prog_142_method_4_38) _ ?_
    show Steps p.tables e below (T13.setTop (mkF m 39 #[.val (.ref a1), .val (.int (0 : Int32)), .val (.ref b5), .val (.int (1 : Int32))] [(.int x1), (.int (1 : Int32)), (.ref b5)])) _
    refine XS.iconst X13.here hx rfl (hb hby own_d_prog_142_method_4_39) ?_
    show Steps p.tables e below (T13.setTop (mkF m 40 #[.val (.ref a1), .val (.int (0 : Int32)), .val (.ref b5), .val (.int (1 : Int32))] [(.int (1 : Int32)), (.int x1), (.int (1 : Int32)), (.ref b5)])) _
    refine XS.isub X13.here hx rfl (hb hby own_d_prog_142_method_4_40) rfl ?_
    show Steps p.tables e below (T13.setTop (mkF m 41 #[.val (.ref a1), .val (.int (0 : Int32)), .val (.ref b5), .val (.int (1 : Int32))] [(.int (x1 - (1 : Int32))), (.int (1 : Int32)), (.ref b5)])) _
    refine st25 _ ?_
    exact kt
  obtain ⟨cl34, Ar34, S34, -⟩ := id f32
  have pre35 : ∀ t, Steps p.tables e below (T25.setTop (mkF m 38 #[.val (.ref a1), .val (.int (0 : Int32)), .val (.ref b5), .val (.int (2 : Int32))] [(.int (2 : Int32)), (.ref a1), (.int (2 : Int32)), (.ref b5)])) t → Steps p.tables e below (s₁.setTop (entryFrame m #[(.ref a1)] 4)) t := by
    intro t kt
    refine pre33 t ?_
    show Steps p.tables e below (T25.setTop (mkF m 42 #[.val (.ref a1), .val (.int (0 : Int32)), .val (.ref b5), .val (.int (1 : Int32))] [])) _
    refine XS.iinc X25.here hx rfl (hb hby own_d_prog_142_method_4_42) rfl (l' := #[.val (.ref a1), .val (.int (0 : Int32)), .val (.ref b5), .val (.int (2 : Int32))]) rfl ?_
    show Steps p.tables e below (T25.setTop (mkF m 45 #[.val (.ref a1), .val (.int (0 : Int32)), .val (.ref b5), .val (.int (2 : Int32))] [])) _
    refine XS.goto X25.here hx rfl (pc0 := 45) (pc' := 26) rfl (hb hby own_d_prog_142_method_4_45) (by decide) (by decide) ?_
    show Steps p.tables e below (T25.setTop (mkF m 26 #[.val (.ref a1), .val (.int (0 : Int32)), .val (.ref b5), .val (.int (2 : Int32))] [])) _
    refine XS.iloadN X25.here hx rfl (hb hby own_d_prog_142_method_4_26) rfl ?_
    show Steps p.tables e below (T25.setTop (mkF m 27 #[.val (.ref a1), .val (.int (0 : Int32)), .val (.ref b5), .val (.int (2 : Int32))] [(.int (2 : Int32))])) _
    refine XS.aloadN X25.here hx rfl (hb hby own_d_prog_142_method_4_27) rfl rfl ?_
    show Steps p.tables e below (T25.setTop (mkF m 28 #[.val (.ref a1), .val (.int (0 : Int32)), .val (.ref b5), .val (.int (2 : Int32))] [(.ref b5), (.int (2 : Int32))])) _
    refine X25.arraylength hx (by rw [e25]; exact Ar34.1) (State.isArrayOf_alike hZ.alike Ar34.2.1) (g := (mkF m 28 #[.val (.ref a1), .val (.int (0 : Int32)), .val (.ref b5), .val (.int (2 : Int32))] [(.ref b5), (.int (2 : Int32))])) rfl rfl (hb hby own_d_prog_142_method_4_28) _ ?_
    rw [own_len (z := (3 : Int32)) S34 rfl]
    show Steps p.tables e below (T25.setTop (mkF m 29 #[.val (.ref a1), .val (.int (0 : Int32)), .val (.ref b5), .val (.int (2 : Int32))] [(.int (3 : Int32)), (.int (2 : Int32))])) _
    refine XS.icmpNo X25.here hx rfl (hb hby own_d_prog_142_method_4_29) rfl (tlt (by decide : (2 : Int32) < (3 : Int32))).2.1 ?_
    show Steps p.tables e below (T25.setTop (mkF m 32 #[.val (.ref a1), .val (.int (0 : Int32)), .val (.ref b5), .val (.int (2 : Int32))] [])) _
    refine XS.aloadN X25.here hx rfl (hb hby own_d_prog_142_method_4_32) rfl rfl ?_
    show Steps p.tables e below (T25.setTop (mkF m 33 #[.val (.ref a1), .val (.int (0 : Int32)), .val (.ref b5), .val (.int (2 : Int32))] [(.ref b5)])) _
    refine XS.iloadN X25.here hx rfl (hb hby own_d_prog_142_method_4_33) rfl ?_
    show Steps p.tables e below (T25.setTop (mkF m 34 #[.val (.ref a1), .val (.int (0 : Int32)), .val (.ref b5), .val (.int (2 : Int32))] [(.int (2 : Int32)), (.ref b5)])) _
    refine XS.aloadN X25.here hx rfl (hb hby own_d_prog_142_method_4_34) rfl rfl ?_
    show Steps p.tables e below (T25.setTop (mkF m 35 #[.val (.ref a1), .val (.int (0 : Int32)), .val (.ref b5), .val (.int (2 : Int32))] [(.ref a1), (.int (2 : Int32)), (.ref b5)])) _
    refine XS.iloadN X25.here hx rfl (hb hby own_d_prog_142_method_4_35) rfl ?_
    show Steps p.tables e below (T25.setTop (mkF m 36 #[.val (.ref a1), .val (.int (0 : Int32)), .val (.ref b5), .val (.int (2 : Int32))] [(.int (0 : Int32)), (.ref a1), (.int (2 : Int32)), (.ref b5)])) _
    refine XS.iloadN X25.here hx rfl (hb hby own_d_prog_142_method_4_36) rfl ?_
    show Steps p.tables e below (T25.setTop (mkF m 37 #[.val (.ref a1), .val (.int (0 : Int32)), .val (.ref b5), .val (.int (2 : Int32))] [(.int (2 : Int32)), (.int (0 : Int32)), (.ref a1), (.int (2 : Int32)), (.ref b5)])) _
    refine XS.iadd X25.here hx rfl (hb hby own_d_prog_142_method_4_37) rfl ?_
    exact kt
  obtain ⟨cl36, Ar36, S36, H36⟩ := id f26
  have hin36 : ¬ ((2 : Int32) < 0 ∨ cl36.slots.size ≤ ((2 : Int32)).toNatClampNeg) := own_inb S36 (by decide) (by decide)
  have hat36 : cl36.slots[((2 : Int32)).toNatClampNeg]? = some (.int x2) := H36 _ (by decide)
  obtain ⟨cl37, Ar37, S37, H37⟩ := id f32
  have hin37 : ¬ ((2 : Int32) < 0 ∨ cl37.slots.size ≤ ((2 : Int32)).toNatClampNeg) := own_inb S37 (by decide) (by decide)
  obtain ⟨T38, h38, X38, e38, W38, st38⟩ := stI X25 hx hZ e25 Ar37 (j := (2 : Int32)) hin37 (g := (mkF m 41 #[.val (.ref a1), .val (.int (0 : Int32)), .val (.ref b5), .val (.int (2 : Int32))] [(.int (x2 - (1 : Int32))), (.int (2 : Int32)), (.ref b5)])) rfl rfl (hb hby own_d_prog_142_method_4_41)
  have f39 := f26.other W38 ne_a1_b5
  have f40 := f27.wr W38
  have k42 := k29.wr W38 (Or.inr sz_b5)
  have nf43 := Fr.snoc X38 nf30 gn_b5
  have f44 := f32.set W38
  have f45 : own_A Z h38 b5 3 (own_v3 (x0 - (1 : Int32)) (x1 - (1 : Int32)) (x2 - (1 : Int32))) := f44.congr (fun j hj => by rcases j with _ | _ | _ | j <;> first | rfl | (simp [own_upd]; done) | omega)
  obtain ⟨cl46, Ar46, S46, -⟩ := id f45
  obtain ⟨cl47, Ar47, S47, -⟩ := id f45
  have pre48 : ∀ t, Steps p.tables e below (T38.setTop (mkF m 50 #[.val (.ref a1), .val (.int (0 : Int32)), .val (.ref b5), .val (.int (3 : Int32))] [(.int (3 : Int32))])) t → Steps p.tables e below (s₁.setTop (entryFrame m #[(.ref a1)] 4)) t := by
    intro t kt
    refine pre35 t ?_
    show Steps p.tables e below (T25.setTop (mkF m 38 #[.val (.ref a1), .val (.int (0 : Int32)), .val (.ref b5), .val (.int (2 : Int32))] [(.int (2 : Int32)), (.ref a1), (.int (2 : Int32)), (.ref b5)])) _
    refine X25.iaload hx (j := (2 : Int32)) (v := (.int x2)) (by rw [e25]; exact Ar36.1) (State.isArrayOf_alike hZ.alike Ar36.2.1) Ar36.2.2 hin36 hat36 (g := (mkF m 38 #[.val (.ref a1), .val (.int (0 : Int32)), .val (.ref b5), .val (.int (2 : Int32))] [(.int (2 : Int32)), (.ref a1), (.int (2 : Int32)), (.ref b5)])) rfl rfl (hb hby own_d_prog_142_method_4_38) _ ?_
    show Steps p.tables e below (T25.setTop (mkF m 39 #[.val (.ref a1), .val (.int (0 : Int32)), .val (.ref b5), .val (.int (2 : Int32))] [(.int x2), (.int (2 : Int32)), (.ref b5)])) _
    refine XS.iconst X25.here hx rfl (hb hby own_d_prog_142_method_4_39) ?_
    show Steps p.tables e below (T25.setTop (mkF m 40 #[.val (.ref a1), .val (.int (0 : Int32)), .val (.ref b5), .val (.int (2 : Int32))] [(.int (1 : Int32)), (.int x2), (.int (2 : Int32)), (.ref b5)])) _
    refine XS.isub X25.here hx rfl (hb hby own_d_prog_142_method_4_40) rfl ?_
    show Steps p.tables e below (T25.setTop (mkF m 41 #[.val (.ref a1), .val (.int (0 : Int32)), .val (.ref b5), .val (.int (2 : Int32))] [(.int (x2 - (1 : Int32))), (.int (2 : Int32)), (.ref b5)])) _
    refine st38 _ ?_
    show Steps p.tables e below (T38.setTop (mkF m 42 #[.val (.ref a1), .val (.int (0 : Int32)), .val (.ref b5), .val (.int (2 : Int32))] [])) _
    refine XS.iinc X38.here hx rfl (hb hby own_d_prog_142_method_4_42) rfl (l' := #[.val (.ref a1), .val (.int (0 : Int32)), .val (.ref b5), .val (.int (3 : Int32))]) rfl ?_
    show Steps p.tables e below (T38.setTop (mkF m 45 #[.val (.ref a1), .val (.int (0 : Int32)), .val (.ref b5), .val (.int (3 : Int32))] [])) _
    refine XS.goto X38.here hx rfl (pc0 := 45) (pc' := 26) rfl (hb hby own_d_prog_142_method_4_45) (by decide) (by decide) ?_
    show Steps p.tables e below (T38.setTop (mkF m 26 #[.val (.ref a1), .val (.int (0 : Int32)), .val (.ref b5), .val (.int (3 : Int32))] [])) _
    refine XS.iloadN X38.here hx rfl (hb hby own_d_prog_142_method_4_26) rfl ?_
    show Steps p.tables e below (T38.setTop (mkF m 27 #[.val (.ref a1), .val (.int (0 : Int32)), .val (.ref b5), .val (.int (3 : Int32))] [(.int (3 : Int32))])) _
    refine XS.aloadN X38.here hx rfl (hb hby own_d_prog_142_method_4_27) rfl rfl ?_
    show Steps p.tables e below (T38.setTop (mkF m 28 #[.val (.ref a1), .val (.int (0 : Int32)), .val (.ref b5), .val (.int (3 : Int32))] [(.ref b5), (.int (3 : Int32))])) _
    refine X38.arraylength hx (by rw [e38]; exact Ar46.1) (State.isArrayOf_alike hZ.alike Ar46.2.1) (g := (mkF m 28 #[.val (.ref a1), .val (.int (0 : Int32)), .val (.ref b5), .val (.int (3 : Int32))] [(.ref b5), (.int (3 : Int32))])) rfl rfl (hb hby own_d_prog_142_method_4_28) _ ?_
    rw [own_len (z := (3 : Int32)) S46 rfl]
    show Steps p.tables e below (T38.setTop (mkF m 29 #[.val (.ref a1), .val (.int (0 : Int32)), .val (.ref b5), .val (.int (3 : Int32))] [(.int (3 : Int32)), (.int (3 : Int32))])) _
    refine XS.icmpYes X38.here hx rfl (pc0 := 29) (pc' := 48) rfl (hb hby own_d_prog_142_method_4_29) rfl (flt (by decide : ¬ ((3 : Int32) < (3 : Int32)))).2.1 (by decide) (by decide) ?_
    show Steps p.tables e below (T38.setTop (mkF m 48 #[.val (.ref a1), .val (.int (0 : Int32)), .val (.ref b5), .val (.int (3 : Int32))] [])) _
    refine XS.aloadN X38.here hx rfl (hb hby own_d_prog_142_method_4_48) rfl rfl ?_
    show Steps p.tables e below (T38.setTop (mkF m 49 #[.val (.ref a1), .val (.int (0 : Int32)), .val (.ref b5), .val (.int (3 : Int32))] [(.ref b5)])) _
    refine X38.arraylength hx (by rw [e38]; exact Ar47.1) (State.isArrayOf_alike hZ.alike Ar47.2.1) (g := (mkF m 49 #[.val (.ref a1), .val (.int (0 : Int32)), .val (.ref b5), .val (.int (3 : Int32))] [(.ref b5)])) rfl rfl (hb hby own_d_prog_142_method_4_49) _ ?_
    rw [own_len (z := (3 : Int32)) S47 rfl]
    exact kt
  have pre49 : ∀ t, Steps p.tables e below (T38.setTop (mkF m 60 #[.val (.ref a1), .val (.int (0 : Int32)), .val (.ref b5), .val (.int (3 : Int32))] [(.ref b5)])) t → Steps p.tables e below (s₁.setTop (entryFrame m #[(.ref a1)] 4)) t := by
    intro t kt
    refine pre48 t ?_
    show Steps p.tables e below (T38.setTop (mkF m 50 #[.val (.ref a1), .val (.int (0 : Int32)), .val (.ref b5), .val (.int (3 : Int32))] [(.int (3 : Int32))])) _
    refine XS.ifYes X38.here hx rfl (pc0 := 50) (pc' := 59) rfl (hb hby own_d_prog_142_method_4_50) rfl ((if0 _ _).trans (feq (by decide : ¬ ((3 : Int32) = (0 : Int32)))).2) (by decide) (by decide) ?_
    show Steps p.tables e below (T38.setTop (mkF m 59 #[.val (.ref a1), .val (.int (0 : Int32)), .val (.ref b5), .val (.int (3 : Int32))] [])) _
    refine XS.aloadN X38.here hx rfl (hb hby own_d_prog_142_method_4_59) rfl rfl ?_
    exact kt
  obtain ⟨fs, hr, hrun, hended, hW, hsame⟩ := X38.leave (v := some (.ref b5)) (fun h => by rw [Bd.returns] at h; cases h)
  refine ⟨_, _, pre49 _ ?_, hrun, hended, _, _, rfl, ?_, ⟨_, rfl⟩, hW, hsame.mono (by decide) (by decide)⟩
  · show Steps p.tables e below (T38.setTop (mkF m 60 #[.val (.ref a1), .val (.int (0 : Int32)), .val (.ref b5), .val (.int (3 : Int32))] [(.ref b5)])) _
    jvm_step X38.here [X38.here.top, hx, (hb hby own_d_prog_142_method_4_60), X38.method', Bd.returns, Value.isRef, FieldType.isReference]
    first | (intro acts; rw [hr _ acts rfl rfl rfl]) | rw [hr _ _ rfl rfl rfl]
    exact Steps.refl _
  · show own_Q_oh3n Z a1 x0 x1 x2 h0 n0 (some (.ref b5)) T38.heap _
    rw [e38]
    exact ⟨_, rfl, nf43, k42, sz_b5, f45⟩
theorem own_ef_oh3z (m : MethodId) (a1 : Addr) : entryFrame m #[(.ref a1)] 4 = mkF m 0 #[.val (.ref a1), .unset, .unset, .unset] [] := by first | (simp [entryFrame, mkF, argsToLocals, Value.category]; done) | rfl
def own_Q_oh3z (Z : State) (a1 : Addr) (x0 : Int32) (x1 : Int32) (x2 : Int32) (h0 : Heap) (n0 : Nat) (v : Option Value) (h : Heap) (L : List Loc) : Prop := ∃ r : Addr, v = some (.ref r) ∧ Fr n0 L ∧ Keep h0 h [] ∧ h0.size ≤ r ∧ own_A Z h r 2 (own_v2 (x1 - (1 : Int32)) (x2 - (1 : Int32)))
set_option maxRecDepth 65536 in
set_option maxHeartbeats 40000000 in
theorem own_rm_oh3z (l : Launch) (Z : State) (a0 : Array Value) (hw : ∀ d ∈ tables_1, d.before a0 Z = true) (ws : List Jvm.Cond) (a1 : Addr) (x0 : Int32) (x1 : Int32) (x2 : Int32) (h0 : Heap) (n0 : Nat) (Z0 : n0 ≤ h0.size) (A1 : own_A Z h0 a1 3 (own_v3 x0 x1 x2)) (hz : x0 = (0 : Int32)) :
    MetFree l (⟨"com/example/unfold/unfold/semantics/GateSets", "outsideHide", "([I)[I"⟩ : MethodName) (head1 (Jvm.Cond.code (⟨"com/example/unfold/unfold/semantics/GateSets", "outsideHide", "([I)[I"⟩ : MethodName) prog_142_method_4_code 4 (some (.array .int)) :: ws) ({ frames := 0, cells := 1, slots := 2, locals := 0 } : Room)) (fun a U => a = #[(.ref a1)] ∧ Z.Warmed39 U.vm ∧ U.heap = h0) (fun _ _ _ _ _ => True) (fun _ U o U' => ∃ v L, o = .returned v ∧ own_Q_oh3z Z a1 x0 x1 x2 h0 n0 v U'.heap L ∧ FrameEnd U o U' L ({ frames := 0, cells := 1, slots := 2, locals := 0 } : Room).cells ({ frames := 0, cells := 1, slots := 2, locals := 0 } : Room).slots) := by
  refine MetFree.of_bodySF (plainFor_of_name own_pn0) hisR ?_
  intro p e s m args below meth c s₁ Bd hml0 hP hK
  obtain ⟨rfl, hZ, hh⟩ := hP
  have hx := Bd.exec
  have hby := Bd.bytes
  have hml : c.maxLocals = 4 := hml0
  have hown : s.vm.findClass "com/example/unfold/unfold/semantics/GateSets" = some m.cls := findClass_of_methodNamed Bd.named
  have hnm := (name_of_methodNamed Bd.named Bd.method).1
  have X0 : Stand p l e ({ frames := 0, cells := 1, slots := 2, locals := 0 } : Room) s m #[(.ref a1)] below meth c s₁ [] 0 0 := Stand.of_body Bd
  have e0 : s₁.heap = h0 := by rw [← hh, Bd.state]; rfl
  have N0 := Fr.nil n0
  have K0 : Keep h0 h0 [] := Keep.refl _ _
  have pre0 : ∀ t, Steps p.tables e below (s₁.setTop (mkF m 0 #[.val (.ref a1), .unset, .unset, .unset] [])) t → Steps p.tables e below (s₁.setTop (entryFrame m #[(.ref a1)] 4)) t := fun t k => castTop (own_ef_oh3z m a1) k
  obtain ⟨cl1, Ar1, S1, -⟩ := id A1
  obtain ⟨cl2, Ar2, S2, H2⟩ := id A1
  have hin2 : ¬ ((0 : Int32) < 0 ∨ cl2.slots.size ≤ ((0 : Int32)).toNatClampNeg) := own_inb S2 (by decide) (by decide)
  have hat2 : cl2.slots[((0 : Int32)).toNatClampNeg]? = some (.int x0) := H2 _ (by decide)
  obtain ⟨cl3, Ar3, S3, -⟩ := id A1
  have pre4 : ∀ t, Steps p.tables e below (s₁.setTop (mkF m 19 #[.val (.ref a1), .val (.int (1 : Int32)), .unset, .unset] [(.int (3 : Int32))])) t → Steps p.tables e below (s₁.setTop (entryFrame m #[(.ref a1)] 4)) t := by
    intro t kt
    refine pre0 t ?_
    show Steps p.tables e below (s₁.setTop (mkF m 0 #[.val (.ref a1), .unset, .unset, .unset] [])) _
    refine XS.aloadN X0.here hx rfl (hb hby own_d_prog_142_method_4_0) rfl rfl ?_
    show Steps p.tables e below (s₁.setTop (mkF m 1 #[.val (.ref a1), .unset, .unset, .unset] [(.ref a1)])) _
    refine X0.arraylength hx (by rw [e0]; exact Ar1.1) (State.isArrayOf_alike hZ.alike Ar1.2.1) (g := (mkF m 1 #[.val (.ref a1), .unset, .unset, .unset] [(.ref a1)])) rfl rfl (hb hby own_d_prog_142_method_4_1) _ ?_
    rw [own_len (z := (3 : Int32)) S1 rfl]
    show Steps p.tables e below (s₁.setTop (mkF m 2 #[.val (.ref a1), .unset, .unset, .unset] [(.int (3 : Int32))])) _
    refine XS.ifNo X0.here hx rfl (hb hby own_d_prog_142_method_4_2) rfl ((if0 _ _).trans (tlt (by decide : (0 : Int32) < (3 : Int32))).2.2.2) ?_
    show Steps p.tables e below (s₁.setTop (mkF m 5 #[.val (.ref a1), .unset, .unset, .unset] [])) _
    refine XS.aloadN X0.here hx rfl (hb hby own_d_prog_142_method_4_5) rfl rfl ?_
    show Steps p.tables e below (s₁.setTop (mkF m 6 #[.val (.ref a1), .unset, .unset, .unset] [(.ref a1)])) _
    refine XS.iconst X0.here hx rfl (hb hby own_d_prog_142_method_4_6) ?_
    show Steps p.tables e below (s₁.setTop (mkF m 7 #[.val (.ref a1), .unset, .unset, .unset] [(.int (0 : Int32)), (.ref a1)])) _
    refine X0.iaload hx (j := (0 : Int32)) (v := (.int x0)) (by rw [e0]; exact Ar2.1) (State.isArrayOf_alike hZ.alike Ar2.2.1) Ar2.2.2 hin2 hat2 (g := (mkF m 7 #[.val (.ref a1), .unset, .unset, .unset] [(.int (0 : Int32)), (.ref a1)])) rfl rfl (hb hby own_d_prog_142_method_4_7) _ ?_
    show Steps p.tables e below (s₁.setTop (mkF m 8 #[.val (.ref a1), .unset, .unset, .unset] [(.int x0)])) _
    refine XS.ifNo X0.here hx rfl (hb hby own_d_prog_142_method_4_8) rfl ((if0 _ _).trans (teq hz).2) ?_
    show Steps p.tables e below (s₁.setTop (mkF m 11 #[.val (.ref a1), .unset, .unset, .unset] [])) _
    refine XS.iconst X0.here hx rfl (hb hby own_d_prog_142_method_4_11) ?_
    show Steps p.tables e below (s₁.setTop (mkF m 12 #[.val (.ref a1), .unset, .unset, .unset] [(.int (1 : Int32))])) _
    refine XS.goto X0.here hx rfl (pc0 := 12) (pc' := 16) rfl (hb hby own_d_prog_142_method_4_12) (by decide) (by decide) ?_
    show Steps p.tables e below (s₁.setTop (mkF m 16 #[.val (.ref a1), .unset, .unset, .unset] [(.int (1 : Int32))])) _
    refine XS.istoreN X0.here hx rfl (hb hby own_d_prog_142_method_4_16) rfl (l' := #[.val (.ref a1), .val (.int (1 : Int32)), .unset, .unset]) rfl ?_
    show Steps p.tables e below (s₁.setTop (mkF m 17 #[.val (.ref a1), .val (.int (1 : Int32)), .unset, .unset] [])) _
    refine XS.aloadN X0.here hx rfl (hb hby own_d_prog_142_method_4_17) rfl rfl ?_
    show Steps p.tables e below (s₁.setTop (mkF m 18 #[.val (.ref a1), .val (.int (1 : Int32)), .unset, .unset] [(.ref a1)])) _
    refine X0.arraylength hx (by rw [e0]; exact Ar3.1) (State.isArrayOf_alike hZ.alike Ar3.2.1) (g := (mkF m 18 #[.val (.ref a1), .val (.int (1 : Int32)), .unset, .unset] [(.ref a1)])) rfl rfl (hb hby own_d_prog_142_method_4_18) _ ?_
    rw [own_len (z := (3 : Int32)) S3 rfl]
    exact kt
  obtain ⟨T5, h5, k5, X5, e5, E5, A5, I5, st5⟩ := newPE X0 hx hZ (hw _ (List.mem_of_getElem? (i := 2) rfl)) e0 (g := (mkF m 21 #[.val (.ref a1), .val (.int (1 : Int32)), .unset, .unset] [(.int (2 : Int32))])) rfl (hb hby own_d_prog_142_method_4_21) rfl (by decide) (cap := 2) (by decide) (by decide) (by decide) (by decide) (ad := "[I") rfl
  obtain ⟨b5, g5⟩ : ∃ z, z = h0.size := ⟨_, rfl⟩
  rw [← g5] at A5 I5 st5
  have sz_b5 : h0.size ≤ b5 := Nat.le_trans K0.1 (Nat.le_of_eq g5.symm)
  have gn_b5 : n0 ≤ b5 := Nat.le_trans Z0 sz_b5
  have ne_a1_b5 : a1 ≠ b5 := Nat.ne_of_lt (Nat.lt_of_lt_of_le A1.lt (Nat.le_of_eq g5.symm))
  have f6 := A1.ext E5
  have k7 := K0.ext E5
  have f8 : own_A Z h5 b5 2 (own_v2 (0 : Int32) (0 : Int32)) := (own_A.new A5 rfl).congr (fun j hj => by rcases j with _ | _ | j <;> first | rfl | (simp [own_upd]; done) | omega)
  obtain ⟨cl9, Ar9, S9, -⟩ := id f8
  have pre10 : ∀ t, Steps p.tables e below (T5.setTop (mkF m 34 #[.val (.ref a1), .val (.int (1 : Int32)), .val (.ref b5), .val (.int (0 : Int32))] [(.int (0 : Int32)), (.ref b5)])) t → Steps p.tables e below (s₁.setTop (entryFrame m #[(.ref a1)] 4)) t := by
    intro t kt
    refine pre4 t ?_
    show Steps p.tables e below (s₁.setTop (mkF m 19 #[.val (.ref a1), .val (.int (1 : Int32)), .unset, .unset] [(.int (3 : Int32))])) _
    refine XS.iloadN X0.here hx rfl (hb hby own_d_prog_142_method_4_19) rfl ?_
    show Steps p.tables e below (s₁.setTop (mkF m 20 #[.val (.ref a1), .val (.int (1 : Int32)), .unset, .unset] [(.int (1 : Int32)), (.int (3 : Int32))])) _
    refine XS.isub X0.here hx rfl (hb hby own_d_prog_142_method_4_20) rfl ?_
    show Steps p.tables e below (s₁.setTop (mkF m 21 #[.val (.ref a1), .val (.int (1 : Int32)), .unset, .unset] [(.int (2 : Int32))])) _
    refine st5 _ ?_
    show Steps p.tables e below (T5.setTop (mkF m 23 #[.val (.ref a1), .val (.int (1 : Int32)), .unset, .unset] [(.ref b5)])) _
    refine XS.astoreN X5.here hx rfl (hb hby own_d_prog_142_method_4_23) rfl rfl (l' := #[.val (.ref a1), .val (.int (1 : Int32)), .val (.ref b5), .unset]) rfl ?_
    show Steps p.tables e below (T5.setTop (mkF m 24 #[.val (.ref a1), .val (.int (1 : Int32)), .val (.ref b5), .unset] [])) _
    refine XS.iconst X5.here hx rfl (hb hby own_d_prog_142_method_4_24) ?_
    show Steps p.tables e below (T5.setTop (mkF m 25 #[.val (.ref a1), .val (.int (1 : Int32)), .val (.ref b5), .unset] [(.int (0 : Int32))])) _
    refine XS.istoreN X5.here hx rfl (hb hby own_d_prog_142_method_4_25) rfl (l' := #[.val (.ref a1), .val (.int (1 : Int32)), .val (.ref b5), .val (.int (0 : Int32))]) rfl ?_
    show Steps p.tables e below (T5.setTop (mkF m 26 #[.val (.ref a1), .val (.int (1 : Int32)), .val (.ref b5), .val (.int (0 : Int32))] [])) _
    refine XS.iloadN X5.here hx rfl (hb hby own_d_prog_142_method_4_26) rfl ?_
    show Steps p.tables e below (T5.setTop (mkF m 27 #[.val (.ref a1), .val (.int (1 : Int32)), .val (.ref b5), .val (.int (0 : Int32))] [(.int (0 : Int32))])) _
    refine XS.aloadN X5.here hx rfl (hb hby own_d_prog_142_method_4_27) rfl rfl ?_
    show Steps p.tables e below (T5.setTop (mkF m 28 #[.val (.ref a1), .val (.int (1 : Int32)), .val (.ref b5), .val (.int (0 : Int32))] [(.ref b5), (.int (0 : Int32))])) _
    refine X5.arraylength hx (by rw [e5]; exact Ar9.1) (State.isArrayOf_alike hZ.alike Ar9.2.1) (g := (mkF m 28 #[.val (.ref a1), .val (.int (1 : Int32)), .val (.ref b5), .val (.int (0 : Int32))] [(.ref b5), (.int (0 : Int32))])) rfl rfl (hb hby own_d_prog_142_method_4_28) _ ?_
    rw [own_len (z := (2 : Int32)) S9 rfl]
    show Steps p.tables e below (T5.setTop (mkF m 29 #[.val (.ref a1), .val (.int (1 : Int32)), .val (.ref b5), .val (.int (0 : Int32))] [(.int (2 : Int32)), (.int (0 : Int32))])) _
    refine XS.icmpNo X5.here hx rfl (hb hby own_d_prog_142_method_4_29) rfl (tlt (by decide : (0 : Int32) < (2 : Int32))).2.1 ?_
    show Steps p.tables e below (T5.setTop (mkF m 32 #[.val (.ref a1), .val (.int (1 : Int32)), .val (.ref b5), .val (.int (0 : Int32))] [])) _
    refine XS.aloadN X5.here hx rfl (hb hby own_d_prog_142_method_4_32) rfl rfl ?_
    show Steps p.tables e below (T5.setTop (mkF m 33 #[.val (.ref a1), .val (.int (1 : Int32)), .val (.ref b5), .val (.int (0 : Int32))] [(.ref b5)])) _
    refine XS.iloadN X5.here hx rfl (hb hby own_d_prog_142_method_4_33) rfl ?_
    exact kt
  obtain ⟨cl11, Ar11, S11, H11⟩ := id f6
  have hin11 : ¬ ((1 : Int32) < 0 ∨ cl11.slots.size ≤ ((1 : Int32)).toNatClampNeg) := own_inb S11 (by decide) (by decide)
  have hat11 : cl11.slots[((1 : Int32)).toNatClampNeg]? = some (.int x1) := H11 _ (by decide)
  obtain ⟨cl12, Ar12, S12, H12⟩ := id f8
  have hin12 : ¬ ((0 : Int32) < 0 ∨ cl12.slots.size ≤ ((0 : Int32)).toNatClampNeg) := own_inb S12 (by decide) (by decide)
  obtain ⟨T13, h13, X13, e13, W13, st13⟩ := stI X5 hx hZ e5 Ar12 (j := (0 : Int32)) hin12 (g := (mkF m 41 #[.val (.ref a1), .val (.int (1 : Int32)), .val (.ref b5), .val (.int (0 : Int32))] [(.int (x1 - (1 : Int32))), (.int (0 : Int32)), (.ref b5)])) rfl rfl (hb hby own_d_prog_142_method_4_41)
  have f14 := f6.other W13 ne_a1_b5
  have f15 := I5.wr W13
  have k17 := k7.wr W13 (Or.inr sz_b5)
  have nf18 := Fr.snoc X13 N0 gn_b5
  have f19 := f8.set W13
  have f20 : own_A Z h13 b5 2 (own_v2 (x1 - (1 : Int32)) (0 : Int32)) := f19.congr (fun j hj => by rcases j with _ | _ | j <;> first | rfl | (simp [own_upd]; done) | omega)
  have pre21 : ∀ t, Steps p.tables e below (T13.setTop (mkF m 28 #[.val (.ref a1), .val (.int (1 : Int32)), .val (.ref b5), .val (.int (1 : Int32))] [(.ref b5), (.int (1 : Int32))])) t → Steps p.tables e below (s₁.setTop (entryFrame m #[(.ref a1)] 4)) t := by
    intro t kt
    refine pre10 t ?_
    show Steps p.tables e below (T5.setTop (mkF m 34 #[.val (.ref a1), .val (.int (1 : Int32)), .val (.ref b5), .val (.int (0 : Int32))] [(.int (0 : Int32)), (.ref b5)])) _
    refine XS.aloadN X5.here hx rfl (hb hby own_d_prog_142_method_4_34) rfl rfl ?_
    show Steps p.tables e below (T5.setTop (mkF m 35 #[.val (.ref a1), .val (.int (1 : Int32)), .val (.ref b5), .val (.int (0 : Int32))] [(.ref a1), (.int (0 : Int32)), (.ref b5)])) _
    refine XS.iloadN X5.here hx rfl (hb hby own_d_prog_142_method_4_35) rfl ?_
    show Steps p.tables e below (T5.setTop (mkF m 36 #[.val (.ref a1), .val (.int (1 : Int32)), .val (.ref b5), .val (.int (0 : Int32))] [(.int (1 : Int32)), (.ref a1), (.int (0 : Int32)), (.ref b5)])) _
    refine XS.iloadN X5.here hx rfl (hb hby own_d_prog_142_method_4_36) rfl ?_
    show Steps p.tables e below (T5.setTop (mkF m 37 #[.val (.ref a1), .val (.int (1 : Int32)), .val (.ref b5), .val (.int (0 : Int32))] [(.int (0 : Int32)), (.int (1 : Int32)), (.ref a1), (.int (0 : Int32)), (.ref b5)])) _
    refine XS.iadd X5.here hx rfl (hb hby own_d_prog_142_method_4_37) rfl ?_
    show Steps p.tables e below (T5.setTop (mkF m 38 #[.val (.ref a1), .val (.int (1 : Int32)), .val (.ref b5), .val (.int (0 : Int32))] [(.int (1 : Int32)), (.ref a1), (.int (0 : Int32)), (.ref b5)])) _
    refine X5.iaload hx (j := (1 : Int32)) (v := (.int x1)) (by rw [e5]; exact Ar11.1) (State.isArrayOf_alike hZ.alike Ar11.2.1) Ar11.2.2 hin11 hat11 (g := (mkF m 38 #[.val (.ref a1), .val (.int (1 : Int32)), .val (.ref b5), .val (.int (0 : Int32))] [(.int (1 : Int32)), (.ref a1), (.int (0 : Int32)), (.ref b5)])) rfl rfl (hb hby own_d_prog_142_method_4_38) _ ?_
    show Steps p.tables e below (T5.setTop (mkF m 39 #[.val (.ref a1), .val (.int (1 : Int32)), .val (.ref b5), .val (.int (0 : Int32))] [(.int x1), (.int (0 : Int32)), (.ref b5)])) _
    refine XS.iconst X5.here hx rfl (hb hby own_d_prog_142_method_4_39) ?_
    show Steps p.tables e below (T5.setTop (mkF m 40 #[.val (.ref a1), .val (.int (1 : Int32)), .val (.ref b5), .val (.int (0 : Int32))] [(.int (1 : Int32)), (.int x1), (.int (0 : Int32)), (.ref b5)])) _
    refine XS.isub X5.here hx rfl (hb hby own_d_prog_142_method_4_40) rfl ?_
    show Steps p.tables e below (T5.setTop (mkF m 41 #[.val (.ref a1), .val (.int (1 : Int32)), .val (.ref b5), .val (.int (0 : Int32))] [(.int (x1 - (1 : Int32))), (.int (0 : Int32)), (.ref b5)])) _
    refine st13 _ ?_
    show Steps p.tables e below (T13.setTop (mkF m 42 #[.val (.ref a1), .val (.int (1 : Int32)), .val (.ref b5), .val (.int (0 : Int32))] [])) _
    refine XS.iinc X13.here hx rfl (hb hby own_d_prog_142_method_4_42) rfl (l' := #[.val (.ref a1), .val (.int (1 : Int32)), .val (.ref b5), .val (.int (1 : Int32))]) rfl ?_
    show Steps p.tables e below (T13.setTop (mkF m 45 #[.val (.ref a1), .val (.int (1 : Int32)), .val (.ref b5), .val (.int (1 : Int32))] [])) _
    refine XS.goto X13.here hx rfl (pc0 := 45) (pc' := 26) rfl (hb hby own_d_prog_142_method_4_45) (by decide) (by decide) ?_
    show Steps p.tables e below (T13.setTop (mkF m 26 #[.val (.ref a1), .val (.int (1 : Int32)), .val (.ref b5), .val (.int (1 : Int32))] [])) _
    refine XS.iloadN X13.here hx rfl (hb hby own_d_prog_142_method_4_26) rfl ?_
    show Steps p.tables e below (T13.setTop (mkF m 27 #[.val (.ref a1), .val (.int (1 : Int32)), .val (.ref b5), .val (.int (1 : Int32))] [(.int (1 : Int32))])) _
    refine XS.aloadN X13.here hx rfl (hb hby own_d_prog_142_method_4_27) rfl rfl ?_
    exact kt
  obtain ⟨cl22, Ar22, S22, -⟩ := id f20
  obtain ⟨cl23, Ar23, S23, H23⟩ := id f14
  have hin23 : ¬ ((2 : Int32) < 0 ∨ cl23.slots.size ≤ ((2 : Int32)).toNatClampNeg) := own_inb S23 (by decide) (by decide)
  have hat23 : cl23.slots[((2 : Int32)).toNatClampNeg]? = some (.int x2) := H23 _ (by decide)
  obtain ⟨cl24, Ar24, S24, H24⟩ := id f20
  have hin24 : ¬ ((1 : Int32) < 0 ∨ cl24.slots.size ≤ ((1 : Int32)).toNatClampNeg) := own_inb S24 (by decide) (by decide)
  obtain ⟨T25, h25, X25, e25, W25, st25⟩ := stI X13 hx hZ e13 Ar24 (j := (1 : Int32)) hin24 (g := (mkF m 41 #[.val (.ref a1), .val (.int (1 : Int32)), .val (.ref b5), .val (.int (1 : Int32))] [(.int (x2 - (1 : Int32))), (.int (1 : Int32)), (.ref b5)])) rfl rfl (hb hby own_d_prog_142_method_4_41)
  have f26 := f14.other W25 ne_a1_b5
  have f27 := f15.wr W25
  have k29 := k17.wr W25 (Or.inr sz_b5)
  have nf30 := Fr.snoc X25 nf18 gn_b5
  have f31 := f20.set W25
  have f32 : own_A Z h25 b5 2 (own_v2 (x1 - (1 : Int32)) (x2 - (1 : Int32))) := f31.congr (fun j hj => by rcases j with _ | _ | j <;> first | rfl | (simp [own_upd]; done) | omega)
  have pre33 : ∀ t, Steps p.tables e below (T25.setTop (mkF m 42 #[.val (.ref a1), .val (.int (1 : Int32)), .val (.ref b5), .val (.int (1 : Int32))] [])) t → Steps p.tables e below (s₁.setTop (entryFrame m #[(.ref a1)] 4)) t := by
    intro t kt
    refine pre21 t ?_
    show Steps p.tables e below (T13.setTop (mkF m 28 #[.val (.ref a1), .val (.int (1 : Int32)), .val (.ref b5), .val (.int (1 : Int32))] [(.ref b5), (.int (1 : Int32))])) _
    refine X13.arraylength hx (by rw [e13]; exact Ar22.1) (State.isArrayOf_alike hZ.alike Ar22.2.1) (g := (mkF m 28 #[.val (.ref a1), .val (.int (1 : Int32)), .val (.ref b5), .val (.int (1 : Int32))] [(.ref b5), (.int (1 : Int32))])) rfl rfl (hb hby own_d_prog_142_method_4_28) _ ?_
    rw [own_len (z := (2 : Int32)) S22 rfl]
    show Steps p.tables e below (T13.setTop (mkF m 29 #[.val (.ref a1), .val (.int (1 : Int32)), .val (.ref b5), .val (.int (1 : Int32))] [(.int (2 : Int32)), (.int (1 : Int32))])) _
    refine XS.icmpNo X13.here hx rfl (hb hby own_d_prog_142_method_4_29) rfl (tlt (by decide : (1 : Int32) < (2 : Int32))).2.1 ?_
    show Steps p.tables e below (T13.setTop (mkF m 32 #[.val (.ref a1), .val (.int (1 : Int32)), .val (.ref b5), .val (.int (1 : Int32))] [])) _
    refine XS.aloadN X13.here hx rfl (hb hby own_d_prog_142_method_4_32) rfl rfl ?_
    show Steps p.tables e below (T13.setTop (mkF m 33 #[.val (.ref a1), .val (.int (1 : Int32)), .val (.ref b5), .val (.int (1 : Int32))] [(.ref b5)])) _
    refine XS.iloadN X13.here hx rfl (hb hby own_d_prog_142_method_4_33) rfl ?_
    show Steps p.tables e below (T13.setTop (mkF m 34 #[.val (.ref a1), .val (.int (1 : Int32)), .val (.ref b5), .val (.int (1 : Int32))] [(.int (1 : Int32)), (.ref b5)])) _
    refine XS.aloadN X13.here hx rfl (hb hby own_d_prog_142_method_4_34) rfl rfl ?_
    show Steps p.tables e below (T13.setTop (mkF m 35 #[.val (.ref a1), .val (.int (1 : Int32)), .val (.ref b5), .val (.int (1 : Int32))] [(.ref a1), (.int (1 : Int32)), (.ref b5)])) _
    refine XS.iloadN X13.here hx rfl (hb hby own_d_prog_142_method_4_35) rfl ?_
    show Steps p.tables e below (T13.setTop (mkF m 36 #[.val (.ref a1), .val (.int (1 : Int32)), .val (.ref b5), .val (.int (1 : Int32))] [(.int (1 : Int32)), (.ref a1), (.int (1 : Int32)), (.ref b5)])) _
    refine XS.iloadN X13.here hx rfl (hb hby own_d_prog_142_method_4_36) rfl ?_
    show Steps p.tables e below (T13.setTop (mkF m 37 #[.val (.ref a1), .val (.int (1 : Int32)), .val (.ref b5), .val (.int (1 : Int32))] [(.int (1 : Int32)), (.int (1 : Int32)), (.ref a1), (.int (1 : Int32)), (.ref b5)])) _
    refine XS.iadd X13.here hx rfl (hb hby own_d_prog_142_method_4_37) rfl ?_
    show Steps p.tables e below (T13.setTop (mkF m 38 #[.val (.ref a1), .val (.int (1 : Int32)), .val (.ref b5), .val (.int (1 : Int32))] [(.int (2 : Int32)), (.ref a1), (.int (1 : Int32)), (.ref b5)])) _
    refine X13.iaload hx (j := (2 : Int32)) (v := (.int x2)) (by rw [e13]; exact Ar23.1) (State.isArrayOf_alike hZ.alike Ar23.2.1) Ar23.2.2 hin23 hat23 (g := (mkF m 38 #[.val (.ref a1), .val (.int (1 : Int32)), .val (.ref b5), .val (.int (1 : Int32))] [(.int (2 : Int32)), (.ref a1), (.int (1 : Int32)), (.ref b5)])) rfl rfl (hb hby own_d_prog_142_method_4_38) _ ?_
    show Steps p.tables e below (T13.setTop (mkF m 39 #[.val (.ref a1), .val (.int (1 : Int32)), .val (.ref b5), .val (.int (1 : Int32))] [(.int x2), (.int (1 : Int32)), (.ref b5)])) _
    refine XS.iconst X13.here hx rfl (hb hby own_d_prog_142_method_4_39) ?_
    show Steps p.tables e below (T13.setTop (mkF m 40 #[.val (.ref a1), .val (.int (1 : Int32)), .val (.ref b5), .val (.int (1 : Int32))] [(.int (1 : Int32)), (.int x2), (.int (1 : Int32)), (.ref b5)])) _
    refine XS.isub X13.here hx rfl (hb hby own_d_prog_142_method_4_40) rfl ?_
    show Steps p.tables e below (T13.setTop (mkF m 41 #[.val (.ref a1), .val (.int (1 : Int32)), .val (.ref b5), .val (.int (1 : Int32))] [(.int (x2 - (1 : Int32))), (.int (1 : Int32)), (.ref b5)])) _
    refine st25 _ ?_
    exact kt
  obtain ⟨cl34, Ar34, S34, -⟩ := id f32
  obtain ⟨cl35, Ar35, S35, -⟩ := id f32
  have pre36 : ∀ t, Steps p.tables e below (T25.setTop (mkF m 60 #[.val (.ref a1), .val (.int (1 : Int32)), .val (.ref b5), .val (.int (2 : Int32))] [(.ref b5)])) t → Steps p.tables e below (s₁.setTop (entryFrame m #[(.ref a1)] 4)) t := by
    intro t kt
    refine pre33 t ?_
    show Steps p.tables e below (T25.setTop (mkF m 42 #[.val (.ref a1), .val (.int (1 : Int32)), .val (.ref b5), .val (.int (1 : Int32))] [])) _
    refine XS.iinc X25.here hx rfl (hb hby own_d_prog_142_method_4_42) rfl (l' := #[.val (.ref a1), .val (.int (1 : Int32)), .val (.ref b5), .val (.int (2 : Int32))]) rfl ?_
    show Steps p.tables e below (T25.setTop (mkF m 45 #[.val (.ref a1), .val (.int (1 : Int32)), .val (.ref b5), .val (.int (2 : Int32))] [])) _
    refine XS.goto X25.here hx rfl (pc0 := 45) (pc' := 26) rfl (hb hby own_d_prog_142_method_4_45) (by decide) (by decide) ?_
    show Steps p.tables e below (T25.setTop (mkF m 26 #[.val (.ref a1), .val (.int (1 : Int32)), .val (.ref b5), .val (.int (2 : Int32))] [])) _
    refine XS.iloadN X25.here hx rfl (hb hby own_d_prog_142_method_4_26) rfl ?_
    show Steps p.tables e below (T25.setTop (mkF m 27 #[.val (.ref a1), .val (.int (1 : Int32)), .val (.ref b5), .val (.int (2 : Int32))] [(.int (2 : Int32))])) _
    refine XS.aloadN X25.here hx rfl (hb hby own_d_prog_142_method_4_27) rfl rfl ?_
    show Steps p.tables e below (T25.setTop (mkF m 28 #[.val (.ref a1), .val (.int (1 : Int32)), .val (.ref b5), .val (.int (2 : Int32))] [(.ref b5), (.int (2 : Int32))])) _
    refine X25.arraylength hx (by rw [e25]; exact Ar34.1) (State.isArrayOf_alike hZ.alike Ar34.2.1) (g := (mkF m 28 #[.val (.ref a1), .val (.int (1 : Int32)), .val (.ref b5), .val (.int (2 : Int32))] [(.ref b5), (.int (2 : Int32))])) rfl rfl (hb hby own_d_prog_142_method_4_28) _ ?_
    rw [own_len (z := (2 : Int32)) S34 rfl]
    show Steps p.tables e below (T25.setTop (mkF m 29 #[.val (.ref a1), .val (.int (1 : Int32)), .val (.ref b5), .val (.int (2 : Int32))] [(.int (2 : Int32)), (.int (2 : Int32))])) _
    refine XS.icmpYes X25.here hx rfl (pc0 := 29) (pc' := 48) rfl (hb hby own_d_prog_142_method_4_29) rfl (flt (by decide : ¬ ((2 : Int32) < (2 : Int32)))).2.1 (by decide) (by decide) ?_
    show Steps p.tables e below (T25.setTop (mkF m 48 #[.val (.ref a1), .val (.int (1 : Int32)), .val (.ref b5), .val (.int (2 : Int32))] [])) _
    refine XS.aloadN X25.here hx rfl (hb hby own_d_prog_142_method_4_48) rfl rfl ?_
    show Steps p.tables e below (T25.setTop (mkF m 49 #[.val (.ref a1), .val (.int (1 : Int32)), .val (.ref b5), .val (.int (2 : Int32))] [(.ref b5)])) _
    refine X25.arraylength hx (by rw [e25]; exact Ar35.1) (State.isArrayOf_alike hZ.alike Ar35.2.1) (g := (mkF m 49 #[.val (.ref a1), .val (.int (1 : Int32)), .val (.ref b5), .val (.int (2 : Int32))] [(.ref b5)])) rfl rfl (hb hby own_d_prog_142_method_4_49) _ ?_
    rw [own_len (z := (2 : Int32)) S35 rfl]
    show Steps p.tables e below (T25.setTop (mkF m 50 #[.val (.ref a1), .val (.int (1 : Int32)), .val (.ref b5), .val (.int (2 : Int32))] [(.int (2 : Int32))])) _
    refine XS.ifYes X25.here hx rfl (pc0 := 50) (pc' := 59) rfl (hb hby own_d_prog_142_method_4_50) rfl ((if0 _ _).trans (feq (by decide : ¬ ((2 : Int32) = (0 : Int32)))).2) (by decide) (by decide) ?_
    show Steps p.tables e below (T25.setTop (mkF m 59 #[.val (.ref a1), .val (.int (1 : Int32)), .val (.ref b5), .val (.int (2 : Int32))] [])) _
    refine XS.aloadN X25.here hx rfl (hb hby own_d_prog_142_method_4_59) rfl rfl ?_
    exact kt
  obtain ⟨fs, hr, hrun, hended, hW, hsame⟩ := X25.leave (v := some (.ref b5)) (fun h => by rw [Bd.returns] at h; cases h)
  refine ⟨_, _, pre36 _ ?_, hrun, hended, _, _, rfl, ?_, ⟨_, rfl⟩, hW, hsame.mono (by decide) (by decide)⟩
  · show Steps p.tables e below (T25.setTop (mkF m 60 #[.val (.ref a1), .val (.int (1 : Int32)), .val (.ref b5), .val (.int (2 : Int32))] [(.ref b5)])) _
    jvm_step X25.here [X25.here.top, hx, (hb hby own_d_prog_142_method_4_60), X25.method', Bd.returns, Value.isRef, FieldType.isReference]
    first | (intro acts; rw [hr _ acts rfl rfl rfl]) | rw [hr _ _ rfl rfl rfl]
    exact Steps.refl _
  · show own_Q_oh3z Z a1 x0 x1 x2 h0 n0 (some (.ref b5)) T25.heap _
    rw [e25]
    exact ⟨_, rfl, nf30, k29, sz_b5, f32⟩
theorem own_sta_keep {Z : State} {h h' : Heap} {C n d : String} {v : Value} {ws : List Addr} (F : Sta Z h C n d v) (K : Keep h h' ws) (q : ∀ x ∈ ws, ∀ c : Cell, h[x]? = some c → c.vm.isStatics = false) : Sta Z h' C n d v := by
  obtain ⟨cf, i, k, f, st, cell, h1, h2, h3, h4, h5, h6, h7⟩ := F
  have ni : st ∉ ws := fun u => by
    have := q st u cell h5
    rw [this] at h6; exact absurd h6 (by decide)
  exact ⟨cf, i, k, f, st, cell, h1, h2, h3, h4, K.2.1 st cell h5 ni, h6, h7⟩
theorem own_pl_cons {Z : State} {h : Heap} {a : Addr} {C : String} {ws : List Addr} (E : Exa Z h a C) (q : ∀ x ∈ ws, ∀ c : Cell, h[x]? = some c → c.vm.isStatics = false) : ∀ x ∈ a :: ws, ∀ c : Cell, h[x]? = some c → c.vm.isStatics = false := fun x hx c hc => by
  rcases List.mem_cons.mp hx with rfl | hx
  · obtain ⟨cell, k, e1, -, -, e4, -⟩ := E
    cases hc.symm.trans e1; exact e4
  · exact q x hx c hc
theorem own_pd0 : parseMethodDescriptor "([I)[I" = some ⟨[(.array .int)], some (.array .int)⟩ := by decide +kernel
theorem own_pn1 : plainName "com/example/unfold/unfold/semantics/GateSetsOutsideHidePinLaw" = true := by first | (simp [plainName, overriddenIn]; done) | decide +kernel
theorem own_ef_law (m : MethodId) (p0 : Int32) (p1 : Int32) (p2 : Int32) (p3 : Int32) : entryFrame m #[(.int p0), (.int p1), (.int p2), (.int p3)] maxLocals = mkF m 0 #[.val (.int p0), .val (.int p1), .val (.int p2), .val (.int p3), .unset, .unset, .unset, .unset, .unset, .unset, .unset, .unset, .unset, .unset, .unset] [] := by first | (simp [entryFrame, mkF, argsToLocals, Value.category, maxLocals]; done) | rfl
def own_Q_law (Z : State) (p0 : Int32) (p1 : Int32) (p2 : Int32) (p3 : Int32) (aS : Addr) (h0 : Heap) (n0 : Nat) (v : Option Value) (h : Heap) (L : List Loc) : Prop := v = some (.int 1) ∧ Fr n0 L
set_option maxRecDepth 65536 in
set_option maxHeartbeats 40000000 in
theorem own_rm_law (l : Launch) (Z : State) (a0 : Array Value) (hw : ∀ d ∈ tables_1, d.before a0 Z = true) (ws : List Jvm.Cond) (p0 : Int32) (p1 : Int32) (p2 : Int32) (p3 : Int32) (aS : Addr) (h0 : Heap) (n0 : Nat) (Z0 : n0 ≤ h0.size) (S0 : Sta Z h0 "com/example/unfold/unfold/semantics/GateSets" "EMPTY" "[I" (.ref aS)) (AS : own_A Z h0 aS 0 own_v0) :
    MetFree l x (head1 (Jvm.Cond.code x code maxLocals ret :: ws) room_1) (fun a U => a = #[(.int p0), (.int p1), (.int p2), (.int p3)] ∧ Z.Warmed39 U.vm ∧ U.heap = h0) (fun _ _ _ _ _ => True) (fun _ U o U' => ∃ v L, o = .returned v ∧ own_Q_law Z p0 p1 p2 p3 aS h0 n0 v U'.heap L ∧ FrameEnd U o U' L room_1.cells room_1.slots) := by
  refine MetFree.of_bodySF (plainFor_of_name own_pn1) hisR ?_
  intro p e s m args below meth c s₁ Bd hml0 hP hK
  obtain ⟨rfl, hZ, hh⟩ := hP
  have hx := Bd.exec
  have hby := Bd.bytes
  have hml : c.maxLocals = 15 := hml0
  have hown : s.vm.findClass "com/example/unfold/unfold/semantics/GateSetsOutsideHidePinLaw" = some m.cls := findClass_of_methodNamed Bd.named
  have hnm := (name_of_methodNamed Bd.named Bd.method).1
  have X0 : Stand p l e room_1 s m #[(.int p0), (.int p1), (.int p2), (.int p3)] below meth c s₁ [] 0 0 := Stand.of_body Bd
  have e0 : s₁.heap = h0 := by rw [← hh, Bd.state]; rfl
  have N0 := Fr.nil n0
  have K0 : Keep h0 h0 [] := Keep.refl _ _
  have pre0 : ∀ t, Steps p.tables e below (s₁.setTop (mkF m 0 #[.val (.int p0), .val (.int p1), .val (.int p2), .val (.int p3), .unset, .unset, .unset, .unset, .unset, .unset, .unset, .unset, .unset, .unset, .unset] [])) t → Steps p.tables e below (s₁.setTop (entryFrame m #[(.int p0), (.int p1), (.int p2), (.int p3)] maxLocals)) t := fun t k => castTop (own_ef_law m p0 p1 p2 p3) k
  have pre1 : ∀ t, Steps p.tables e below (s₁.setTop (mkF m 16 #[.val (.int p0), .val (.int p1), .val (.int p2), .val (.int p3), .val (.int (p0 &&& (3 : Int32))), .val (.int (p1 &&& (1073741823 : Int32))), .unset, .unset, .unset, .unset, .unset, .unset, .unset, .unset, .unset] [(.int p2), (.int ((p1 &&& (1073741823 : Int32)) + (1 : Int32)))])) t → Steps p.tables e below (s₁.setTop (entryFrame m #[(.int p0), (.int p1), (.int p2), (.int p3)] maxLocals)) t := by
    intro t kt
    refine pre0 t ?_
    show Steps p.tables e below (s₁.setTop (mkF m 0 #[.val (.int p0), .val (.int p1), .val (.int p2), .val (.int p3), .unset, .unset, .unset, .unset, .unset, .unset, .unset, .unset, .unset, .unset, .unset] [])) _
    refine XS.iloadN X0.here hx rfl (hb hby at_0) rfl ?_
    show Steps p.tables e below (s₁.setTop (mkF m 1 #[.val (.int p0), .val (.int p1), .val (.int p2), .val (.int p3), .unset, .unset, .unset, .unset, .unset, .unset, .unset, .unset, .unset, .unset, .unset] [(.int p0)])) _
    refine XS.iconst X0.here hx rfl (hb hby at_1) ?_
    show Steps p.tables e below (s₁.setTop (mkF m 2 #[.val (.int p0), .val (.int p1), .val (.int p2), .val (.int p3), .unset, .unset, .unset, .unset, .unset, .unset, .unset, .unset, .unset, .unset, .unset] [(.int (3 : Int32)), (.int p0)])) _
    refine XS.iand X0.here hx rfl (hb hby at_2) rfl ?_
    show Steps p.tables e below (s₁.setTop (mkF m 3 #[.val (.int p0), .val (.int p1), .val (.int p2), .val (.int p3), .unset, .unset, .unset, .unset, .unset, .unset, .unset, .unset, .unset, .unset, .unset] [(.int (p0 &&& (3 : Int32)))])) _
    refine XS.istore X0.here hx rfl (hb hby at_3) rfl (l' := #[.val (.int p0), .val (.int p1), .val (.int p2), .val (.int p3), .val (.int (p0 &&& (3 : Int32))), .unset, .unset, .unset, .unset, .unset, .unset, .unset, .unset, .unset, .unset]) rfl ?_
    show Steps p.tables e below (s₁.setTop (mkF m 5 #[.val (.int p0), .val (.int p1), .val (.int p2), .val (.int p3), .val (.int (p0 &&& (3 : Int32))), .unset, .unset, .unset, .unset, .unset, .unset, .unset, .unset, .unset, .unset] [])) _
    refine XS.iloadN X0.here hx rfl (hb hby at_5) rfl ?_
    show Steps p.tables e below (s₁.setTop (mkF m 6 #[.val (.int p0), .val (.int p1), .val (.int p2), .val (.int p3), .val (.int (p0 &&& (3 : Int32))), .unset, .unset, .unset, .unset, .unset, .unset, .unset, .unset, .unset, .unset] [(.int p1)])) _
    refine X0.ldcI hx hown (mvT hZ (hw _ (List.mem_of_getElem? (i := 0) rfl))) (g := (mkF m 6 #[.val (.int p0), .val (.int p1), .val (.int p2), .val (.int p3), .val (.int (p0 &&& (3 : Int32))), .unset, .unset, .unset, .unset, .unset, .unset, .unset, .unset, .unset, .unset] [(.int p1)])) rfl (hb hby at_6) ?_
    show Steps p.tables e below (s₁.setTop (mkF m 8 #[.val (.int p0), .val (.int p1), .val (.int p2), .val (.int p3), .val (.int (p0 &&& (3 : Int32))), .unset, .unset, .unset, .unset, .unset, .unset, .unset, .unset, .unset, .unset] [(.int (1073741823 : Int32)), (.int p1)])) _
    refine XS.iand X0.here hx rfl (hb hby at_8) rfl ?_
    show Steps p.tables e below (s₁.setTop (mkF m 9 #[.val (.int p0), .val (.int p1), .val (.int p2), .val (.int p3), .val (.int (p0 &&& (3 : Int32))), .unset, .unset, .unset, .unset, .unset, .unset, .unset, .unset, .unset, .unset] [(.int (p1 &&& (1073741823 : Int32)))])) _
    refine XS.istore X0.here hx rfl (hb hby at_9) rfl (l' := #[.val (.int p0), .val (.int p1), .val (.int p2), .val (.int p3), .val (.int (p0 &&& (3 : Int32))), .val (.int (p1 &&& (1073741823 : Int32))), .unset, .unset, .unset, .unset, .unset, .unset, .unset, .unset, .unset]) rfl ?_
    show Steps p.tables e below (s₁.setTop (mkF m 11 #[.val (.int p0), .val (.int p1), .val (.int p2), .val (.int p3), .val (.int (p0 &&& (3 : Int32))), .val (.int (p1 &&& (1073741823 : Int32))), .unset, .unset, .unset, .unset, .unset, .unset, .unset, .unset, .unset] [])) _
    refine XS.iload X0.here hx rfl (hb hby at_11) rfl ?_
    show Steps p.tables e below (s₁.setTop (mkF m 13 #[.val (.int p0), .val (.int p1), .val (.int p2), .val (.int p3), .val (.int (p0 &&& (3 : Int32))), .val (.int (p1 &&& (1073741823 : Int32))), .unset, .unset, .unset, .unset, .unset, .unset, .unset, .unset, .unset] [(.int (p1 &&& (1073741823 : Int32)))])) _
    refine XS.iconst X0.here hx rfl (hb hby at_13) ?_
    show Steps p.tables e below (s₁.setTop (mkF m 14 #[.val (.int p0), .val (.int p1), .val (.int p2), .val (.int p3), .val (.int (p0 &&& (3 : Int32))), .val (.int (p1 &&& (1073741823 : Int32))), .unset, .unset, .unset, .unset, .unset, .unset, .unset, .unset, .unset] [(.int (1 : Int32)), (.int (p1 &&& (1073741823 : Int32)))])) _
    refine XS.iadd X0.here hx rfl (hb hby at_14) rfl ?_
    show Steps p.tables e below (s₁.setTop (mkF m 15 #[.val (.int p0), .val (.int p1), .val (.int p2), .val (.int p3), .val (.int (p0 &&& (3 : Int32))), .val (.int (p1 &&& (1073741823 : Int32))), .unset, .unset, .unset, .unset, .unset, .unset, .unset, .unset, .unset] [(.int ((p1 &&& (1073741823 : Int32)) + (1 : Int32)))])) _
    refine XS.iloadN X0.here hx rfl (hb hby at_15) rfl ?_
    exact kt
  have pre2 : ∀ t, Steps p.tables e below (s₁.setTop (mkF m 33 #[.val (.int p0), .val (.int p1), .val (.int p2), .val (.int p3), .val (.int (p0 &&& (3 : Int32))), .val (.int (p1 &&& (1073741823 : Int32))), .val (.int (((p1 &&& (1073741823 : Int32)) + (1 : Int32)) + (p2 &&& (536870911 : Int32)))), .val (.int (((((p1 &&& (1073741823 : Int32)) + (1 : Int32)) + (p2 &&& (536870911 : Int32))) + (1 : Int32)) + (p3 &&& (536870911 : Int32)))), .unset, .unset, .unset, .unset, .unset, .unset, .unset] [])) t → Steps p.tables e below (s₁.setTop (entryFrame m #[(.int p0), (.int p1), (.int p2), (.int p3)] maxLocals)) t := by
    intro t kt
    refine pre1 t ?_
    show Steps p.tables e below (s₁.setTop (mkF m 16 #[.val (.int p0), .val (.int p1), .val (.int p2), .val (.int p3), .val (.int (p0 &&& (3 : Int32))), .val (.int (p1 &&& (1073741823 : Int32))), .unset, .unset, .unset, .unset, .unset, .unset, .unset, .unset, .unset] [(.int p2), (.int ((p1 &&& (1073741823 : Int32)) + (1 : Int32)))])) _
    refine X0.ldcI hx hown (mvT hZ (hw _ (List.mem_of_getElem? (i := 1) rfl))) (g := (mkF m 16 #[.val (.int p0), .val (.int p1), .val (.int p2), .val (.int p3), .val (.int (p0 &&& (3 : Int32))), .val (.int (p1 &&& (1073741823 : Int32))), .unset, .unset, .unset, .unset, .unset, .unset, .unset, .unset, .unset] [(.int p2), (.int ((p1 &&& (1073741823 : Int32)) + (1 : Int32)))])) rfl (hb hby at_16) ?_
    show Steps p.tables e below (s₁.setTop (mkF m 18 #[.val (.int p0), .val (.int p1), .val (.int p2), .val (.int p3), .val (.int (p0 &&& (3 : Int32))), .val (.int (p1 &&& (1073741823 : Int32))), .unset, .unset, .unset, .unset, .unset, .unset, .unset, .unset, .unset] [(.int (536870911 : Int32)), (.int p2), (.int ((p1 &&& (1073741823 : Int32)) + (1 : Int32)))])) _
    refine XS.iand X0.here hx rfl (hb hby at_18) rfl ?_
    show Steps p.tables e below (s₁.setTop (mkF m 19 #[.val (.int p0), .val (.int p1), .val (.int p2), .val (.int p3), .val (.int (p0 &&& (3 : Int32))), .val (.int (p1 &&& (1073741823 : Int32))), .unset, .unset, .unset, .unset, .unset, .unset, .unset, .unset, .unset] [(.int (p2 &&& (536870911 : Int32))), (.int ((p1 &&& (1073741823 : Int32)) + (1 : Int32)))])) _
    refine XS.iadd X0.here hx rfl (hb hby at_19) rfl ?_
    show Steps p.tables e below (s₁.setTop (mkF m 20 #[.val (.int p0), .val (.int p1), .val (.int p2), .val (.int p3), .val (.int (p0 &&& (3 : Int32))), .val (.int (p1 &&& (1073741823 : Int32))), .unset, .unset, .unset, .unset, .unset, .unset, .unset, .unset, .unset] [(.int (((p1 &&& (1073741823 : Int32)) + (1 : Int32)) + (p2 &&& (536870911 : Int32))))])) _
    refine XS.istore X0.here hx rfl (hb hby at_20) rfl (l' := #[.val (.int p0), .val (.int p1), .val (.int p2), .val (.int p3), .val (.int (p0 &&& (3 : Int32))), .val (.int (p1 &&& (1073741823 : Int32))), .val (.int (((p1 &&& (1073741823 : Int32)) + (1 : Int32)) + (p2 &&& (536870911 : Int32)))), .unset, .unset, .unset, .unset, .unset, .unset, .unset, .unset]) rfl ?_
    show Steps p.tables e below (s₁.setTop (mkF m 22 #[.val (.int p0), .val (.int p1), .val (.int p2), .val (.int p3), .val (.int (p0 &&& (3 : Int32))), .val (.int (p1 &&& (1073741823 : Int32))), .val (.int (((p1 &&& (1073741823 : Int32)) + (1 : Int32)) + (p2 &&& (536870911 : Int32)))), .unset, .unset, .unset, .unset, .unset, .unset, .unset, .unset] [])) _
    refine XS.iload X0.here hx rfl (hb hby at_22) rfl ?_
    show Steps p.tables e below (s₁.setTop (mkF m 24 #[.val (.int p0), .val (.int p1), .val (.int p2), .val (.int p3), .val (.int (p0 &&& (3 : Int32))), .val (.int (p1 &&& (1073741823 : Int32))), .val (.int (((p1 &&& (1073741823 : Int32)) + (1 : Int32)) + (p2 &&& (536870911 : Int32)))), .unset, .unset, .unset, .unset, .unset, .unset, .unset, .unset] [(.int (((p1 &&& (1073741823 : Int32)) + (1 : Int32)) + (p2 &&& (536870911 : Int32))))])) _
    refine XS.iconst X0.here hx rfl (hb hby at_24) ?_
    show Steps p.tables e below (s₁.setTop (mkF m 25 #[.val (.int p0), .val (.int p1), .val (.int p2), .val (.int p3), .val (.int (p0 &&& (3 : Int32))), .val (.int (p1 &&& (1073741823 : Int32))), .val (.int (((p1 &&& (1073741823 : Int32)) + (1 : Int32)) + (p2 &&& (536870911 : Int32)))), .unset, .unset, .unset, .unset, .unset, .unset, .unset, .unset] [(.int (1 : Int32)), (.int (((p1 &&& (1073741823 : Int32)) + (1 : Int32)) + (p2 &&& (536870911 : Int32))))])) _
    refine XS.iadd X0.here hx rfl (hb hby at_25) rfl ?_
    show Steps p.tables e below (s₁.setTop (mkF m 26 #[.val (.int p0), .val (.int p1), .val (.int p2), .val (.int p3), .val (.int (p0 &&& (3 : Int32))), .val (.int (p1 &&& (1073741823 : Int32))), .val (.int (((p1 &&& (1073741823 : Int32)) + (1 : Int32)) + (p2 &&& (536870911 : Int32)))), .unset, .unset, .unset, .unset, .unset, .unset, .unset, .unset] [(.int ((((p1 &&& (1073741823 : Int32)) + (1 : Int32)) + (p2 &&& (536870911 : Int32))) + (1 : Int32)))])) _
    refine XS.iloadN X0.here hx rfl (hb hby at_26) rfl ?_
    show Steps p.tables e below (s₁.setTop (mkF m 27 #[.val (.int p0), .val (.int p1), .val (.int p2), .val (.int p3), .val (.int (p0 &&& (3 : Int32))), .val (.int (p1 &&& (1073741823 : Int32))), .val (.int (((p1 &&& (1073741823 : Int32)) + (1 : Int32)) + (p2 &&& (536870911 : Int32)))), .unset, .unset, .unset, .unset, .unset, .unset, .unset, .unset] [(.int p3), (.int ((((p1 &&& (1073741823 : Int32)) + (1 : Int32)) + (p2 &&& (536870911 : Int32))) + (1 : Int32)))])) _
    refine X0.ldcI hx hown (mvT hZ (hw _ (List.mem_of_getElem? (i := 1) rfl))) (g := (mkF m 27 #[.val (.int p0), .val (.int p1), .val (.int p2), .val (.int p3), .val (.int (p0 &&& (3 : Int32))), .val (.int (p1 &&& (1073741823 : Int32))), .val (.int (((p1 &&& (1073741823 : Int32)) + (1 : Int32)) + (p2 &&& (536870911 : Int32)))), .unset, .unset, .unset, .unset, .unset, .unset, .unset, .unset] [(.int p3), (.int ((((p1 &&& (1073741823 : Int32)) + (1 : Int32)) + (p2 &&& (536870911 : Int32))) + (1 : Int32)))])) rfl (hb hby at_27) ?_
    show Steps p.tables e below (s₁.setTop (mkF m 29 #[.val (.int p0), .val (.int p1), .val (.int p2), .val (.int p3), .val (.int (p0 &&& (3 : Int32))), .val (.int (p1 &&& (1073741823 : Int32))), .val (.int (((p1 &&& (1073741823 : Int32)) + (1 : Int32)) + (p2 &&& (536870911 : Int32)))), .unset, .unset, .unset, .unset, .unset, .unset, .unset, .unset] [(.int (536870911 : Int32)), (.int p3), (.int ((((p1 &&& (1073741823 : Int32)) + (1 : Int32)) + (p2 &&& (536870911 : Int32))) + (1 : Int32)))])) _
    refine XS.iand X0.here hx rfl (hb hby at_29) rfl ?_
    show Steps p.tables e below (s₁.setTop (mkF m 30 #[.val (.int p0), .val (.int p1), .val (.int p2), .val (.int p3), .val (.int (p0 &&& (3 : Int32))), .val (.int (p1 &&& (1073741823 : Int32))), .val (.int (((p1 &&& (1073741823 : Int32)) + (1 : Int32)) + (p2 &&& (536870911 : Int32)))), .unset, .unset, .unset, .unset, .unset, .unset, .unset, .unset] [(.int (p3 &&& (536870911 : Int32))), (.int ((((p1 &&& (1073741823 : Int32)) + (1 : Int32)) + (p2 &&& (536870911 : Int32))) + (1 : Int32)))])) _
    refine XS.iadd X0.here hx rfl (hb hby at_30) rfl ?_
    show Steps p.tables e below (s₁.setTop (mkF m 31 #[.val (.int p0), .val (.int p1), .val (.int p2), .val (.int p3), .val (.int (p0 &&& (3 : Int32))), .val (.int (p1 &&& (1073741823 : Int32))), .val (.int (((p1 &&& (1073741823 : Int32)) + (1 : Int32)) + (p2 &&& (536870911 : Int32)))), .unset, .unset, .unset, .unset, .unset, .unset, .unset, .unset] [(.int (((((p1 &&& (1073741823 : Int32)) + (1 : Int32)) + (p2 &&& (536870911 : Int32))) + (1 : Int32)) + (p3 &&& (536870911 : Int32))))])) _
    refine XS.istore X0.here hx rfl (hb hby at_31) rfl (l' := #[.val (.int p0), .val (.int p1), .val (.int p2), .val (.int p3), .val (.int (p0 &&& (3 : Int32))), .val (.int (p1 &&& (1073741823 : Int32))), .val (.int (((p1 &&& (1073741823 : Int32)) + (1 : Int32)) + (p2 &&& (536870911 : Int32)))), .val (.int (((((p1 &&& (1073741823 : Int32)) + (1 : Int32)) + (p2 &&& (536870911 : Int32))) + (1 : Int32)) + (p3 &&& (536870911 : Int32)))), .unset, .unset, .unset, .unset, .unset, .unset, .unset]) rfl ?_
    exact kt
  have pre3 : ∀ t, Steps p.tables e below (s₁.setTop (mkF m 33 #[.val (.int p0), .val (.int p1), .val (.int p2), .val (.int p3), .val (.int (own_n p0)), .val (.int (own_e0 p1)), .val (.int (own_e1 p1 p2)), .val (.int (own_e2 p1 p2 p3)), .unset, .unset, .unset, .unset, .unset, .unset, .unset] [])) t → Steps p.tables e below (s₁.setTop (entryFrame m #[(.int p0), (.int p1), (.int p2), (.int p3)] maxLocals)) t := by
    intro t kt
    refine pre2 t ?_
    show Steps p.tables e below (s₁.setTop (mkF m 33 #[.val (.int p0), .val (.int p1), .val (.int p2), .val (.int p3), .val (.int (p0 &&& (3 : Int32))), .val (.int (p1 &&& (1073741823 : Int32))), .val (.int (((p1 &&& (1073741823 : Int32)) + (1 : Int32)) + (p2 &&& (536870911 : Int32)))), .val (.int (((((p1 &&& (1073741823 : Int32)) + (1 : Int32)) + (p2 &&& (536870911 : Int32))) + (1 : Int32)) + (p3 &&& (536870911 : Int32)))), .unset, .unset, .unset, .unset, .unset, .unset, .unset] [])) _
    exact kt
  rcases own_nc p0 with hn0 | hn1 | hn2 | hn3
  · have pre4 : ∀ t, Steps p.tables e below (s₁.setTop (mkF m 33 #[.val (.int p0), .val (.int p1), .val (.int p2), .val (.int p3), .val (.int (0 : Int32)), .val (.int (own_e0 p1)), .val (.int (own_e1 p1 p2)), .val (.int (own_e2 p1 p2 p3)), .unset, .unset, .unset, .unset, .unset, .unset, .unset] [])) t → Steps p.tables e below (s₁.setTop (entryFrame m #[(.int p0), (.int p1), (.int p2), (.int p3)] maxLocals)) t := by
      intro t kt
      refine pre3 t ?_
      rw [hn0]
      exact kt
    obtain ⟨T5, h5, k5, X5, e5, E5, A5, I5, st5⟩ := newPE X0 hx hZ (hw _ (List.mem_of_getElem? (i := 2) rfl)) e0 (g := (mkF m 39 #[.val (.int p0), .val (.int p1), .val (.int p2), .val (.int p3), .val (.int (0 : Int32)), .val (.int (own_e0 p1)), .val (.int (own_e1 p1 p2)), .val (.int (own_e2 p1 p2 p3)), .unset, .unset, .unset, .unset, .unset, .unset, .unset] [(.int (0 : Int32))])) rfl (hb hby at_39) rfl (by decide) (cap := 0) (by decide) (by decide) (by decide) (by decide) (ad := "[I") rfl
    obtain ⟨b5, g5⟩ : ∃ z, z = h0.size := ⟨_, rfl⟩
    rw [← g5] at A5 I5 st5
    have sz_b5 : h0.size ≤ b5 := Nat.le_trans K0.1 (Nat.le_of_eq g5.symm)
    have gn_b5 : n0 ≤ b5 := Nat.le_trans Z0 sz_b5
    have ne_aS_b5 : aS ≠ b5 := Nat.ne_of_lt (Nat.lt_of_lt_of_le AS.lt (Nat.le_of_eq g5.symm))
    have f6 := S0.ext E5
    have f7 := AS.ext E5
    have k8 := K0.ext E5
    have f9 : own_A Z h5 b5 0 own_v0 := (own_A.new A5 rfl).congr (fun j hj => by rcases j with j <;> first | rfl | (simp [own_upd]; done) | omega)
    obtain ⟨T10, h10, k10, X10, e10, E10, A10, I10, st10⟩ := newPE X5 hx hZ (hw _ (List.mem_of_getElem? (i := 2) rfl)) e5 (g := (mkF m 110 #[.val (.int p0), .val (.int p1), .val (.int p2), .val (.int p3), .val (.int (0 : Int32)), .val (.int (own_e0 p1)), .val (.int (own_e1 p1 p2)), .val (.int (own_e2 p1 p2 p3)), .val (.ref b5), .unset, .unset, .unset, .unset, .unset, .unset] [(.int (3 : Int32))])) rfl (hb hby at_110) rfl (by decide) (cap := 3) (by decide) (by decide) (by decide) (by decide) (ad := "[I") rfl
    obtain ⟨b10, g10⟩ : ∃ z, z = h5.size := ⟨_, rfl⟩
    rw [← g10] at A10 I10 st10
    have sz_b10 : h0.size ≤ b10 := Nat.le_trans k8.1 (Nat.le_of_eq g10.symm)
    have gn_b10 : n0 ≤ b10 := Nat.le_trans Z0 sz_b10
    have ne_aS_b10 : aS ≠ b10 := Nat.ne_of_lt (Nat.lt_of_lt_of_le f7.lt (Nat.le_of_eq g10.symm))
    have ne_b5_b10 : b5 ≠ b10 := Nat.ne_of_lt (Nat.lt_of_lt_of_le f9.lt (Nat.le_of_eq g10.symm))
    have f11 := f6.ext E10
    have f12 := f7.ext E10
    have f13 := I5.ext E10
    have f14 := f9.ext E10
    have k15 := k8.ext E10
    have f16 : own_A Z h10 b10 3 (own_v3 (0 : Int32) (0 : Int32) (0 : Int32)) := (own_A.new A10 rfl).congr (fun j hj => by rcases j with _ | _ | _ | j <;> first | rfl | (simp [own_upd]; done) | omega)
    obtain ⟨cl17, Ar17, S17, H17⟩ := id f16
    have hin17 : ¬ ((0 : Int32) < 0 ∨ cl17.slots.size ≤ ((0 : Int32)).toNatClampNeg) := own_inb S17 (by decide) (by decide)
    obtain ⟨T18, h18, X18, e18, W18, st18⟩ := stI X10 hx hZ e10 Ar17 (j := (0 : Int32)) hin17 (g := (mkF m 116 #[.val (.int p0), .val (.int p1), .val (.int p2), .val (.int p3), .val (.int (0 : Int32)), .val (.int (own_e0 p1)), .val (.int (own_e1 p1 p2)), .val (.int (own_e2 p1 p2 p3)), .val (.ref b5), .unset, .unset, .unset, .unset, .unset, .unset] [(.int (own_e0 p1)), (.int (0 : Int32)), (.ref b10), (.ref b10)])) rfl rfl (hb hby at_116)
    have f19 := f11.wr W18
    have f20 := f12.other W18 ne_aS_b10
    have f21 := f13.wr W18
    have f22 := f14.other W18 ne_b5_b10
    have f23 := I10.wr W18
    have k25 := k15.wr W18 (Or.inr sz_b10)
    have nf26 := Fr.snoc X18 N0 gn_b10
    have f27 := f16.set W18
    have f28 : own_A Z h18 b10 3 (own_v3 (own_e0 p1) (0 : Int32) (0 : Int32)) := f27.congr (fun j hj => by rcases j with _ | _ | _ | j <;> first | rfl | (simp [own_upd]; done) | omega)
    have pre29 : ∀ t, Steps p.tables e below (T18.setTop (mkF m 117 #[.val (.int p0), .val (.int p1), .val (.int p2), .val (.int p3), .val (.int (0 : Int32)), .val (.int (own_e0 p1)), .val (.int (own_e1 p1 p2)), .val (.int (own_e2 p1 p2 p3)), .val (.ref b5), .unset, .unset, .unset, .unset, .unset, .unset] [(.ref b10)])) t → Steps p.tables e below (s₁.setTop (entryFrame m #[(.int p0), (.int p1), (.int p2), (.int p3)] maxLocals)) t := by
      intro t kt
      refine pre4 t ?_
      show Steps p.tables e below (s₁.setTop (mkF m 33 #[.val (.int p0), .val (.int p1), .val (.int p2), .val (.int p3), .val (.int (0 : Int32)), .val (.int (own_e0 p1)), .val (.int (own_e1 p1 p2)), .val (.int (own_e2 p1 p2 p3)), .unset, .unset, .unset, .unset, .unset, .unset, .unset] [])) _
      refine XS.iload X0.here hx rfl (hb hby at_33) rfl ?_
      show Steps p.tables e below (s₁.setTop (mkF m 35 #[.val (.int p0), .val (.int p1), .val (.int p2), .val (.int p3), .val (.int (0 : Int32)), .val (.int (own_e0 p1)), .val (.int (own_e1 p1 p2)), .val (.int (own_e2 p1 p2 p3)), .unset, .unset, .unset, .unset, .unset, .unset, .unset] [(.int (0 : Int32))])) _
      refine XS.ifNo X0.here hx rfl (hb hby at_35) rfl ((if0 _ _).trans (teq (rfl : (0 : Int32) = (0 : Int32))).2) ?_
      show Steps p.tables e below (s₁.setTop (mkF m 38 #[.val (.int p0), .val (.int p1), .val (.int p2), .val (.int p3), .val (.int (0 : Int32)), .val (.int (own_e0 p1)), .val (.int (own_e1 p1 p2)), .val (.int (own_e2 p1 p2 p3)), .unset, .unset, .unset, .unset, .unset, .unset, .unset] [])) _
      refine XS.iconst X0.here hx rfl (hb hby at_38) ?_
      show Steps p.tables e below (s₁.setTop (mkF m 39 #[.val (.int p0), .val (.int p1), .val (.int p2), .val (.int p3), .val (.int (0 : Int32)), .val (.int (own_e0 p1)), .val (.int (own_e1 p1 p2)), .val (.int (own_e2 p1 p2 p3)), .unset, .unset, .unset, .unset, .unset, .unset, .unset] [(.int (0 : Int32))])) _
      refine st5 _ ?_
      show Steps p.tables e below (T5.setTop (mkF m 41 #[.val (.int p0), .val (.int p1), .val (.int p2), .val (.int p3), .val (.int (0 : Int32)), .val (.int (own_e0 p1)), .val (.int (own_e1 p1 p2)), .val (.int (own_e2 p1 p2 p3)), .unset, .unset, .unset, .unset, .unset, .unset, .unset] [(.ref b5)])) _
      refine XS.astore X5.here hx rfl (hb hby at_41) rfl rfl (l' := #[.val (.int p0), .val (.int p1), .val (.int p2), .val (.int p3), .val (.int (0 : Int32)), .val (.int (own_e0 p1)), .val (.int (own_e1 p1 p2)), .val (.int (own_e2 p1 p2 p3)), .val (.ref b5), .unset, .unset, .unset, .unset, .unset, .unset]) rfl ?_
      show Steps p.tables e below (T5.setTop (mkF m 43 #[.val (.int p0), .val (.int p1), .val (.int p2), .val (.int p3), .val (.int (0 : Int32)), .val (.int (own_e0 p1)), .val (.int (own_e1 p1 p2)), .val (.int (own_e2 p1 p2 p3)), .val (.ref b5), .unset, .unset, .unset, .unset, .unset, .unset] [])) _
      refine XS.goto X5.here hx rfl (pc0 := 43) (pc' := 109) rfl (hb hby at_43) (by decide) (by decide) ?_
      show Steps p.tables e below (T5.setTop (mkF m 109 #[.val (.int p0), .val (.int p1), .val (.int p2), .val (.int p3), .val (.int (0 : Int32)), .val (.int (own_e0 p1)), .val (.int (own_e1 p1 p2)), .val (.int (own_e2 p1 p2 p3)), .val (.ref b5), .unset, .unset, .unset, .unset, .unset, .unset] [])) _
      refine XS.iconst X5.here hx rfl (hb hby at_109) ?_
      show Steps p.tables e below (T5.setTop (mkF m 110 #[.val (.int p0), .val (.int p1), .val (.int p2), .val (.int p3), .val (.int (0 : Int32)), .val (.int (own_e0 p1)), .val (.int (own_e1 p1 p2)), .val (.int (own_e2 p1 p2 p3)), .val (.ref b5), .unset, .unset, .unset, .unset, .unset, .unset] [(.int (3 : Int32))])) _
      refine st10 _ ?_
      show Steps p.tables e below (T10.setTop (mkF m 112 #[.val (.int p0), .val (.int p1), .val (.int p2), .val (.int p3), .val (.int (0 : Int32)), .val (.int (own_e0 p1)), .val (.int (own_e1 p1 p2)), .val (.int (own_e2 p1 p2 p3)), .val (.ref b5), .unset, .unset, .unset, .unset, .unset, .unset] [(.ref b10)])) _
      refine XS.dup X10.here hx rfl (hb hby at_112) rfl rfl ?_
      show Steps p.tables e below (T10.setTop (mkF m 113 #[.val (.int p0), .val (.int p1), .val (.int p2), .val (.int p3), .val (.int (0 : Int32)), .val (.int (own_e0 p1)), .val (.int (own_e1 p1 p2)), .val (.int (own_e2 p1 p2 p3)), .val (.ref b5), .unset, .unset, .unset, .unset, .unset, .unset] [(.ref b10), (.ref b10)])) _
      refine XS.iconst X10.here hx rfl (hb hby at_113) ?_
      show Steps p.tables e below (T10.setTop (mkF m 114 #[.val (.int p0), .val (.int p1), .val (.int p2), .val (.int p3), .val (.int (0 : Int32)), .val (.int (own_e0 p1)), .val (.int (own_e1 p1 p2)), .val (.int (own_e2 p1 p2 p3)), .val (.ref b5), .unset, .unset, .unset, .unset, .unset, .unset] [(.int (0 : Int32)), (.ref b10), (.ref b10)])) _
      refine XS.iload X10.here hx rfl (hb hby at_114) rfl ?_
      show Steps p.tables e below (T10.setTop (mkF m 116 #[.val (.int p0), .val (.int p1), .val (.int p2), .val (.int p3), .val (.int (0 : Int32)), .val (.int (own_e0 p1)), .val (.int (own_e1 p1 p2)), .val (.int (own_e2 p1 p2 p3)), .val (.ref b5), .unset, .unset, .unset, .unset, .unset, .unset] [(.int (own_e0 p1)), (.int (0 : Int32)), (.ref b10), (.ref b10)])) _
      refine st18 _ ?_
      exact kt
    obtain ⟨cl30, Ar30, S30, H30⟩ := id f28
    have hin30 : ¬ ((1 : Int32) < 0 ∨ cl30.slots.size ≤ ((1 : Int32)).toNatClampNeg) := own_inb S30 (by decide) (by decide)
    obtain ⟨T31, h31, X31, e31, W31, st31⟩ := stI X18 hx hZ e18 Ar30 (j := (1 : Int32)) hin30 (g := (mkF m 121 #[.val (.int p0), .val (.int p1), .val (.int p2), .val (.int p3), .val (.int (0 : Int32)), .val (.int (own_e0 p1)), .val (.int (own_e1 p1 p2)), .val (.int (own_e2 p1 p2 p3)), .val (.ref b5), .unset, .unset, .unset, .unset, .unset, .unset] [(.int (own_e1 p1 p2)), (.int (1 : Int32)), (.ref b10), (.ref b10)])) rfl rfl (hb hby at_121)
    have f32 := f19.wr W31
    have f33 := f20.other W31 ne_aS_b10
    have f34 := f21.wr W31
    have f35 := f22.other W31 ne_b5_b10
    have f36 := f23.wr W31
    have k38 := k25.wr W31 (Or.inr sz_b10)
    have nf39 := Fr.snoc X31 nf26 gn_b10
    have f40 := f28.set W31
    have f41 : own_A Z h31 b10 3 (own_v3 (own_e0 p1) (own_e1 p1 p2) (0 : Int32)) := f40.congr (fun j hj => by rcases j with _ | _ | _ | j <;> first | rfl | (simp [own_upd]; done) | omega)
    obtain ⟨cl42, Ar42, S42, H42⟩ := id f41
    have hin42 : ¬ ((2 : Int32) < 0 ∨ cl42.slots.size ≤ ((2 : Int32)).toNatClampNeg) := own_inb S42 (by decide) (by decide)
    obtain ⟨T43, h43, X43, e43, W43, st43⟩ := stI X31 hx hZ e31 Ar42 (j := (2 : Int32)) hin42 (g := (mkF m 126 #[.val (.int p0), .val (.int p1), .val (.int p2), .val (.int p3), .val (.int (0 : Int32)), .val (.int (own_e0 p1)), .val (.int (own_e1 p1 p2)), .val (.int (own_e2 p1 p2 p3)), .val (.ref b5), .unset, .unset, .unset, .unset, .unset, .unset] [(.int (own_e2 p1 p2 p3)), (.int (2 : Int32)), (.ref b10), (.ref b10)])) rfl rfl (hb hby at_126)
    have f44 := f32.wr W43
    have f45 := f33.other W43 ne_aS_b10
    have f46 := f34.wr W43
    have f47 := f35.other W43 ne_b5_b10
    have f48 := f36.wr W43
    have k50 := k38.wr W43 (Or.inr sz_b10)
    have nf51 := Fr.snoc X43 nf39 gn_b10
    have f52 := f41.set W43
    have f53 : own_A Z h43 b10 3 (own_v3 (own_e0 p1) (own_e1 p1 p2) (own_e2 p1 p2 p3)) := f52.congr (fun j hj => by rcases j with _ | _ | _ | j <;> first | rfl | (simp [own_upd]; done) | omega)
    have zs54 : n0 ≤ h43.size := Nat.le_trans Z0 k50.1
    obtain ⟨_, _, ⟨T55, L55, k55, n55⟩, -, X55, ⟨Lc55, hQ55, l55, y55, z55⟩, st55⟩ := Jvm.LawKit.callS X43 hx (y := (⟨"com/example/unfold/unfold/semantics/GateSets", "outsideHide", "([I)[I"⟩ : MethodName)) hown (mvT hZ (hw _ (List.mem_of_getElem? (i := 3) rfl))) (mvT hZ (hw _ (List.mem_of_getElem? (i := 4) rfl))) (mvT hZ (hw _ (List.mem_of_getElem? (i := 5) rfl))) (mvT hZ (hw _ (List.mem_of_getElem? (i := 6) rfl))) (by decide) (backOf (W := 0) (own_rm_oh0n l Z a0 hw [] b5 aS h43 n0 zs54 f47 f44) hZ (hw _ (List.mem_of_getElem? (i := 6) rfl)) (hw _ (List.mem_of_getElem? (i := 5) rfl)) (by decide) (by decide)) (g := (mkF m 131 #[.val (.int p0), .val (.int p1), .val (.int p2), .val (.int p3), .val (.int (0 : Int32)), .val (.int (own_e0 p1)), .val (.int (own_e1 p1 p2)), .val (.int (own_e2 p1 p2 p3)), .val (.ref b5), .val (.ref b10), .unset, .unset, .unset, .unset, .unset] [(.ref b5)])) rfl (by rw [hml]; rfl) (argsL := [(.ref b5)]) (rest := []) (lenOf own_pd0 rfl) rfl (by show 2 * 0 + _ ≤ _; exact Nat.le_of_eq rfl) (hb hby at_131) (fun _ _ => ⟨rfl, e43, (by decide : 2 + 1 ≤ _), (by decide : 3 + 0 ≤ _)⟩)
    dsimp only [Pt.U, Pt.locs, Pt.cells, Pt.slots] at X55 l55 y55 z55 st55 hQ55
    rw [l55, (y55 : k55 = 3), (z55 : n55 = 3)] at X55
    clear l55 y55 z55
    obtain ⟨rfl, N56, K56⟩ := hQ55
    have f57 := own_sta_keep f44 K56 all0
    have f58 := f45.keep K56 nin0
    have f59 := f46.keep K56
    have f60 := f47.keep K56 nin0
    have f61 := f48.keep K56
    have f62 := f53.keep K56 nin0
    have k63 := k50.trans K56 all0
    have nf64 := Fr.app nf51 N56
    have pre65 : ∀ t, Steps p.tables e below (T55.setTop (mkF m 136 #[.val (.int p0), .val (.int p1), .val (.int p2), .val (.int p3), .val (.int (0 : Int32)), .val (.int (own_e0 p1)), .val (.int (own_e1 p1 p2)), .val (.int (own_e2 p1 p2 p3)), .val (.ref b5), .val (.ref b10), .val (.ref aS), .unset, .unset, .unset, .unset] [])) t → Steps p.tables e below (s₁.setTop (entryFrame m #[(.int p0), (.int p1), (.int p2), (.int p3)] maxLocals)) t := by
      intro t kt
      refine pre29 t ?_
      show Steps p.tables e below (T18.setTop (mkF m 117 #[.val (.int p0), .val (.int p1), .val (.int p2), .val (.int p3), .val (.int (0 : Int32)), .val (.int (own_e0 p1)), .val (.int (own_e1 p1 p2)), .val (.int (own_e2 p1 p2 p3)), .val (.ref b5), .unset, .unset, .unset, .unset, .unset, .unset] [(.ref b10)])) _
      refine XS.dup X18.here hx rfl (hb hby at_117) rfl rfl ?_
      show Steps p.tables e below (T18.setTop (mkF m 118 #[.val (.int p0), .val (.int p1), .val (.int p2), .val (.int p3), .val (.int (0 : Int32)), .val (.int (own_e0 p1)), .val (.int (own_e1 p1 p2)), .val (.int (own_e2 p1 p2 p3)), .val (.ref b5), .unset, .unset, .unset, .unset, .unset, .unset] [(.ref b10), (.ref b10)])) _
      refine XS.iconst X18.here hx rfl (hb hby at_118) ?_
      show Steps p.tables e below (T18.setTop (mkF m 119 #[.val (.int p0), .val (.int p1), .val (.int p2), .val (.int p3), .val (.int (0 : Int32)), .val (.int (own_e0 p1)), .val (.int (own_e1 p1 p2)), .val (.int (own_e2 p1 p2 p3)), .val (.ref b5), .unset, .unset, .unset, .unset, .unset, .unset] [(.int (1 : Int32)), (.ref b10), (.ref b10)])) _
      refine XS.iload X18.here hx rfl (hb hby at_119) rfl ?_
      show Steps p.tables e below (T18.setTop (mkF m 121 #[.val (.int p0), .val (.int p1), .val (.int p2), .val (.int p3), .val (.int (0 : Int32)), .val (.int (own_e0 p1)), .val (.int (own_e1 p1 p2)), .val (.int (own_e2 p1 p2 p3)), .val (.ref b5), .unset, .unset, .unset, .unset, .unset, .unset] [(.int (own_e1 p1 p2)), (.int (1 : Int32)), (.ref b10), (.ref b10)])) _
      refine st31 _ ?_
      show Steps p.tables e below (T31.setTop (mkF m 122 #[.val (.int p0), .val (.int p1), .val (.int p2), .val (.int p3), .val (.int (0 : Int32)), .val (.int (own_e0 p1)), .val (.int (own_e1 p1 p2)), .val (.int (own_e2 p1 p2 p3)), .val (.ref b5), .unset, .unset, .unset, .unset, .unset, .unset] [(.ref b10)])) _
      refine XS.dup X31.here hx rfl (hb hby at_122) rfl rfl ?_
      show Steps p.tables e below (T31.setTop (mkF m 123 #[.val (.int p0), .val (.int p1), .val (.int p2), .val (.int p3), .val (.int (0 : Int32)), .val (.int (own_e0 p1)), .val (.int (own_e1 p1 p2)), .val (.int (own_e2 p1 p2 p3)), .val (.ref b5), .unset, .unset, .unset, .unset, .unset, .unset] [(.ref b10), (.ref b10)])) _
      refine XS.iconst X31.here hx rfl (hb hby at_123) ?_
      show Steps p.tables e below (T31.setTop (mkF m 124 #[.val (.int p0), .val (.int p1), .val (.int p2), .val (.int p3), .val (.int (0 : Int32)), .val (.int (own_e0 p1)), .val (.int (own_e1 p1 p2)), .val (.int (own_e2 p1 p2 p3)), .val (.ref b5), .unset, .unset, .unset, .unset, .unset, .unset] [(.int (2 : Int32)), (.ref b10), (.ref b10)])) _
      refine XS.iload X31.here hx rfl (hb hby at_124) rfl ?_
      show Steps p.tables e below (T31.setTop (mkF m 126 #[.val (.int p0), .val (.int p1), .val (.int p2), .val (.int p3), .val (.int (0 : Int32)), .val (.int (own_e0 p1)), .val (.int (own_e1 p1 p2)), .val (.int (own_e2 p1 p2 p3)), .val (.ref b5), .unset, .unset, .unset, .unset, .unset, .unset] [(.int (own_e2 p1 p2 p3)), (.int (2 : Int32)), (.ref b10), (.ref b10)])) _
      refine st43 _ ?_
      show Steps p.tables e below (T43.setTop (mkF m 127 #[.val (.int p0), .val (.int p1), .val (.int p2), .val (.int p3), .val (.int (0 : Int32)), .val (.int (own_e0 p1)), .val (.int (own_e1 p1 p2)), .val (.int (own_e2 p1 p2 p3)), .val (.ref b5), .unset, .unset, .unset, .unset, .unset, .unset] [(.ref b10)])) _
      refine XS.astore X43.here hx rfl (hb hby at_127) rfl rfl (l' := #[.val (.int p0), .val (.int p1), .val (.int p2), .val (.int p3), .val (.int (0 : Int32)), .val (.int (own_e0 p1)), .val (.int (own_e1 p1 p2)), .val (.int (own_e2 p1 p2 p3)), .val (.ref b5), .val (.ref b10), .unset, .unset, .unset, .unset, .unset]) rfl ?_
      show Steps p.tables e below (T43.setTop (mkF m 129 #[.val (.int p0), .val (.int p1), .val (.int p2), .val (.int p3), .val (.int (0 : Int32)), .val (.int (own_e0 p1)), .val (.int (own_e1 p1 p2)), .val (.int (own_e2 p1 p2 p3)), .val (.ref b5), .val (.ref b10), .unset, .unset, .unset, .unset, .unset] [])) _
      refine XS.aload X43.here hx rfl (hb hby at_129) rfl rfl ?_
      show Steps p.tables e below (T43.setTop (mkF m 131 #[.val (.int p0), .val (.int p1), .val (.int p2), .val (.int p3), .val (.int (0 : Int32)), .val (.int (own_e0 p1)), .val (.int (own_e1 p1 p2)), .val (.int (own_e2 p1 p2 p3)), .val (.ref b5), .val (.ref b10), .unset, .unset, .unset, .unset, .unset] [(.ref b5)])) _
      refine st55 _ ?_
      show Steps p.tables e below (T55.setTop (mkF m 134 #[.val (.int p0), .val (.int p1), .val (.int p2), .val (.int p3), .val (.int (0 : Int32)), .val (.int (own_e0 p1)), .val (.int (own_e1 p1 p2)), .val (.int (own_e2 p1 p2 p3)), .val (.ref b5), .val (.ref b10), .unset, .unset, .unset, .unset, .unset] [(.ref aS)])) _
      refine XS.astore X55.here hx rfl (hb hby at_134) rfl rfl (l' := #[.val (.int p0), .val (.int p1), .val (.int p2), .val (.int p3), .val (.int (0 : Int32)), .val (.int (own_e0 p1)), .val (.int (own_e1 p1 p2)), .val (.int (own_e2 p1 p2 p3)), .val (.ref b5), .val (.ref b10), .val (.ref aS), .unset, .unset, .unset, .unset]) rfl ?_
      exact kt
    obtain ⟨cl66, Ar66, S66, -⟩ := id f60
    have pre67 : ∀ t, Steps p.tables e below (T55.setTop (mkF m 204 #[.val (.int p0), .val (.int p1), .val (.int p2), .val (.int p3), .val (.int (0 : Int32)), .val (.int (own_e0 p1)), .val (.int (own_e1 p1 p2)), .val (.int (own_e2 p1 p2 p3)), .val (.ref b5), .val (.ref b10), .val (.ref aS), .val (.int (1 : Int32)), .unset, .unset, .unset] [])) t → Steps p.tables e below (s₁.setTop (entryFrame m #[(.int p0), (.int p1), (.int p2), (.int p3)] maxLocals)) t := by
      intro t kt
      refine pre65 t ?_
      show Steps p.tables e below (T55.setTop (mkF m 136 #[.val (.int p0), .val (.int p1), .val (.int p2), .val (.int p3), .val (.int (0 : Int32)), .val (.int (own_e0 p1)), .val (.int (own_e1 p1 p2)), .val (.int (own_e2 p1 p2 p3)), .val (.ref b5), .val (.ref b10), .val (.ref aS), .unset, .unset, .unset, .unset] [])) _
      refine XS.aload X55.here hx rfl (hb hby at_136) rfl rfl ?_
      show Steps p.tables e below (T55.setTop (mkF m 138 #[.val (.int p0), .val (.int p1), .val (.int p2), .val (.int p3), .val (.int (0 : Int32)), .val (.int (own_e0 p1)), .val (.int (own_e1 p1 p2)), .val (.int (own_e2 p1 p2 p3)), .val (.ref b5), .val (.ref b10), .val (.ref aS), .unset, .unset, .unset, .unset] [(.ref b5)])) _
      refine X55.arraylength hx Ar66.1 (State.isArrayOf_alike hZ.alike Ar66.2.1) (g := (mkF m 138 #[.val (.int p0), .val (.int p1), .val (.int p2), .val (.int p3), .val (.int (0 : Int32)), .val (.int (own_e0 p1)), .val (.int (own_e1 p1 p2)), .val (.int (own_e2 p1 p2 p3)), .val (.ref b5), .val (.ref b10), .val (.ref aS), .unset, .unset, .unset, .unset] [(.ref b5)])) rfl rfl (hb hby at_138) _ ?_
      rw [own_len (z := (0 : Int32)) S66 rfl]
      show Steps p.tables e below (T55.setTop (mkF m 139 #[.val (.int p0), .val (.int p1), .val (.int p2), .val (.int p3), .val (.int (0 : Int32)), .val (.int (own_e0 p1)), .val (.int (own_e1 p1 p2)), .val (.int (own_e2 p1 p2 p3)), .val (.ref b5), .val (.ref b10), .val (.ref aS), .unset, .unset, .unset, .unset] [(.int (0 : Int32))])) _
      refine XS.iload X55.here hx rfl (hb hby at_139) rfl ?_
      show Steps p.tables e below (T55.setTop (mkF m 141 #[.val (.int p0), .val (.int p1), .val (.int p2), .val (.int p3), .val (.int (0 : Int32)), .val (.int (own_e0 p1)), .val (.int (own_e1 p1 p2)), .val (.int (own_e2 p1 p2 p3)), .val (.ref b5), .val (.ref b10), .val (.ref aS), .unset, .unset, .unset, .unset] [(.int (0 : Int32)), (.int (0 : Int32))])) _
      refine XS.icmpNo X55.here hx rfl (hb hby at_141) rfl (teq (rfl : (0 : Int32) = (0 : Int32))).2 ?_
      show Steps p.tables e below (T55.setTop (mkF m 144 #[.val (.int p0), .val (.int p1), .val (.int p2), .val (.int p3), .val (.int (0 : Int32)), .val (.int (own_e0 p1)), .val (.int (own_e1 p1 p2)), .val (.int (own_e2 p1 p2 p3)), .val (.ref b5), .val (.ref b10), .val (.ref aS), .unset, .unset, .unset, .unset] [])) _
      refine XS.iconst X55.here hx rfl (hb hby at_144) ?_
      show Steps p.tables e below (T55.setTop (mkF m 145 #[.val (.int p0), .val (.int p1), .val (.int p2), .val (.int p3), .val (.int (0 : Int32)), .val (.int (own_e0 p1)), .val (.int (own_e1 p1 p2)), .val (.int (own_e2 p1 p2 p3)), .val (.ref b5), .val (.ref b10), .val (.ref aS), .unset, .unset, .unset, .unset] [(.int (1 : Int32))])) _
      refine XS.goto X55.here hx rfl (pc0 := 145) (pc' := 149) rfl (hb hby at_145) (by decide) (by decide) ?_
      show Steps p.tables e below (T55.setTop (mkF m 149 #[.val (.int p0), .val (.int p1), .val (.int p2), .val (.int p3), .val (.int (0 : Int32)), .val (.int (own_e0 p1)), .val (.int (own_e1 p1 p2)), .val (.int (own_e2 p1 p2 p3)), .val (.ref b5), .val (.ref b10), .val (.ref aS), .unset, .unset, .unset, .unset] [(.int (1 : Int32))])) _
      refine XS.istore X55.here hx rfl (hb hby at_149) rfl (l' := #[.val (.int p0), .val (.int p1), .val (.int p2), .val (.int p3), .val (.int (0 : Int32)), .val (.int (own_e0 p1)), .val (.int (own_e1 p1 p2)), .val (.int (own_e2 p1 p2 p3)), .val (.ref b5), .val (.ref b10), .val (.ref aS), .val (.int (1 : Int32)), .unset, .unset, .unset]) rfl ?_
      show Steps p.tables e below (T55.setTop (mkF m 151 #[.val (.int p0), .val (.int p1), .val (.int p2), .val (.int p3), .val (.int (0 : Int32)), .val (.int (own_e0 p1)), .val (.int (own_e1 p1 p2)), .val (.int (own_e2 p1 p2 p3)), .val (.ref b5), .val (.ref b10), .val (.ref aS), .val (.int (1 : Int32)), .unset, .unset, .unset] [])) _
      refine XS.iload X55.here hx rfl (hb hby at_151) rfl ?_
      show Steps p.tables e below (T55.setTop (mkF m 153 #[.val (.int p0), .val (.int p1), .val (.int p2), .val (.int p3), .val (.int (0 : Int32)), .val (.int (own_e0 p1)), .val (.int (own_e1 p1 p2)), .val (.int (own_e2 p1 p2 p3)), .val (.ref b5), .val (.ref b10), .val (.ref aS), .val (.int (1 : Int32)), .unset, .unset, .unset] [(.int (0 : Int32))])) _
      refine XS.ifYes X55.here hx rfl (pc0 := 153) (pc' := 177) rfl (hb hby at_153) rfl ((if0 _ _).trans (flt (by decide : ¬ ((0 : Int32) < (0 : Int32)))).2.2.2) (by decide) (by decide) ?_
      show Steps p.tables e below (T55.setTop (mkF m 177 #[.val (.int p0), .val (.int p1), .val (.int p2), .val (.int p3), .val (.int (0 : Int32)), .val (.int (own_e0 p1)), .val (.int (own_e1 p1 p2)), .val (.int (own_e2 p1 p2 p3)), .val (.ref b5), .val (.ref b10), .val (.ref aS), .val (.int (1 : Int32)), .unset, .unset, .unset] [])) _
      refine XS.iload X55.here hx rfl (hb hby at_177) rfl ?_
      show Steps p.tables e below (T55.setTop (mkF m 179 #[.val (.int p0), .val (.int p1), .val (.int p2), .val (.int p3), .val (.int (0 : Int32)), .val (.int (own_e0 p1)), .val (.int (own_e1 p1 p2)), .val (.int (own_e2 p1 p2 p3)), .val (.ref b5), .val (.ref b10), .val (.ref aS), .val (.int (1 : Int32)), .unset, .unset, .unset] [(.int (0 : Int32))])) _
      refine XS.iconst X55.here hx rfl (hb hby at_179) ?_
      show Steps p.tables e below (T55.setTop (mkF m 180 #[.val (.int p0), .val (.int p1), .val (.int p2), .val (.int p3), .val (.int (0 : Int32)), .val (.int (own_e0 p1)), .val (.int (own_e1 p1 p2)), .val (.int (own_e2 p1 p2 p3)), .val (.ref b5), .val (.ref b10), .val (.ref aS), .val (.int (1 : Int32)), .unset, .unset, .unset] [(.int (1 : Int32)), (.int (0 : Int32))])) _
      refine XS.icmpYes X55.here hx rfl (pc0 := 180) (pc' := 204) rfl (hb hby at_180) rfl (flt (by decide : ¬ ((1 : Int32) < (0 : Int32)))).2.2.2 (by decide) (by decide) ?_
      exact kt
    have pre68 : ∀ t, Steps p.tables e below (T55.setTop (mkF m 262 #[.val (.int p0), .val (.int p1), .val (.int p2), .val (.int p3), .val (.int (0 : Int32)), .val (.int (own_e0 p1)), .val (.int (own_e1 p1 p2)), .val (.int (own_e2 p1 p2 p3)), .val (.ref b5), .val (.ref b10), .val (.ref aS), .val (.int (1 : Int32)), .val (.int (0 : Int32)), .val (.int (0 : Int32)), .unset] [(.int (0 : Int32))])) t → Steps p.tables e below (s₁.setTop (entryFrame m #[(.int p0), (.int p1), (.int p2), (.int p3)] maxLocals)) t := by
      intro t kt
      refine pre67 t ?_
      show Steps p.tables e below (T55.setTop (mkF m 204 #[.val (.int p0), .val (.int p1), .val (.int p2), .val (.int p3), .val (.int (0 : Int32)), .val (.int (own_e0 p1)), .val (.int (own_e1 p1 p2)), .val (.int (own_e2 p1 p2 p3)), .val (.ref b5), .val (.ref b10), .val (.ref aS), .val (.int (1 : Int32)), .unset, .unset, .unset] [])) _
      refine XS.iload X55.here hx rfl (hb hby at_204) rfl ?_
      show Steps p.tables e below (T55.setTop (mkF m 206 #[.val (.int p0), .val (.int p1), .val (.int p2), .val (.int p3), .val (.int (0 : Int32)), .val (.int (own_e0 p1)), .val (.int (own_e1 p1 p2)), .val (.int (own_e2 p1 p2 p3)), .val (.ref b5), .val (.ref b10), .val (.ref aS), .val (.int (1 : Int32)), .unset, .unset, .unset] [(.int (0 : Int32))])) _
      refine XS.iconst X55.here hx rfl (hb hby at_206) ?_
      show Steps p.tables e below (T55.setTop (mkF m 207 #[.val (.int p0), .val (.int p1), .val (.int p2), .val (.int p3), .val (.int (0 : Int32)), .val (.int (own_e0 p1)), .val (.int (own_e1 p1 p2)), .val (.int (own_e2 p1 p2 p3)), .val (.ref b5), .val (.ref b10), .val (.ref aS), .val (.int (1 : Int32)), .unset, .unset, .unset] [(.int (2 : Int32)), (.int (0 : Int32))])) _
      refine XS.icmpYes X55.here hx rfl (pc0 := 207) (pc' := 231) rfl (hb hby at_207) rfl (flt (by decide : ¬ ((2 : Int32) < (0 : Int32)))).2.2.2 (by decide) (by decide) ?_
      show Steps p.tables e below (T55.setTop (mkF m 231 #[.val (.int p0), .val (.int p1), .val (.int p2), .val (.int p3), .val (.int (0 : Int32)), .val (.int (own_e0 p1)), .val (.int (own_e1 p1 p2)), .val (.int (own_e2 p1 p2 p3)), .val (.ref b5), .val (.ref b10), .val (.ref aS), .val (.int (1 : Int32)), .unset, .unset, .unset] [])) _
      refine XS.iload X55.here hx rfl (hb hby at_231) rfl ?_
      show Steps p.tables e below (T55.setTop (mkF m 233 #[.val (.int p0), .val (.int p1), .val (.int p2), .val (.int p3), .val (.int (0 : Int32)), .val (.int (own_e0 p1)), .val (.int (own_e1 p1 p2)), .val (.int (own_e2 p1 p2 p3)), .val (.ref b5), .val (.ref b10), .val (.ref aS), .val (.int (1 : Int32)), .unset, .unset, .unset] [(.int (0 : Int32))])) _
      refine XS.ifYes X55.here hx rfl (pc0 := 233) (pc' := 245) rfl (hb hby at_233) rfl ((if0 _ _).trans (flt (by decide : ¬ ((0 : Int32) < (0 : Int32)))).2.2.2) (by decide) (by decide) ?_
      show Steps p.tables e below (T55.setTop (mkF m 245 #[.val (.int p0), .val (.int p1), .val (.int p2), .val (.int p3), .val (.int (0 : Int32)), .val (.int (own_e0 p1)), .val (.int (own_e1 p1 p2)), .val (.int (own_e2 p1 p2 p3)), .val (.ref b5), .val (.ref b10), .val (.ref aS), .val (.int (1 : Int32)), .unset, .unset, .unset] [])) _
      refine XS.iconst X55.here hx rfl (hb hby at_245) ?_
      show Steps p.tables e below (T55.setTop (mkF m 246 #[.val (.int p0), .val (.int p1), .val (.int p2), .val (.int p3), .val (.int (0 : Int32)), .val (.int (own_e0 p1)), .val (.int (own_e1 p1 p2)), .val (.int (own_e2 p1 p2 p3)), .val (.ref b5), .val (.ref b10), .val (.ref aS), .val (.int (1 : Int32)), .unset, .unset, .unset] [(.int (0 : Int32))])) _
      refine XS.istore X55.here hx rfl (hb hby at_246) rfl (l' := #[.val (.int p0), .val (.int p1), .val (.int p2), .val (.int p3), .val (.int (0 : Int32)), .val (.int (own_e0 p1)), .val (.int (own_e1 p1 p2)), .val (.int (own_e2 p1 p2 p3)), .val (.ref b5), .val (.ref b10), .val (.ref aS), .val (.int (1 : Int32)), .val (.int (0 : Int32)), .unset, .unset]) rfl ?_
      show Steps p.tables e below (T55.setTop (mkF m 248 #[.val (.int p0), .val (.int p1), .val (.int p2), .val (.int p3), .val (.int (0 : Int32)), .val (.int (own_e0 p1)), .val (.int (own_e1 p1 p2)), .val (.int (own_e2 p1 p2 p3)), .val (.ref b5), .val (.ref b10), .val (.ref aS), .val (.int (1 : Int32)), .val (.int (0 : Int32)), .unset, .unset] [])) _
      refine XS.iload X55.here hx rfl (hb hby at_248) rfl ?_
      show Steps p.tables e below (T55.setTop (mkF m 250 #[.val (.int p0), .val (.int p1), .val (.int p2), .val (.int p3), .val (.int (0 : Int32)), .val (.int (own_e0 p1)), .val (.int (own_e1 p1 p2)), .val (.int (own_e2 p1 p2 p3)), .val (.ref b5), .val (.ref b10), .val (.ref aS), .val (.int (1 : Int32)), .val (.int (0 : Int32)), .unset, .unset] [(.int (0 : Int32))])) _
      refine XS.ifYes X55.here hx rfl (pc0 := 250) (pc' := 257) rfl (hb hby at_250) rfl ((if0 _ _).trans (teq (rfl : (0 : Int32) = (0 : Int32))).1) (by decide) (by decide) ?_
      show Steps p.tables e below (T55.setTop (mkF m 257 #[.val (.int p0), .val (.int p1), .val (.int p2), .val (.int p3), .val (.int (0 : Int32)), .val (.int (own_e0 p1)), .val (.int (own_e1 p1 p2)), .val (.int (own_e2 p1 p2 p3)), .val (.ref b5), .val (.ref b10), .val (.ref aS), .val (.int (1 : Int32)), .val (.int (0 : Int32)), .unset, .unset] [])) _
      refine XS.iconst X55.here hx rfl (hb hby at_257) ?_
      show Steps p.tables e below (T55.setTop (mkF m 258 #[.val (.int p0), .val (.int p1), .val (.int p2), .val (.int p3), .val (.int (0 : Int32)), .val (.int (own_e0 p1)), .val (.int (own_e1 p1 p2)), .val (.int (own_e2 p1 p2 p3)), .val (.ref b5), .val (.ref b10), .val (.ref aS), .val (.int (1 : Int32)), .val (.int (0 : Int32)), .unset, .unset] [(.int (0 : Int32))])) _
      refine XS.istore X55.here hx rfl (hb hby at_258) rfl (l' := #[.val (.int p0), .val (.int p1), .val (.int p2), .val (.int p3), .val (.int (0 : Int32)), .val (.int (own_e0 p1)), .val (.int (own_e1 p1 p2)), .val (.int (own_e2 p1 p2 p3)), .val (.ref b5), .val (.ref b10), .val (.ref aS), .val (.int (1 : Int32)), .val (.int (0 : Int32)), .val (.int (0 : Int32)), .unset]) rfl ?_
      show Steps p.tables e below (T55.setTop (mkF m 260 #[.val (.int p0), .val (.int p1), .val (.int p2), .val (.int p3), .val (.int (0 : Int32)), .val (.int (own_e0 p1)), .val (.int (own_e1 p1 p2)), .val (.int (own_e2 p1 p2 p3)), .val (.ref b5), .val (.ref b10), .val (.ref aS), .val (.int (1 : Int32)), .val (.int (0 : Int32)), .val (.int (0 : Int32)), .unset] [])) _
      refine XS.iload X55.here hx rfl (hb hby at_260) rfl ?_
      exact kt
    obtain ⟨cl69, Ar69, S69, -⟩ := id f58
    have pre70 : ∀ t, Steps p.tables e below (T55.setTop (mkF m 315 #[.val (.int p0), .val (.int p1), .val (.int p2), .val (.int p3), .val (.int (0 : Int32)), .val (.int (own_e0 p1)), .val (.int (own_e1 p1 p2)), .val (.int (own_e2 p1 p2 p3)), .val (.ref b5), .val (.ref b10), .val (.ref aS), .val (.int (1 : Int32)), .val (.int (0 : Int32)), .val (.int (0 : Int32)), .val (.int (0 : Int32))] [(.int (0 : Int32))])) t → Steps p.tables e below (s₁.setTop (entryFrame m #[(.int p0), (.int p1), (.int p2), (.int p3)] maxLocals)) t := by
      intro t kt
      refine pre68 t ?_
      show Steps p.tables e below (T55.setTop (mkF m 262 #[.val (.int p0), .val (.int p1), .val (.int p2), .val (.int p3), .val (.int (0 : Int32)), .val (.int (own_e0 p1)), .val (.int (own_e1 p1 p2)), .val (.int (own_e2 p1 p2 p3)), .val (.ref b5), .val (.ref b10), .val (.ref aS), .val (.int (1 : Int32)), .val (.int (0 : Int32)), .val (.int (0 : Int32)), .unset] [(.int (0 : Int32))])) _
      refine XS.iload X55.here hx rfl (hb hby at_262) rfl ?_
      show Steps p.tables e below (T55.setTop (mkF m 264 #[.val (.int p0), .val (.int p1), .val (.int p2), .val (.int p3), .val (.int (0 : Int32)), .val (.int (own_e0 p1)), .val (.int (own_e1 p1 p2)), .val (.int (own_e2 p1 p2 p3)), .val (.ref b5), .val (.ref b10), .val (.ref aS), .val (.int (1 : Int32)), .val (.int (0 : Int32)), .val (.int (0 : Int32)), .unset] [(.int (0 : Int32)), (.int (0 : Int32))])) _
      refine XS.isub X55.here hx rfl (hb hby at_264) rfl ?_
      show Steps p.tables e below (T55.setTop (mkF m 265 #[.val (.int p0), .val (.int p1), .val (.int p2), .val (.int p3), .val (.int (0 : Int32)), .val (.int (own_e0 p1)), .val (.int (own_e1 p1 p2)), .val (.int (own_e2 p1 p2 p3)), .val (.ref b5), .val (.ref b10), .val (.ref aS), .val (.int (1 : Int32)), .val (.int (0 : Int32)), .val (.int (0 : Int32)), .unset] [(.int (0 : Int32))])) _
      refine XS.istore X55.here hx rfl (hb hby at_265) rfl (l' := #[.val (.int p0), .val (.int p1), .val (.int p2), .val (.int p3), .val (.int (0 : Int32)), .val (.int (own_e0 p1)), .val (.int (own_e1 p1 p2)), .val (.int (own_e2 p1 p2 p3)), .val (.ref b5), .val (.ref b10), .val (.ref aS), .val (.int (1 : Int32)), .val (.int (0 : Int32)), .val (.int (0 : Int32)), .val (.int (0 : Int32))]) rfl ?_
      show Steps p.tables e below (T55.setTop (mkF m 267 #[.val (.int p0), .val (.int p1), .val (.int p2), .val (.int p3), .val (.int (0 : Int32)), .val (.int (own_e0 p1)), .val (.int (own_e1 p1 p2)), .val (.int (own_e2 p1 p2 p3)), .val (.ref b5), .val (.ref b10), .val (.ref aS), .val (.int (1 : Int32)), .val (.int (0 : Int32)), .val (.int (0 : Int32)), .val (.int (0 : Int32))] [])) _
      refine XS.aload X55.here hx rfl (hb hby at_267) rfl rfl ?_
      show Steps p.tables e below (T55.setTop (mkF m 269 #[.val (.int p0), .val (.int p1), .val (.int p2), .val (.int p3), .val (.int (0 : Int32)), .val (.int (own_e0 p1)), .val (.int (own_e1 p1 p2)), .val (.int (own_e2 p1 p2 p3)), .val (.ref b5), .val (.ref b10), .val (.ref aS), .val (.int (1 : Int32)), .val (.int (0 : Int32)), .val (.int (0 : Int32)), .val (.int (0 : Int32))] [(.ref aS)])) _
      refine XS.ifnullNo X55.here hx rfl (hb hby at_269) rfl ?_
      show Steps p.tables e below (T55.setTop (mkF m 272 #[.val (.int p0), .val (.int p1), .val (.int p2), .val (.int p3), .val (.int (0 : Int32)), .val (.int (own_e0 p1)), .val (.int (own_e1 p1 p2)), .val (.int (own_e2 p1 p2 p3)), .val (.ref b5), .val (.ref b10), .val (.ref aS), .val (.int (1 : Int32)), .val (.int (0 : Int32)), .val (.int (0 : Int32)), .val (.int (0 : Int32))] [])) _
      refine XS.aload X55.here hx rfl (hb hby at_272) rfl rfl ?_
      show Steps p.tables e below (T55.setTop (mkF m 274 #[.val (.int p0), .val (.int p1), .val (.int p2), .val (.int p3), .val (.int (0 : Int32)), .val (.int (own_e0 p1)), .val (.int (own_e1 p1 p2)), .val (.int (own_e2 p1 p2 p3)), .val (.ref b5), .val (.ref b10), .val (.ref aS), .val (.int (1 : Int32)), .val (.int (0 : Int32)), .val (.int (0 : Int32)), .val (.int (0 : Int32))] [(.ref aS)])) _
      refine X55.arraylength hx Ar69.1 (State.isArrayOf_alike hZ.alike Ar69.2.1) (g := (mkF m 274 #[.val (.int p0), .val (.int p1), .val (.int p2), .val (.int p3), .val (.int (0 : Int32)), .val (.int (own_e0 p1)), .val (.int (own_e1 p1 p2)), .val (.int (own_e2 p1 p2 p3)), .val (.ref b5), .val (.ref b10), .val (.ref aS), .val (.int (1 : Int32)), .val (.int (0 : Int32)), .val (.int (0 : Int32)), .val (.int (0 : Int32))] [(.ref aS)])) rfl rfl (hb hby at_274) _ ?_
      rw [own_len (z := (0 : Int32)) S69 rfl]
      show Steps p.tables e below (T55.setTop (mkF m 275 #[.val (.int p0), .val (.int p1), .val (.int p2), .val (.int p3), .val (.int (0 : Int32)), .val (.int (own_e0 p1)), .val (.int (own_e1 p1 p2)), .val (.int (own_e2 p1 p2 p3)), .val (.ref b5), .val (.ref b10), .val (.ref aS), .val (.int (1 : Int32)), .val (.int (0 : Int32)), .val (.int (0 : Int32)), .val (.int (0 : Int32))] [(.int (0 : Int32))])) _
      refine XS.iload X55.here hx rfl (hb hby at_275) rfl ?_
      show Steps p.tables e below (T55.setTop (mkF m 277 #[.val (.int p0), .val (.int p1), .val (.int p2), .val (.int p3), .val (.int (0 : Int32)), .val (.int (own_e0 p1)), .val (.int (own_e1 p1 p2)), .val (.int (own_e2 p1 p2 p3)), .val (.ref b5), .val (.ref b10), .val (.ref aS), .val (.int (1 : Int32)), .val (.int (0 : Int32)), .val (.int (0 : Int32)), .val (.int (0 : Int32))] [(.int (0 : Int32)), (.int (0 : Int32))])) _
      refine XS.icmpYes X55.here hx rfl (pc0 := 277) (pc' := 282) rfl (hb hby at_277) rfl (teq (rfl : (0 : Int32) = (0 : Int32))).1 (by decide) (by decide) ?_
      show Steps p.tables e below (T55.setTop (mkF m 282 #[.val (.int p0), .val (.int p1), .val (.int p2), .val (.int p3), .val (.int (0 : Int32)), .val (.int (own_e0 p1)), .val (.int (own_e1 p1 p2)), .val (.int (own_e2 p1 p2 p3)), .val (.ref b5), .val (.ref b10), .val (.ref aS), .val (.int (1 : Int32)), .val (.int (0 : Int32)), .val (.int (0 : Int32)), .val (.int (0 : Int32))] [])) _
      refine XS.iload X55.here hx rfl (hb hby at_282) rfl ?_
      show Steps p.tables e below (T55.setTop (mkF m 284 #[.val (.int p0), .val (.int p1), .val (.int p2), .val (.int p3), .val (.int (0 : Int32)), .val (.int (own_e0 p1)), .val (.int (own_e1 p1 p2)), .val (.int (own_e2 p1 p2 p3)), .val (.ref b5), .val (.ref b10), .val (.ref aS), .val (.int (1 : Int32)), .val (.int (0 : Int32)), .val (.int (0 : Int32)), .val (.int (0 : Int32))] [(.int (0 : Int32))])) _
      refine XS.ifYes X55.here hx rfl (pc0 := 284) (pc' := 313) rfl (hb hby at_284) rfl ((if0 _ _).trans (flt (by decide : ¬ ((0 : Int32) < (0 : Int32)))).2.2.2) (by decide) (by decide) ?_
      show Steps p.tables e below (T55.setTop (mkF m 313 #[.val (.int p0), .val (.int p1), .val (.int p2), .val (.int p3), .val (.int (0 : Int32)), .val (.int (own_e0 p1)), .val (.int (own_e1 p1 p2)), .val (.int (own_e2 p1 p2 p3)), .val (.ref b5), .val (.ref b10), .val (.ref aS), .val (.int (1 : Int32)), .val (.int (0 : Int32)), .val (.int (0 : Int32)), .val (.int (0 : Int32))] [])) _
      refine XS.iload X55.here hx rfl (hb hby at_313) rfl ?_
      exact kt
    have pre71 : ∀ t, Steps p.tables e below (T55.setTop (mkF m 383 #[.val (.int p0), .val (.int p1), .val (.int p2), .val (.int p3), .val (.int (0 : Int32)), .val (.int (own_e0 p1)), .val (.int (own_e1 p1 p2)), .val (.int (own_e2 p1 p2 p3)), .val (.ref b5), .val (.ref b10), .val (.ref aS), .val (.int (1 : Int32)), .val (.int (0 : Int32)), .val (.int (0 : Int32)), .val (.int (0 : Int32))] [(.int (1 : Int32))])) t → Steps p.tables e below (s₁.setTop (entryFrame m #[(.int p0), (.int p1), (.int p2), (.int p3)] maxLocals)) t := by
      intro t kt
      refine pre70 t ?_
      show Steps p.tables e below (T55.setTop (mkF m 315 #[.val (.int p0), .val (.int p1), .val (.int p2), .val (.int p3), .val (.int (0 : Int32)), .val (.int (own_e0 p1)), .val (.int (own_e1 p1 p2)), .val (.int (own_e2 p1 p2 p3)), .val (.ref b5), .val (.ref b10), .val (.ref aS), .val (.int (1 : Int32)), .val (.int (0 : Int32)), .val (.int (0 : Int32)), .val (.int (0 : Int32))] [(.int (0 : Int32))])) _
      refine XS.iconst X55.here hx rfl (hb hby at_315) ?_
      show Steps p.tables e below (T55.setTop (mkF m 316 #[.val (.int p0), .val (.int p1), .val (.int p2), .val (.int p3), .val (.int (0 : Int32)), .val (.int (own_e0 p1)), .val (.int (own_e1 p1 p2)), .val (.int (own_e2 p1 p2 p3)), .val (.ref b5), .val (.ref b10), .val (.ref aS), .val (.int (1 : Int32)), .val (.int (0 : Int32)), .val (.int (0 : Int32)), .val (.int (0 : Int32))] [(.int (1 : Int32)), (.int (0 : Int32))])) _
      refine XS.icmpYes X55.here hx rfl (pc0 := 316) (pc' := 347) rfl (hb hby at_316) rfl (flt (by decide : ¬ ((1 : Int32) < (0 : Int32)))).2.2.2 (by decide) (by decide) ?_
      show Steps p.tables e below (T55.setTop (mkF m 347 #[.val (.int p0), .val (.int p1), .val (.int p2), .val (.int p3), .val (.int (0 : Int32)), .val (.int (own_e0 p1)), .val (.int (own_e1 p1 p2)), .val (.int (own_e2 p1 p2 p3)), .val (.ref b5), .val (.ref b10), .val (.ref aS), .val (.int (1 : Int32)), .val (.int (0 : Int32)), .val (.int (0 : Int32)), .val (.int (0 : Int32))] [])) _
      refine XS.iload X55.here hx rfl (hb hby at_347) rfl ?_
      show Steps p.tables e below (T55.setTop (mkF m 349 #[.val (.int p0), .val (.int p1), .val (.int p2), .val (.int p3), .val (.int (0 : Int32)), .val (.int (own_e0 p1)), .val (.int (own_e1 p1 p2)), .val (.int (own_e2 p1 p2 p3)), .val (.ref b5), .val (.ref b10), .val (.ref aS), .val (.int (1 : Int32)), .val (.int (0 : Int32)), .val (.int (0 : Int32)), .val (.int (0 : Int32))] [(.int (0 : Int32))])) _
      refine XS.iconst X55.here hx rfl (hb hby at_349) ?_
      show Steps p.tables e below (T55.setTop (mkF m 350 #[.val (.int p0), .val (.int p1), .val (.int p2), .val (.int p3), .val (.int (0 : Int32)), .val (.int (own_e0 p1)), .val (.int (own_e1 p1 p2)), .val (.int (own_e2 p1 p2 p3)), .val (.ref b5), .val (.ref b10), .val (.ref aS), .val (.int (1 : Int32)), .val (.int (0 : Int32)), .val (.int (0 : Int32)), .val (.int (0 : Int32))] [(.int (2 : Int32)), (.int (0 : Int32))])) _
      refine XS.icmpYes X55.here hx rfl (pc0 := 350) (pc' := 381) rfl (hb hby at_350) rfl (flt (by decide : ¬ ((2 : Int32) < (0 : Int32)))).2.2.2 (by decide) (by decide) ?_
      show Steps p.tables e below (T55.setTop (mkF m 381 #[.val (.int p0), .val (.int p1), .val (.int p2), .val (.int p3), .val (.int (0 : Int32)), .val (.int (own_e0 p1)), .val (.int (own_e1 p1 p2)), .val (.int (own_e2 p1 p2 p3)), .val (.ref b5), .val (.ref b10), .val (.ref aS), .val (.int (1 : Int32)), .val (.int (0 : Int32)), .val (.int (0 : Int32)), .val (.int (0 : Int32))] [])) _
      refine XS.iload X55.here hx rfl (hb hby at_381) rfl ?_
      exact kt
    obtain ⟨fs, hr, hrun, hended, hW, hsame⟩ := X55.leave (v := some (.int (1 : Int32))) (fun h => by rw [Bd.returns] at h; cases h)
    refine ⟨_, _, pre71 _ ?_, hrun, hended, _, _, rfl, ?_, ⟨_, rfl⟩, hW, hsame.mono (by decide) (by decide)⟩
    · show Steps p.tables e below (T55.setTop (mkF m 383 #[.val (.int p0), .val (.int p1), .val (.int p2), .val (.int p3), .val (.int (0 : Int32)), .val (.int (own_e0 p1)), .val (.int (own_e1 p1 p2)), .val (.int (own_e2 p1 p2 p3)), .val (.ref b5), .val (.ref b10), .val (.ref aS), .val (.int (1 : Int32)), .val (.int (0 : Int32)), .val (.int (0 : Int32)), .val (.int (0 : Int32))] [(.int (1 : Int32))])) _
      exact retN X55 hx (t := .boolean) Bd.returns (by simp) (hb hby at_383) hr
    · show own_Q_law Z p0 p1 p2 p3 aS h0 n0 (some (.int (1 : Int32))) T55.heap _
      skip
      exact ⟨rfl, nf64⟩
  · have pre72 : ∀ t, Steps p.tables e below (s₁.setTop (mkF m 33 #[.val (.int p0), .val (.int p1), .val (.int p2), .val (.int p3), .val (.int (1 : Int32)), .val (.int (own_e0 p1)), .val (.int (own_e1 p1 p2)), .val (.int (own_e2 p1 p2 p3)), .unset, .unset, .unset, .unset, .unset, .unset, .unset] [])) t → Steps p.tables e below (s₁.setTop (entryFrame m #[(.int p0), (.int p1), (.int p2), (.int p3)] maxLocals)) t := by
      intro t kt
      refine pre3 t ?_
      rw [hn1]
      exact kt
    obtain ⟨T73, h73, k73, X73, e73, E73, A73, I73, st73⟩ := newPE X0 hx hZ (hw _ (List.mem_of_getElem? (i := 2) rfl)) e0 (g := (mkF m 53 #[.val (.int p0), .val (.int p1), .val (.int p2), .val (.int p3), .val (.int (1 : Int32)), .val (.int (own_e0 p1)), .val (.int (own_e1 p1 p2)), .val (.int (own_e2 p1 p2 p3)), .unset, .unset, .unset, .unset, .unset, .unset, .unset] [(.int (1 : Int32))])) rfl (hb hby at_53) rfl (by decide) (cap := 1) (by decide) (by decide) (by decide) (by decide) (ad := "[I") rfl
    obtain ⟨b73, g73⟩ : ∃ z, z = h0.size := ⟨_, rfl⟩
    rw [← g73] at A73 I73 st73
    have sz_b73 : h0.size ≤ b73 := Nat.le_trans K0.1 (Nat.le_of_eq g73.symm)
    have gn_b73 : n0 ≤ b73 := Nat.le_trans Z0 sz_b73
    have ne_aS_b73 : aS ≠ b73 := Nat.ne_of_lt (Nat.lt_of_lt_of_le AS.lt (Nat.le_of_eq g73.symm))
    have f74 := S0.ext E73
    have f75 := AS.ext E73
    have k76 := K0.ext E73
    have f77 : own_A Z h73 b73 1 (own_v1 (0 : Int32)) := (own_A.new A73 rfl).congr (fun j hj => by rcases j with _ | j <;> first | rfl | (simp [own_upd]; done) | omega)
    obtain ⟨cl78, Ar78, S78, H78⟩ := id f77
    have hin78 : ¬ ((0 : Int32) < 0 ∨ cl78.slots.size ≤ ((0 : Int32)).toNatClampNeg) := own_inb S78 (by decide) (by decide)
    obtain ⟨T79, h79, X79, e79, W79, st79⟩ := stI X73 hx hZ e73 Ar78 (j := (0 : Int32)) hin78 (g := (mkF m 59 #[.val (.int p0), .val (.int p1), .val (.int p2), .val (.int p3), .val (.int (1 : Int32)), .val (.int (own_e0 p1)), .val (.int (own_e1 p1 p2)), .val (.int (own_e2 p1 p2 p3)), .unset, .unset, .unset, .unset, .unset, .unset, .unset] [(.int (own_e0 p1)), (.int (0 : Int32)), (.ref b73), (.ref b73)])) rfl rfl (hb hby at_59)
    have f80 := f74.wr W79
    have f81 := f75.other W79 ne_aS_b73
    have f82 := I73.wr W79
    have k84 := k76.wr W79 (Or.inr sz_b73)
    have nf85 := Fr.snoc X79 N0 gn_b73
    have f86 := f77.set W79
    have f87 : own_A Z h79 b73 1 (own_v1 (own_e0 p1)) := f86.congr (fun j hj => by rcases j with _ | j <;> first | rfl | (simp [own_upd]; done) | omega)
    have pre88 : ∀ t, Steps p.tables e below (T79.setTop (mkF m 62 #[.val (.int p0), .val (.int p1), .val (.int p2), .val (.int p3), .val (.int (1 : Int32)), .val (.int (own_e0 p1)), .val (.int (own_e1 p1 p2)), .val (.int (own_e2 p1 p2 p3)), .val (.ref b73), .unset, .unset, .unset, .unset, .unset, .unset] [])) t → Steps p.tables e below (s₁.setTop (entryFrame m #[(.int p0), (.int p1), (.int p2), (.int p3)] maxLocals)) t := by
      intro t kt
      refine pre72 t ?_
      show Steps p.tables e below (s₁.setTop (mkF m 33 #[.val (.int p0), .val (.int p1), .val (.int p2), .val (.int p3), .val (.int (1 : Int32)), .val (.int (own_e0 p1)), .val (.int (own_e1 p1 p2)), .val (.int (own_e2 p1 p2 p3)), .unset, .unset, .unset, .unset, .unset, .unset, .unset] [])) _
      refine XS.iload X0.here hx rfl (hb hby at_33) rfl ?_
      show Steps p.tables e below (s₁.setTop (mkF m 35 #[.val (.int p0), .val (.int p1), .val (.int p2), .val (.int p3), .val (.int (1 : Int32)), .val (.int (own_e0 p1)), .val (.int (own_e1 p1 p2)), .val (.int (own_e2 p1 p2 p3)), .unset, .unset, .unset, .unset, .unset, .unset, .unset] [(.int (1 : Int32))])) _
      refine XS.ifYes X0.here hx rfl (pc0 := 35) (pc' := 46) rfl (hb hby at_35) rfl ((if0 _ _).trans (feq (by decide : ¬ ((1 : Int32) = (0 : Int32)))).2) (by decide) (by decide) ?_
      show Steps p.tables e below (s₁.setTop (mkF m 46 #[.val (.int p0), .val (.int p1), .val (.int p2), .val (.int p3), .val (.int (1 : Int32)), .val (.int (own_e0 p1)), .val (.int (own_e1 p1 p2)), .val (.int (own_e2 p1 p2 p3)), .unset, .unset, .unset, .unset, .unset, .unset, .unset] [])) _
      refine XS.iload X0.here hx rfl (hb hby at_46) rfl ?_
      show Steps p.tables e below (s₁.setTop (mkF m 48 #[.val (.int p0), .val (.int p1), .val (.int p2), .val (.int p3), .val (.int (1 : Int32)), .val (.int (own_e0 p1)), .val (.int (own_e1 p1 p2)), .val (.int (own_e2 p1 p2 p3)), .unset, .unset, .unset, .unset, .unset, .unset, .unset] [(.int (1 : Int32))])) _
      refine XS.iconst X0.here hx rfl (hb hby at_48) ?_
      show Steps p.tables e below (s₁.setTop (mkF m 49 #[.val (.int p0), .val (.int p1), .val (.int p2), .val (.int p3), .val (.int (1 : Int32)), .val (.int (own_e0 p1)), .val (.int (own_e1 p1 p2)), .val (.int (own_e2 p1 p2 p3)), .unset, .unset, .unset, .unset, .unset, .unset, .unset] [(.int (1 : Int32)), (.int (1 : Int32))])) _
      refine XS.icmpNo X0.here hx rfl (hb hby at_49) rfl (teq (rfl : (1 : Int32) = (1 : Int32))).2 ?_
      show Steps p.tables e below (s₁.setTop (mkF m 52 #[.val (.int p0), .val (.int p1), .val (.int p2), .val (.int p3), .val (.int (1 : Int32)), .val (.int (own_e0 p1)), .val (.int (own_e1 p1 p2)), .val (.int (own_e2 p1 p2 p3)), .unset, .unset, .unset, .unset, .unset, .unset, .unset] [])) _
      refine XS.iconst X0.here hx rfl (hb hby at_52) ?_
      show Steps p.tables e below (s₁.setTop (mkF m 53 #[.val (.int p0), .val (.int p1), .val (.int p2), .val (.int p3), .val (.int (1 : Int32)), .val (.int (own_e0 p1)), .val (.int (own_e1 p1 p2)), .val (.int (own_e2 p1 p2 p3)), .unset, .unset, .unset, .unset, .unset, .unset, .unset] [(.int (1 : Int32))])) _
      refine st73 _ ?_
      show Steps p.tables e below (T73.setTop (mkF m 55 #[.val (.int p0), .val (.int p1), .val (.int p2), .val (.int p3), .val (.int (1 : Int32)), .val (.int (own_e0 p1)), .val (.int (own_e1 p1 p2)), .val (.int (own_e2 p1 p2 p3)), .unset, .unset, .unset, .unset, .unset, .unset, .unset] [(.ref b73)])) _
      refine XS.dup X73.here hx rfl (hb hby at_55) rfl rfl ?_
      show Steps p.tables e below (T73.setTop (mkF m 56 #[.val (.int p0), .val (.int p1), .val (.int p2), .val (.int p3), .val (.int (1 : Int32)), .val (.int (own_e0 p1)), .val (.int (own_e1 p1 p2)), .val (.int (own_e2 p1 p2 p3)), .unset, .unset, .unset, .unset, .unset, .unset, .unset] [(.ref b73), (.ref b73)])) _
      refine XS.iconst X73.here hx rfl (hb hby at_56) ?_
      show Steps p.tables e below (T73.setTop (mkF m 57 #[.val (.int p0), .val (.int p1), .val (.int p2), .val (.int p3), .val (.int (1 : Int32)), .val (.int (own_e0 p1)), .val (.int (own_e1 p1 p2)), .val (.int (own_e2 p1 p2 p3)), .unset, .unset, .unset, .unset, .unset, .unset, .unset] [(.int (0 : Int32)), (.ref b73), (.ref b73)])) _
      refine XS.iload X73.here hx rfl (hb hby at_57) rfl ?_
      show Steps p.tables e below (T73.setTop (mkF m 59 #[.val (.int p0), .val (.int p1), .val (.int p2), .val (.int p3), .val (.int (1 : Int32)), .val (.int (own_e0 p1)), .val (.int (own_e1 p1 p2)), .val (.int (own_e2 p1 p2 p3)), .unset, .unset, .unset, .unset, .unset, .unset, .unset] [(.int (own_e0 p1)), (.int (0 : Int32)), (.ref b73), (.ref b73)])) _
      refine st79 _ ?_
      show Steps p.tables e below (T79.setTop (mkF m 60 #[.val (.int p0), .val (.int p1), .val (.int p2), .val (.int p3), .val (.int (1 : Int32)), .val (.int (own_e0 p1)), .val (.int (own_e1 p1 p2)), .val (.int (own_e2 p1 p2 p3)), .unset, .unset, .unset, .unset, .unset, .unset, .unset] [(.ref b73)])) _
      refine XS.astore X79.here hx rfl (hb hby at_60) rfl rfl (l' := #[.val (.int p0), .val (.int p1), .val (.int p2), .val (.int p3), .val (.int (1 : Int32)), .val (.int (own_e0 p1)), .val (.int (own_e1 p1 p2)), .val (.int (own_e2 p1 p2 p3)), .val (.ref b73), .unset, .unset, .unset, .unset, .unset, .unset]) rfl ?_
      exact kt
    obtain ⟨T89, h89, k89, X89, e89, E89, A89, I89, st89⟩ := newPE X79 hx hZ (hw _ (List.mem_of_getElem? (i := 2) rfl)) e79 (g := (mkF m 110 #[.val (.int p0), .val (.int p1), .val (.int p2), .val (.int p3), .val (.int (1 : Int32)), .val (.int (own_e0 p1)), .val (.int (own_e1 p1 p2)), .val (.int (own_e2 p1 p2 p3)), .val (.ref b73), .unset, .unset, .unset, .unset, .unset, .unset] [(.int (3 : Int32))])) rfl (hb hby at_110) rfl (by decide) (cap := 3) (by decide) (by decide) (by decide) (by decide) (ad := "[I") rfl
    obtain ⟨b89, g89⟩ : ∃ z, z = h79.size := ⟨_, rfl⟩
    rw [← g89] at A89 I89 st89
    have sz_b89 : h0.size ≤ b89 := Nat.le_trans k84.1 (Nat.le_of_eq g89.symm)
    have gn_b89 : n0 ≤ b89 := Nat.le_trans Z0 sz_b89
    have ne_aS_b89 : aS ≠ b89 := Nat.ne_of_lt (Nat.lt_of_lt_of_le f81.lt (Nat.le_of_eq g89.symm))
    have ne_b73_b89 : b73 ≠ b89 := Nat.ne_of_lt (Nat.lt_of_lt_of_le f87.lt (Nat.le_of_eq g89.symm))
    have f90 := f80.ext E89
    have f91 := f81.ext E89
    have f92 := f82.ext E89
    have f93 := f87.ext E89
    have k94 := k84.ext E89
    have f95 : own_A Z h89 b89 3 (own_v3 (0 : Int32) (0 : Int32) (0 : Int32)) := (own_A.new A89 rfl).congr (fun j hj => by rcases j with _ | _ | _ | j <;> first | rfl | (simp [own_upd]; done) | omega)
    obtain ⟨cl96, Ar96, S96, H96⟩ := id f95
    have hin96 : ¬ ((0 : Int32) < 0 ∨ cl96.slots.size ≤ ((0 : Int32)).toNatClampNeg) := own_inb S96 (by decide) (by decide)
    obtain ⟨T97, h97, X97, e97, W97, st97⟩ := stI X89 hx hZ e89 Ar96 (j := (0 : Int32)) hin96 (g := (mkF m 116 #[.val (.int p0), .val (.int p1), .val (.int p2), .val (.int p3), .val (.int (1 : Int32)), .val (.int (own_e0 p1)), .val (.int (own_e1 p1 p2)), .val (.int (own_e2 p1 p2 p3)), .val (.ref b73), .unset, .unset, .unset, .unset, .unset, .unset] [(.int (own_e0 p1)), (.int (0 : Int32)), (.ref b89), (.ref b89)])) rfl rfl (hb hby at_116)
    have f98 := f90.wr W97
    have f99 := f91.other W97 ne_aS_b89
    have f100 := f92.wr W97
    have f101 := f93.other W97 ne_b73_b89
    have f102 := I89.wr W97
    have k104 := k94.wr W97 (Or.inr sz_b89)
    have nf105 := Fr.snoc X97 nf85 gn_b89
    have f106 := f95.set W97
    have f107 : own_A Z h97 b89 3 (own_v3 (own_e0 p1) (0 : Int32) (0 : Int32)) := f106.congr (fun j hj => by rcases j with _ | _ | _ | j <;> first | rfl | (simp [own_upd]; done) | omega)
    obtain ⟨cl108, Ar108, S108, H108⟩ := id f107
    have hin108 : ¬ ((1 : Int32) < 0 ∨ cl108.slots.size ≤ ((1 : Int32)).toNatClampNeg) := own_inb S108 (by decide) (by decide)
    obtain ⟨T109, h109, X109, e109, W109, st109⟩ := stI X97 hx hZ e97 Ar108 (j := (1 : Int32)) hin108 (g := (mkF m 121 #[.val (.int p0), .val (.int p1), .val (.int p2), .val (.int p3), .val (.int (1 : Int32)), .val (.int (own_e0 p1)), .val (.int (own_e1 p1 p2)), .val (.int (own_e2 p1 p2 p3)), .val (.ref b73), .unset, .unset, .unset, .unset, .unset, .unset] [(.int (own_e1 p1 p2)), (.int (1 : Int32)), (.ref b89), (.ref b89)])) rfl rfl (hb hby at_121)
    have f110 := f98.wr W109
    have f111 := f99.other W109 ne_aS_b89
    have f112 := f100.wr W109
    have f113 := f101.other W109 ne_b73_b89
    have f114 := f102.wr W109
    have k116 := k104.wr W109 (Or.inr sz_b89)
    have nf117 := Fr.snoc X109 nf105 gn_b89
    have f118 := f107.set W109
    have f119 : own_A Z h109 b89 3 (own_v3 (own_e0 p1) (own_e1 p1 p2) (0 : Int32)) := f118.congr (fun j hj => by rcases j with _ | _ | _ | j <;> first | rfl | (simp [own_upd]; done) | omega)
    have pre120 : ∀ t, Steps p.tables e below (T109.setTop (mkF m 123 #[.val (.int p0), .val (.int p1), .val (.int p2), .val (.int p3), .val (.int (1 : Int32)), .val (.int (own_e0 p1)), .val (.int (own_e1 p1 p2)), .val (.int (own_e2 p1 p2 p3)), .val (.ref b73), .unset, .unset, .unset, .unset, .unset, .unset] [(.ref b89), (.ref b89)])) t → Steps p.tables e below (s₁.setTop (entryFrame m #[(.int p0), (.int p1), (.int p2), (.int p3)] maxLocals)) t := by
      intro t kt
      refine pre88 t ?_
      show Steps p.tables e below (T79.setTop (mkF m 62 #[.val (.int p0), .val (.int p1), .val (.int p2), .val (.int p3), .val (.int (1 : Int32)), .val (.int (own_e0 p1)), .val (.int (own_e1 p1 p2)), .val (.int (own_e2 p1 p2 p3)), .val (.ref b73), .unset, .unset, .unset, .unset, .unset, .unset] [])) _
      refine XS.goto X79.here hx rfl (pc0 := 62) (pc' := 109) rfl (hb hby at_62) (by decide) (by decide) ?_
      show Steps p.tables e below (T79.setTop (mkF m 109 #[.val (.int p0), .val (.int p1), .val (.int p2), .val (.int p3), .val (.int (1 : Int32)), .val (.int (own_e0 p1)), .val (.int (own_e1 p1 p2)), .val (.int (own_e2 p1 p2 p3)), .val (.ref b73), .unset, .unset, .unset, .unset, .unset, .unset] [])) _
      refine XS.iconst X79.here hx rfl (hb hby at_109) ?_
      show Steps p.tables e below (T79.setTop (mkF m 110 #[.val (.int p0), .val (.int p1), .val (.int p2), .val (.int p3), .val (.int (1 : Int32)), .val (.int (own_e0 p1)), .val (.int (own_e1 p1 p2)), .val (.int (own_e2 p1 p2 p3)), .val (.ref b73), .unset, .unset, .unset, .unset, .unset, .unset] [(.int (3 : Int32))])) _
      refine st89 _ ?_
      show Steps p.tables e below (T89.setTop (mkF m 112 #[.val (.int p0), .val (.int p1), .val (.int p2), .val (.int p3), .val (.int (1 : Int32)), .val (.int (own_e0 p1)), .val (.int (own_e1 p1 p2)), .val (.int (own_e2 p1 p2 p3)), .val (.ref b73), .unset, .unset, .unset, .unset, .unset, .unset] [(.ref b89)])) _
      refine XS.dup X89.here hx rfl (hb hby at_112) rfl rfl ?_
      show Steps p.tables e below (T89.setTop (mkF m 113 #[.val (.int p0), .val (.int p1), .val (.int p2), .val (.int p3), .val (.int (1 : Int32)), .val (.int (own_e0 p1)), .val (.int (own_e1 p1 p2)), .val (.int (own_e2 p1 p2 p3)), .val (.ref b73), .unset, .unset, .unset, .unset, .unset, .unset] [(.ref b89), (.ref b89)])) _
      refine XS.iconst X89.here hx rfl (hb hby at_113) ?_
      show Steps p.tables e below (T89.setTop (mkF m 114 #[.val (.int p0), .val (.int p1), .val (.int p2), .val (.int p3), .val (.int (1 : Int32)), .val (.int (own_e0 p1)), .val (.int (own_e1 p1 p2)), .val (.int (own_e2 p1 p2 p3)), .val (.ref b73), .unset, .unset, .unset, .unset, .unset, .unset] [(.int (0 : Int32)), (.ref b89), (.ref b89)])) _
      refine XS.iload X89.here hx rfl (hb hby at_114) rfl ?_
      show Steps p.tables e below (T89.setTop (mkF m 116 #[.val (.int p0), .val (.int p1), .val (.int p2), .val (.int p3), .val (.int (1 : Int32)), .val (.int (own_e0 p1)), .val (.int (own_e1 p1 p2)), .val (.int (own_e2 p1 p2 p3)), .val (.ref b73), .unset, .unset, .unset, .unset, .unset, .unset] [(.int (own_e0 p1)), (.int (0 : Int32)), (.ref b89), (.ref b89)])) _
      refine st97 _ ?_
      show Steps p.tables e below (T97.setTop (mkF m 117 #[.val (.int p0), .val (.int p1), .val (.int p2), .val (.int p3), .val (.int (1 : Int32)), .val (.int (own_e0 p1)), .val (.int (own_e1 p1 p2)), .val (.int (own_e2 p1 p2 p3)), .val (.ref b73), .unset, .unset, .unset, .unset, .unset, .unset] [(.ref b89)])) _
      refine XS.dup X97.here hx rfl (hb hby at_117) rfl rfl ?_
      show Steps p.tables e below (T97.setTop (mkF m 118 #[.val (.int p0), .val (.int p1), .val (.int p2), .val (.int p3), .val (.int (1 : Int32)), .val (.int (own_e0 p1)), .val (.int (own_e1 p1 p2)), .val (.int (own_e2 p1 p2 p3)), .val (.ref b73), .unset, .unset, .unset, .unset, .unset, .unset] [(.ref b89), (.ref b89)])) _
      refine XS.iconst X97.here hx rfl (hb hby at_118) ?_
      show Steps p.tables e below (T97.setTop (mkF m 119 #[.val (.int p0), .val (.int p1), .val (.int p2), .val (.int p3), .val (.int (1 : Int32)), .val (.int (own_e0 p1)), .val (.int (own_e1 p1 p2)), .val (.int (own_e2 p1 p2 p3)), .val (.ref b73), .unset, .unset, .unset, .unset, .unset, .unset] [(.int (1 : Int32)), (.ref b89), (.ref b89)])) _
      refine XS.iload X97.here hx rfl (hb hby at_119) rfl ?_
      show Steps p.tables e below (T97.setTop (mkF m 121 #[.val (.int p0), .val (.int p1), .val (.int p2), .val (.int p3), .val (.int (1 : Int32)), .val (.int (own_e0 p1)), .val (.int (own_e1 p1 p2)), .val (.int (own_e2 p1 p2 p3)), .val (.ref b73), .unset, .unset, .unset, .unset, .unset, .unset] [(.int (own_e1 p1 p2)), (.int (1 : Int32)), (.ref b89), (.ref b89)])) _
      refine st109 _ ?_
      show Steps p.tables e below (T109.setTop (mkF m 122 #[.val (.int p0), .val (.int p1), .val (.int p2), .val (.int p3), .val (.int (1 : Int32)), .val (.int (own_e0 p1)), .val (.int (own_e1 p1 p2)), .val (.int (own_e2 p1 p2 p3)), .val (.ref b73), .unset, .unset, .unset, .unset, .unset, .unset] [(.ref b89)])) _
      refine XS.dup X109.here hx rfl (hb hby at_122) rfl rfl ?_
      exact kt
    obtain ⟨cl121, Ar121, S121, H121⟩ := id f119
    have hin121 : ¬ ((2 : Int32) < 0 ∨ cl121.slots.size ≤ ((2 : Int32)).toNatClampNeg) := own_inb S121 (by decide) (by decide)
    obtain ⟨T122, h122, X122, e122, W122, st122⟩ := stI X109 hx hZ e109 Ar121 (j := (2 : Int32)) hin121 (g := (mkF m 126 #[.val (.int p0), .val (.int p1), .val (.int p2), .val (.int p3), .val (.int (1 : Int32)), .val (.int (own_e0 p1)), .val (.int (own_e1 p1 p2)), .val (.int (own_e2 p1 p2 p3)), .val (.ref b73), .unset, .unset, .unset, .unset, .unset, .unset] [(.int (own_e2 p1 p2 p3)), (.int (2 : Int32)), (.ref b89), (.ref b89)])) rfl rfl (hb hby at_126)
    have f123 := f110.wr W122
    have f124 := f111.other W122 ne_aS_b89
    have f125 := f112.wr W122
    have f126 := f113.other W122 ne_b73_b89
    have f127 := f114.wr W122
    have k129 := k116.wr W122 (Or.inr sz_b89)
    have nf130 := Fr.snoc X122 nf117 gn_b89
    have f131 := f119.set W122
    have f132 : own_A Z h122 b89 3 (own_v3 (own_e0 p1) (own_e1 p1 p2) (own_e2 p1 p2 p3)) := f131.congr (fun j hj => by rcases j with _ | _ | _ | j <;> first | rfl | (simp [own_upd]; done) | omega)
    have pre133 : ∀ t, Steps p.tables e below (T122.setTop (mkF m 129 #[.val (.int p0), .val (.int p1), .val (.int p2), .val (.int p3), .val (.int (1 : Int32)), .val (.int (own_e0 p1)), .val (.int (own_e1 p1 p2)), .val (.int (own_e2 p1 p2 p3)), .val (.ref b73), .val (.ref b89), .unset, .unset, .unset, .unset, .unset] [])) t → Steps p.tables e below (s₁.setTop (entryFrame m #[(.int p0), (.int p1), (.int p2), (.int p3)] maxLocals)) t := by
      intro t kt
      refine pre120 t ?_
      show Steps p.tables e below (T109.setTop (mkF m 123 #[.val (.int p0), .val (.int p1), .val (.int p2), .val (.int p3), .val (.int (1 : Int32)), .val (.int (own_e0 p1)), .val (.int (own_e1 p1 p2)), .val (.int (own_e2 p1 p2 p3)), .val (.ref b73), .unset, .unset, .unset, .unset, .unset, .unset] [(.ref b89), (.ref b89)])) _
      refine XS.iconst X109.here hx rfl (hb hby at_123) ?_
      show Steps p.tables e below (T109.setTop (mkF m 124 #[.val (.int p0), .val (.int p1), .val (.int p2), .val (.int p3), .val (.int (1 : Int32)), .val (.int (own_e0 p1)), .val (.int (own_e1 p1 p2)), .val (.int (own_e2 p1 p2 p3)), .val (.ref b73), .unset, .unset, .unset, .unset, .unset, .unset] [(.int (2 : Int32)), (.ref b89), (.ref b89)])) _
      refine XS.iload X109.here hx rfl (hb hby at_124) rfl ?_
      show Steps p.tables e below (T109.setTop (mkF m 126 #[.val (.int p0), .val (.int p1), .val (.int p2), .val (.int p3), .val (.int (1 : Int32)), .val (.int (own_e0 p1)), .val (.int (own_e1 p1 p2)), .val (.int (own_e2 p1 p2 p3)), .val (.ref b73), .unset, .unset, .unset, .unset, .unset, .unset] [(.int (own_e2 p1 p2 p3)), (.int (2 : Int32)), (.ref b89), (.ref b89)])) _
      refine st122 _ ?_
      show Steps p.tables e below (T122.setTop (mkF m 127 #[.val (.int p0), .val (.int p1), .val (.int p2), .val (.int p3), .val (.int (1 : Int32)), .val (.int (own_e0 p1)), .val (.int (own_e1 p1 p2)), .val (.int (own_e2 p1 p2 p3)), .val (.ref b73), .unset, .unset, .unset, .unset, .unset, .unset] [(.ref b89)])) _
      refine XS.astore X122.here hx rfl (hb hby at_127) rfl rfl (l' := #[.val (.int p0), .val (.int p1), .val (.int p2), .val (.int p3), .val (.int (1 : Int32)), .val (.int (own_e0 p1)), .val (.int (own_e1 p1 p2)), .val (.int (own_e2 p1 p2 p3)), .val (.ref b73), .val (.ref b89), .unset, .unset, .unset, .unset, .unset]) rfl ?_
      exact kt
    by_cases hz0 : (own_e0 p1) = (0 : Int32)
    · skip
      have zs134 : n0 ≤ h122.size := Nat.le_trans Z0 k129.1
      obtain ⟨_, _, ⟨T135, L135, k135, n135⟩, -, X135, ⟨Lc135, hQ135, l135, y135, z135⟩, st135⟩ := Jvm.LawKit.callS X122 hx (y := (⟨"com/example/unfold/unfold/semantics/GateSets", "outsideHide", "([I)[I"⟩ : MethodName)) hown (mvT hZ (hw _ (List.mem_of_getElem? (i := 3) rfl))) (mvT hZ (hw _ (List.mem_of_getElem? (i := 4) rfl))) (mvT hZ (hw _ (List.mem_of_getElem? (i := 5) rfl))) (mvT hZ (hw _ (List.mem_of_getElem? (i := 6) rfl))) (by decide) (backOf (W := 0) (own_rm_oh1z l Z a0 hw [] b73 (own_e0 p1) aS h122 n0 zs134 f126 hz0 f123) hZ (hw _ (List.mem_of_getElem? (i := 6) rfl)) (hw _ (List.mem_of_getElem? (i := 5) rfl)) (by decide) (by decide)) (g := (mkF m 131 #[.val (.int p0), .val (.int p1), .val (.int p2), .val (.int p3), .val (.int (1 : Int32)), .val (.int (own_e0 p1)), .val (.int (own_e1 p1 p2)), .val (.int (own_e2 p1 p2 p3)), .val (.ref b73), .val (.ref b89), .unset, .unset, .unset, .unset, .unset] [(.ref b73)])) rfl (by rw [hml]; rfl) (argsL := [(.ref b73)]) (rest := []) (lenOf own_pd0 rfl) rfl (by show 2 * 0 + _ ≤ _; exact Nat.le_of_eq rfl) (hb hby at_131) (fun _ _ => ⟨rfl, e122, (by decide : 2 + 1 ≤ _), (by decide : 4 + 0 ≤ _)⟩)
      dsimp only [Pt.U, Pt.locs, Pt.cells, Pt.slots] at X135 l135 y135 z135 st135 hQ135
      rw [l135, (y135 : k135 = 3), (z135 : n135 = 4)] at X135
      clear l135 y135 z135
      obtain ⟨rfl, N136, K136⟩ := hQ135
      have f137 := own_sta_keep f123 K136 all0
      have f138 := f124.keep K136 nin0
      have f139 := f125.keep K136
      have f140 := f126.keep K136 nin0
      have f141 := f127.keep K136
      have f142 := f132.keep K136 nin0
      have k143 := k129.trans K136 all0
      have nf144 := Fr.app nf130 N136
      obtain ⟨cl145, Ar145, S145, -⟩ := id f140
      have pre146 : ∀ t, Steps p.tables e below (T135.setTop (mkF m 156 #[.val (.int p0), .val (.int p1), .val (.int p2), .val (.int p3), .val (.int (1 : Int32)), .val (.int (own_e0 p1)), .val (.int (own_e1 p1 p2)), .val (.int (own_e2 p1 p2 p3)), .val (.ref b73), .val (.ref b89), .val (.ref aS), .val (.int (1 : Int32)), .unset, .unset, .unset] [])) t → Steps p.tables e below (s₁.setTop (entryFrame m #[(.int p0), (.int p1), (.int p2), (.int p3)] maxLocals)) t := by
        intro t kt
        refine pre133 t ?_
        show Steps p.tables e below (T122.setTop (mkF m 129 #[.val (.int p0), .val (.int p1), .val (.int p2), .val (.int p3), .val (.int (1 : Int32)), .val (.int (own_e0 p1)), .val (.int (own_e1 p1 p2)), .val (.int (own_e2 p1 p2 p3)), .val (.ref b73), .val (.ref b89), .unset, .unset, .unset, .unset, .unset] [])) _
        refine XS.aload X122.here hx rfl (hb hby at_129) rfl rfl ?_
        show Steps p.tables e below (T122.setTop (mkF m 131 #[.val (.int p0), .val (.int p1), .val (.int p2), .val (.int p3), .val (.int (1 : Int32)), .val (.int (own_e0 p1)), .val (.int (own_e1 p1 p2)), .val (.int (own_e2 p1 p2 p3)), .val (.ref b73), .val (.ref b89), .unset, .unset, .unset, .unset, .unset] [(.ref b73)])) _
        refine st135 _ ?_
        show Steps p.tables e below (T135.setTop (mkF m 134 #[.val (.int p0), .val (.int p1), .val (.int p2), .val (.int p3), .val (.int (1 : Int32)), .val (.int (own_e0 p1)), .val (.int (own_e1 p1 p2)), .val (.int (own_e2 p1 p2 p3)), .val (.ref b73), .val (.ref b89), .unset, .unset, .unset, .unset, .unset] [(.ref aS)])) _
        refine XS.astore X135.here hx rfl (hb hby at_134) rfl rfl (l' := #[.val (.int p0), .val (.int p1), .val (.int p2), .val (.int p3), .val (.int (1 : Int32)), .val (.int (own_e0 p1)), .val (.int (own_e1 p1 p2)), .val (.int (own_e2 p1 p2 p3)), .val (.ref b73), .val (.ref b89), .val (.ref aS), .unset, .unset, .unset, .unset]) rfl ?_
        show Steps p.tables e below (T135.setTop (mkF m 136 #[.val (.int p0), .val (.int p1), .val (.int p2), .val (.int p3), .val (.int (1 : Int32)), .val (.int (own_e0 p1)), .val (.int (own_e1 p1 p2)), .val (.int (own_e2 p1 p2 p3)), .val (.ref b73), .val (.ref b89), .val (.ref aS), .unset, .unset, .unset, .unset] [])) _
        refine XS.aload X135.here hx rfl (hb hby at_136) rfl rfl ?_
        show Steps p.tables e below (T135.setTop (mkF m 138 #[.val (.int p0), .val (.int p1), .val (.int p2), .val (.int p3), .val (.int (1 : Int32)), .val (.int (own_e0 p1)), .val (.int (own_e1 p1 p2)), .val (.int (own_e2 p1 p2 p3)), .val (.ref b73), .val (.ref b89), .val (.ref aS), .unset, .unset, .unset, .unset] [(.ref b73)])) _
        refine X135.arraylength hx Ar145.1 (State.isArrayOf_alike hZ.alike Ar145.2.1) (g := (mkF m 138 #[.val (.int p0), .val (.int p1), .val (.int p2), .val (.int p3), .val (.int (1 : Int32)), .val (.int (own_e0 p1)), .val (.int (own_e1 p1 p2)), .val (.int (own_e2 p1 p2 p3)), .val (.ref b73), .val (.ref b89), .val (.ref aS), .unset, .unset, .unset, .unset] [(.ref b73)])) rfl rfl (hb hby at_138) _ ?_
        rw [own_len (z := (1 : Int32)) S145 rfl]
        show Steps p.tables e below (T135.setTop (mkF m 139 #[.val (.int p0), .val (.int p1), .val (.int p2), .val (.int p3), .val (.int (1 : Int32)), .val (.int (own_e0 p1)), .val (.int (own_e1 p1 p2)), .val (.int (own_e2 p1 p2 p3)), .val (.ref b73), .val (.ref b89), .val (.ref aS), .unset, .unset, .unset, .unset] [(.int (1 : Int32))])) _
        refine XS.iload X135.here hx rfl (hb hby at_139) rfl ?_
        show Steps p.tables e below (T135.setTop (mkF m 141 #[.val (.int p0), .val (.int p1), .val (.int p2), .val (.int p3), .val (.int (1 : Int32)), .val (.int (own_e0 p1)), .val (.int (own_e1 p1 p2)), .val (.int (own_e2 p1 p2 p3)), .val (.ref b73), .val (.ref b89), .val (.ref aS), .unset, .unset, .unset, .unset] [(.int (1 : Int32)), (.int (1 : Int32))])) _
        refine XS.icmpNo X135.here hx rfl (hb hby at_141) rfl (teq (rfl : (1 : Int32) = (1 : Int32))).2 ?_
        show Steps p.tables e below (T135.setTop (mkF m 144 #[.val (.int p0), .val (.int p1), .val (.int p2), .val (.int p3), .val (.int (1 : Int32)), .val (.int (own_e0 p1)), .val (.int (own_e1 p1 p2)), .val (.int (own_e2 p1 p2 p3)), .val (.ref b73), .val (.ref b89), .val (.ref aS), .unset, .unset, .unset, .unset] [])) _
        refine XS.iconst X135.here hx rfl (hb hby at_144) ?_
        show Steps p.tables e below (T135.setTop (mkF m 145 #[.val (.int p0), .val (.int p1), .val (.int p2), .val (.int p3), .val (.int (1 : Int32)), .val (.int (own_e0 p1)), .val (.int (own_e1 p1 p2)), .val (.int (own_e2 p1 p2 p3)), .val (.ref b73), .val (.ref b89), .val (.ref aS), .unset, .unset, .unset, .unset] [(.int (1 : Int32))])) _
        refine XS.goto X135.here hx rfl (pc0 := 145) (pc' := 149) rfl (hb hby at_145) (by decide) (by decide) ?_
        show Steps p.tables e below (T135.setTop (mkF m 149 #[.val (.int p0), .val (.int p1), .val (.int p2), .val (.int p3), .val (.int (1 : Int32)), .val (.int (own_e0 p1)), .val (.int (own_e1 p1 p2)), .val (.int (own_e2 p1 p2 p3)), .val (.ref b73), .val (.ref b89), .val (.ref aS), .unset, .unset, .unset, .unset] [(.int (1 : Int32))])) _
        refine XS.istore X135.here hx rfl (hb hby at_149) rfl (l' := #[.val (.int p0), .val (.int p1), .val (.int p2), .val (.int p3), .val (.int (1 : Int32)), .val (.int (own_e0 p1)), .val (.int (own_e1 p1 p2)), .val (.int (own_e2 p1 p2 p3)), .val (.ref b73), .val (.ref b89), .val (.ref aS), .val (.int (1 : Int32)), .unset, .unset, .unset]) rfl ?_
        show Steps p.tables e below (T135.setTop (mkF m 151 #[.val (.int p0), .val (.int p1), .val (.int p2), .val (.int p3), .val (.int (1 : Int32)), .val (.int (own_e0 p1)), .val (.int (own_e1 p1 p2)), .val (.int (own_e2 p1 p2 p3)), .val (.ref b73), .val (.ref b89), .val (.ref aS), .val (.int (1 : Int32)), .unset, .unset, .unset] [])) _
        refine XS.iload X135.here hx rfl (hb hby at_151) rfl ?_
        show Steps p.tables e below (T135.setTop (mkF m 153 #[.val (.int p0), .val (.int p1), .val (.int p2), .val (.int p3), .val (.int (1 : Int32)), .val (.int (own_e0 p1)), .val (.int (own_e1 p1 p2)), .val (.int (own_e2 p1 p2 p3)), .val (.ref b73), .val (.ref b89), .val (.ref aS), .val (.int (1 : Int32)), .unset, .unset, .unset] [(.int (1 : Int32))])) _
        refine XS.ifNo X135.here hx rfl (hb hby at_153) rfl ((if0 _ _).trans (tlt (by decide : (0 : Int32) < (1 : Int32))).2.2.2) ?_
        exact kt
      obtain ⟨cl147, Ar147, S147, H147⟩ := id f140
      have hin147 : ¬ ((0 : Int32) < 0 ∨ cl147.slots.size ≤ ((0 : Int32)).toNatClampNeg) := own_inb S147 (by decide) (by decide)
      have hat147 : cl147.slots[((0 : Int32)).toNatClampNeg]? = some (.int (own_e0 p1)) := H147 _ (by decide)
      have pre148 : ∀ t, Steps p.tables e below (T135.setTop (mkF m 180 #[.val (.int p0), .val (.int p1), .val (.int p2), .val (.int p3), .val (.int (1 : Int32)), .val (.int (own_e0 p1)), .val (.int (own_e1 p1 p2)), .val (.int (own_e2 p1 p2 p3)), .val (.ref b73), .val (.ref b89), .val (.ref aS), .val (.int (1 : Int32)), .unset, .unset, .unset] [(.int (1 : Int32)), (.int (1 : Int32))])) t → Steps p.tables e below (s₁.setTop (entryFrame m #[(.int p0), (.int p1), (.int p2), (.int p3)] maxLocals)) t := by
        intro t kt
        refine pre146 t ?_
        show Steps p.tables e below (T135.setTop (mkF m 156 #[.val (.int p0), .val (.int p1), .val (.int p2), .val (.int p3), .val (.int (1 : Int32)), .val (.int (own_e0 p1)), .val (.int (own_e1 p1 p2)), .val (.int (own_e2 p1 p2 p3)), .val (.ref b73), .val (.ref b89), .val (.ref aS), .val (.int (1 : Int32)), .unset, .unset, .unset] [])) _
        refine XS.iload X135.here hx rfl (hb hby at_156) rfl ?_
        show Steps p.tables e below (T135.setTop (mkF m 158 #[.val (.int p0), .val (.int p1), .val (.int p2), .val (.int p3), .val (.int (1 : Int32)), .val (.int (own_e0 p1)), .val (.int (own_e1 p1 p2)), .val (.int (own_e2 p1 p2 p3)), .val (.ref b73), .val (.ref b89), .val (.ref aS), .val (.int (1 : Int32)), .unset, .unset, .unset] [(.int (1 : Int32))])) _
        refine XS.ifNo X135.here hx rfl (hb hby at_158) rfl ((if0 _ _).trans (feq (by decide : ¬ ((1 : Int32) = (0 : Int32)))).1) ?_
        show Steps p.tables e below (T135.setTop (mkF m 161 #[.val (.int p0), .val (.int p1), .val (.int p2), .val (.int p3), .val (.int (1 : Int32)), .val (.int (own_e0 p1)), .val (.int (own_e1 p1 p2)), .val (.int (own_e2 p1 p2 p3)), .val (.ref b73), .val (.ref b89), .val (.ref aS), .val (.int (1 : Int32)), .unset, .unset, .unset] [])) _
        refine XS.aload X135.here hx rfl (hb hby at_161) rfl rfl ?_
        show Steps p.tables e below (T135.setTop (mkF m 163 #[.val (.int p0), .val (.int p1), .val (.int p2), .val (.int p3), .val (.int (1 : Int32)), .val (.int (own_e0 p1)), .val (.int (own_e1 p1 p2)), .val (.int (own_e2 p1 p2 p3)), .val (.ref b73), .val (.ref b89), .val (.ref aS), .val (.int (1 : Int32)), .unset, .unset, .unset] [(.ref b73)])) _
        refine XS.iconst X135.here hx rfl (hb hby at_163) ?_
        show Steps p.tables e below (T135.setTop (mkF m 164 #[.val (.int p0), .val (.int p1), .val (.int p2), .val (.int p3), .val (.int (1 : Int32)), .val (.int (own_e0 p1)), .val (.int (own_e1 p1 p2)), .val (.int (own_e2 p1 p2 p3)), .val (.ref b73), .val (.ref b89), .val (.ref aS), .val (.int (1 : Int32)), .unset, .unset, .unset] [(.int (0 : Int32)), (.ref b73)])) _
        refine X135.iaload hx (j := (0 : Int32)) (v := (.int (own_e0 p1))) Ar147.1 (State.isArrayOf_alike hZ.alike Ar147.2.1) Ar147.2.2 hin147 hat147 (g := (mkF m 164 #[.val (.int p0), .val (.int p1), .val (.int p2), .val (.int p3), .val (.int (1 : Int32)), .val (.int (own_e0 p1)), .val (.int (own_e1 p1 p2)), .val (.int (own_e2 p1 p2 p3)), .val (.ref b73), .val (.ref b89), .val (.ref aS), .val (.int (1 : Int32)), .unset, .unset, .unset] [(.int (0 : Int32)), (.ref b73)])) rfl rfl (hb hby at_164) _ ?_
        show Steps p.tables e below (T135.setTop (mkF m 165 #[.val (.int p0), .val (.int p1), .val (.int p2), .val (.int p3), .val (.int (1 : Int32)), .val (.int (own_e0 p1)), .val (.int (own_e1 p1 p2)), .val (.int (own_e2 p1 p2 p3)), .val (.ref b73), .val (.ref b89), .val (.ref aS), .val (.int (1 : Int32)), .unset, .unset, .unset] [(.int (own_e0 p1))])) _
        refine XS.iload X135.here hx rfl (hb hby at_165) rfl ?_
        show Steps p.tables e below (T135.setTop (mkF m 167 #[.val (.int p0), .val (.int p1), .val (.int p2), .val (.int p3), .val (.int (1 : Int32)), .val (.int (own_e0 p1)), .val (.int (own_e1 p1 p2)), .val (.int (own_e2 p1 p2 p3)), .val (.ref b73), .val (.ref b89), .val (.ref aS), .val (.int (1 : Int32)), .unset, .unset, .unset] [(.int (own_e0 p1)), (.int (own_e0 p1))])) _
        refine XS.icmpNo X135.here hx rfl (hb hby at_167) rfl (teq (rfl : (own_e0 p1) = (own_e0 p1))).2 ?_
        show Steps p.tables e below (T135.setTop (mkF m 170 #[.val (.int p0), .val (.int p1), .val (.int p2), .val (.int p3), .val (.int (1 : Int32)), .val (.int (own_e0 p1)), .val (.int (own_e1 p1 p2)), .val (.int (own_e2 p1 p2 p3)), .val (.ref b73), .val (.ref b89), .val (.ref aS), .val (.int (1 : Int32)), .unset, .unset, .unset] [])) _
        refine XS.iconst X135.here hx rfl (hb hby at_170) ?_
        show Steps p.tables e below (T135.setTop (mkF m 171 #[.val (.int p0), .val (.int p1), .val (.int p2), .val (.int p3), .val (.int (1 : Int32)), .val (.int (own_e0 p1)), .val (.int (own_e1 p1 p2)), .val (.int (own_e2 p1 p2 p3)), .val (.ref b73), .val (.ref b89), .val (.ref aS), .val (.int (1 : Int32)), .unset, .unset, .unset] [(.int (1 : Int32))])) _
        refine XS.goto X135.here hx rfl (pc0 := 171) (pc' := 175) rfl (hb hby at_171) (by decide) (by decide) ?_
        show Steps p.tables e below (T135.setTop (mkF m 175 #[.val (.int p0), .val (.int p1), .val (.int p2), .val (.int p3), .val (.int (1 : Int32)), .val (.int (own_e0 p1)), .val (.int (own_e1 p1 p2)), .val (.int (own_e2 p1 p2 p3)), .val (.ref b73), .val (.ref b89), .val (.ref aS), .val (.int (1 : Int32)), .unset, .unset, .unset] [(.int (1 : Int32))])) _
        refine XS.istore X135.here hx rfl (hb hby at_175) rfl (l' := #[.val (.int p0), .val (.int p1), .val (.int p2), .val (.int p3), .val (.int (1 : Int32)), .val (.int (own_e0 p1)), .val (.int (own_e1 p1 p2)), .val (.int (own_e2 p1 p2 p3)), .val (.ref b73), .val (.ref b89), .val (.ref aS), .val (.int (1 : Int32)), .unset, .unset, .unset]) rfl ?_
        show Steps p.tables e below (T135.setTop (mkF m 177 #[.val (.int p0), .val (.int p1), .val (.int p2), .val (.int p3), .val (.int (1 : Int32)), .val (.int (own_e0 p1)), .val (.int (own_e1 p1 p2)), .val (.int (own_e2 p1 p2 p3)), .val (.ref b73), .val (.ref b89), .val (.ref aS), .val (.int (1 : Int32)), .unset, .unset, .unset] [])) _
        refine XS.iload X135.here hx rfl (hb hby at_177) rfl ?_
        show Steps p.tables e below (T135.setTop (mkF m 179 #[.val (.int p0), .val (.int p1), .val (.int p2), .val (.int p3), .val (.int (1 : Int32)), .val (.int (own_e0 p1)), .val (.int (own_e1 p1 p2)), .val (.int (own_e2 p1 p2 p3)), .val (.ref b73), .val (.ref b89), .val (.ref aS), .val (.int (1 : Int32)), .unset, .unset, .unset] [(.int (1 : Int32))])) _
        refine XS.iconst X135.here hx rfl (hb hby at_179) ?_
        exact kt
      have pre149 : ∀ t, Steps p.tables e below (T135.setTop (mkF m 250 #[.val (.int p0), .val (.int p1), .val (.int p2), .val (.int p3), .val (.int (1 : Int32)), .val (.int (own_e0 p1)), .val (.int (own_e1 p1 p2)), .val (.int (own_e2 p1 p2 p3)), .val (.ref b73), .val (.ref b89), .val (.ref aS), .val (.int (1 : Int32)), .val (.int (1 : Int32)), .unset, .unset] [(.int (1 : Int32))])) t → Steps p.tables e below (s₁.setTop (entryFrame m #[(.int p0), (.int p1), (.int p2), (.int p3)] maxLocals)) t := by
        intro t kt
        refine pre148 t ?_
        show Steps p.tables e below (T135.setTop (mkF m 180 #[.val (.int p0), .val (.int p1), .val (.int p2), .val (.int p3), .val (.int (1 : Int32)), .val (.int (own_e0 p1)), .val (.int (own_e1 p1 p2)), .val (.int (own_e2 p1 p2 p3)), .val (.ref b73), .val (.ref b89), .val (.ref aS), .val (.int (1 : Int32)), .unset, .unset, .unset] [(.int (1 : Int32)), (.int (1 : Int32))])) _
        refine XS.icmpYes X135.here hx rfl (pc0 := 180) (pc' := 204) rfl (hb hby at_180) rfl (flt (by decide : ¬ ((1 : Int32) < (1 : Int32)))).2.2.2 (by decide) (by decide) ?_
        show Steps p.tables e below (T135.setTop (mkF m 204 #[.val (.int p0), .val (.int p1), .val (.int p2), .val (.int p3), .val (.int (1 : Int32)), .val (.int (own_e0 p1)), .val (.int (own_e1 p1 p2)), .val (.int (own_e2 p1 p2 p3)), .val (.ref b73), .val (.ref b89), .val (.ref aS), .val (.int (1 : Int32)), .unset, .unset, .unset] [])) _
        refine XS.iload X135.here hx rfl (hb hby at_204) rfl ?_
        show Steps p.tables e below (T135.setTop (mkF m 206 #[.val (.int p0), .val (.int p1), .val (.int p2), .val (.int p3), .val (.int (1 : Int32)), .val (.int (own_e0 p1)), .val (.int (own_e1 p1 p2)), .val (.int (own_e2 p1 p2 p3)), .val (.ref b73), .val (.ref b89), .val (.ref aS), .val (.int (1 : Int32)), .unset, .unset, .unset] [(.int (1 : Int32))])) _
        refine XS.iconst X135.here hx rfl (hb hby at_206) ?_
        show Steps p.tables e below (T135.setTop (mkF m 207 #[.val (.int p0), .val (.int p1), .val (.int p2), .val (.int p3), .val (.int (1 : Int32)), .val (.int (own_e0 p1)), .val (.int (own_e1 p1 p2)), .val (.int (own_e2 p1 p2 p3)), .val (.ref b73), .val (.ref b89), .val (.ref aS), .val (.int (1 : Int32)), .unset, .unset, .unset] [(.int (2 : Int32)), (.int (1 : Int32))])) _
        refine XS.icmpYes X135.here hx rfl (pc0 := 207) (pc' := 231) rfl (hb hby at_207) rfl (flt (by decide : ¬ ((2 : Int32) < (1 : Int32)))).2.2.2 (by decide) (by decide) ?_
        show Steps p.tables e below (T135.setTop (mkF m 231 #[.val (.int p0), .val (.int p1), .val (.int p2), .val (.int p3), .val (.int (1 : Int32)), .val (.int (own_e0 p1)), .val (.int (own_e1 p1 p2)), .val (.int (own_e2 p1 p2 p3)), .val (.ref b73), .val (.ref b89), .val (.ref aS), .val (.int (1 : Int32)), .unset, .unset, .unset] [])) _
        refine XS.iload X135.here hx rfl (hb hby at_231) rfl ?_
        show Steps p.tables e below (T135.setTop (mkF m 233 #[.val (.int p0), .val (.int p1), .val (.int p2), .val (.int p3), .val (.int (1 : Int32)), .val (.int (own_e0 p1)), .val (.int (own_e1 p1 p2)), .val (.int (own_e2 p1 p2 p3)), .val (.ref b73), .val (.ref b89), .val (.ref aS), .val (.int (1 : Int32)), .unset, .unset, .unset] [(.int (1 : Int32))])) _
        refine XS.ifNo X135.here hx rfl (hb hby at_233) rfl ((if0 _ _).trans (tlt (by decide : (0 : Int32) < (1 : Int32))).2.2.2) ?_
        show Steps p.tables e below (T135.setTop (mkF m 236 #[.val (.int p0), .val (.int p1), .val (.int p2), .val (.int p3), .val (.int (1 : Int32)), .val (.int (own_e0 p1)), .val (.int (own_e1 p1 p2)), .val (.int (own_e2 p1 p2 p3)), .val (.ref b73), .val (.ref b89), .val (.ref aS), .val (.int (1 : Int32)), .unset, .unset, .unset] [])) _
        refine XS.iload X135.here hx rfl (hb hby at_236) rfl ?_
        show Steps p.tables e below (T135.setTop (mkF m 238 #[.val (.int p0), .val (.int p1), .val (.int p2), .val (.int p3), .val (.int (1 : Int32)), .val (.int (own_e0 p1)), .val (.int (own_e1 p1 p2)), .val (.int (own_e2 p1 p2 p3)), .val (.ref b73), .val (.ref b89), .val (.ref aS), .val (.int (1 : Int32)), .unset, .unset, .unset] [(.int (own_e0 p1))])) _
        refine XS.ifNo X135.here hx rfl (hb hby at_238) rfl ((if0 _ _).trans (teq hz0).2) ?_
        show Steps p.tables e below (T135.setTop (mkF m 241 #[.val (.int p0), .val (.int p1), .val (.int p2), .val (.int p3), .val (.int (1 : Int32)), .val (.int (own_e0 p1)), .val (.int (own_e1 p1 p2)), .val (.int (own_e2 p1 p2 p3)), .val (.ref b73), .val (.ref b89), .val (.ref aS), .val (.int (1 : Int32)), .unset, .unset, .unset] [])) _
        refine XS.iconst X135.here hx rfl (hb hby at_241) ?_
        show Steps p.tables e below (T135.setTop (mkF m 242 #[.val (.int p0), .val (.int p1), .val (.int p2), .val (.int p3), .val (.int (1 : Int32)), .val (.int (own_e0 p1)), .val (.int (own_e1 p1 p2)), .val (.int (own_e2 p1 p2 p3)), .val (.ref b73), .val (.ref b89), .val (.ref aS), .val (.int (1 : Int32)), .unset, .unset, .unset] [(.int (1 : Int32))])) _
        refine XS.goto X135.here hx rfl (pc0 := 242) (pc' := 246) rfl (hb hby at_242) (by decide) (by decide) ?_
        show Steps p.tables e below (T135.setTop (mkF m 246 #[.val (.int p0), .val (.int p1), .val (.int p2), .val (.int p3), .val (.int (1 : Int32)), .val (.int (own_e0 p1)), .val (.int (own_e1 p1 p2)), .val (.int (own_e2 p1 p2 p3)), .val (.ref b73), .val (.ref b89), .val (.ref aS), .val (.int (1 : Int32)), .unset, .unset, .unset] [(.int (1 : Int32))])) _
        refine XS.istore X135.here hx rfl (hb hby at_246) rfl (l' := #[.val (.int p0), .val (.int p1), .val (.int p2), .val (.int p3), .val (.int (1 : Int32)), .val (.int (own_e0 p1)), .val (.int (own_e1 p1 p2)), .val (.int (own_e2 p1 p2 p3)), .val (.ref b73), .val (.ref b89), .val (.ref aS), .val (.int (1 : Int32)), .val (.int (1 : Int32)), .unset, .unset]) rfl ?_
        show Steps p.tables e below (T135.setTop (mkF m 248 #[.val (.int p0), .val (.int p1), .val (.int p2), .val (.int p3), .val (.int (1 : Int32)), .val (.int (own_e0 p1)), .val (.int (own_e1 p1 p2)), .val (.int (own_e2 p1 p2 p3)), .val (.ref b73), .val (.ref b89), .val (.ref aS), .val (.int (1 : Int32)), .val (.int (1 : Int32)), .unset, .unset] [])) _
        refine XS.iload X135.here hx rfl (hb hby at_248) rfl ?_
        exact kt
      obtain ⟨cl150, Ar150, S150, -⟩ := id f138
      have pre151 : ∀ t, Steps p.tables e below (T135.setTop (mkF m 275 #[.val (.int p0), .val (.int p1), .val (.int p2), .val (.int p3), .val (.int (1 : Int32)), .val (.int (own_e0 p1)), .val (.int (own_e1 p1 p2)), .val (.int (own_e2 p1 p2 p3)), .val (.ref b73), .val (.ref b89), .val (.ref aS), .val (.int (1 : Int32)), .val (.int (1 : Int32)), .val (.int (1 : Int32)), .val (.int (0 : Int32))] [(.int (0 : Int32))])) t → Steps p.tables e below (s₁.setTop (entryFrame m #[(.int p0), (.int p1), (.int p2), (.int p3)] maxLocals)) t := by
        intro t kt
        refine pre149 t ?_
        show Steps p.tables e below (T135.setTop (mkF m 250 #[.val (.int p0), .val (.int p1), .val (.int p2), .val (.int p3), .val (.int (1 : Int32)), .val (.int (own_e0 p1)), .val (.int (own_e1 p1 p2)), .val (.int (own_e2 p1 p2 p3)), .val (.ref b73), .val (.ref b89), .val (.ref aS), .val (.int (1 : Int32)), .val (.int (1 : Int32)), .unset, .unset] [(.int (1 : Int32))])) _
        refine XS.ifNo X135.here hx rfl (hb hby at_250) rfl ((if0 _ _).trans (feq (by decide : ¬ ((1 : Int32) = (0 : Int32)))).1) ?_
        show Steps p.tables e below (T135.setTop (mkF m 253 #[.val (.int p0), .val (.int p1), .val (.int p2), .val (.int p3), .val (.int (1 : Int32)), .val (.int (own_e0 p1)), .val (.int (own_e1 p1 p2)), .val (.int (own_e2 p1 p2 p3)), .val (.ref b73), .val (.ref b89), .val (.ref aS), .val (.int (1 : Int32)), .val (.int (1 : Int32)), .unset, .unset] [])) _
        refine XS.iconst X135.here hx rfl (hb hby at_253) ?_
        show Steps p.tables e below (T135.setTop (mkF m 254 #[.val (.int p0), .val (.int p1), .val (.int p2), .val (.int p3), .val (.int (1 : Int32)), .val (.int (own_e0 p1)), .val (.int (own_e1 p1 p2)), .val (.int (own_e2 p1 p2 p3)), .val (.ref b73), .val (.ref b89), .val (.ref aS), .val (.int (1 : Int32)), .val (.int (1 : Int32)), .unset, .unset] [(.int (1 : Int32))])) _
        refine XS.goto X135.here hx rfl (pc0 := 254) (pc' := 258) rfl (hb hby at_254) (by decide) (by decide) ?_
        show Steps p.tables e below (T135.setTop (mkF m 258 #[.val (.int p0), .val (.int p1), .val (.int p2), .val (.int p3), .val (.int (1 : Int32)), .val (.int (own_e0 p1)), .val (.int (own_e1 p1 p2)), .val (.int (own_e2 p1 p2 p3)), .val (.ref b73), .val (.ref b89), .val (.ref aS), .val (.int (1 : Int32)), .val (.int (1 : Int32)), .unset, .unset] [(.int (1 : Int32))])) _
        refine XS.istore X135.here hx rfl (hb hby at_258) rfl (l' := #[.val (.int p0), .val (.int p1), .val (.int p2), .val (.int p3), .val (.int (1 : Int32)), .val (.int (own_e0 p1)), .val (.int (own_e1 p1 p2)), .val (.int (own_e2 p1 p2 p3)), .val (.ref b73), .val (.ref b89), .val (.ref aS), .val (.int (1 : Int32)), .val (.int (1 : Int32)), .val (.int (1 : Int32)), .unset]) rfl ?_
        show Steps p.tables e below (T135.setTop (mkF m 260 #[.val (.int p0), .val (.int p1), .val (.int p2), .val (.int p3), .val (.int (1 : Int32)), .val (.int (own_e0 p1)), .val (.int (own_e1 p1 p2)), .val (.int (own_e2 p1 p2 p3)), .val (.ref b73), .val (.ref b89), .val (.ref aS), .val (.int (1 : Int32)), .val (.int (1 : Int32)), .val (.int (1 : Int32)), .unset] [])) _
        refine XS.iload X135.here hx rfl (hb hby at_260) rfl ?_
        show Steps p.tables e below (T135.setTop (mkF m 262 #[.val (.int p0), .val (.int p1), .val (.int p2), .val (.int p3), .val (.int (1 : Int32)), .val (.int (own_e0 p1)), .val (.int (own_e1 p1 p2)), .val (.int (own_e2 p1 p2 p3)), .val (.ref b73), .val (.ref b89), .val (.ref aS), .val (.int (1 : Int32)), .val (.int (1 : Int32)), .val (.int (1 : Int32)), .unset] [(.int (1 : Int32))])) _
        refine XS.iload X135.here hx rfl (hb hby at_262) rfl ?_
        show Steps p.tables e below (T135.setTop (mkF m 264 #[.val (.int p0), .val (.int p1), .val (.int p2), .val (.int p3), .val (.int (1 : Int32)), .val (.int (own_e0 p1)), .val (.int (own_e1 p1 p2)), .val (.int (own_e2 p1 p2 p3)), .val (.ref b73), .val (.ref b89), .val (.ref aS), .val (.int (1 : Int32)), .val (.int (1 : Int32)), .val (.int (1 : Int32)), .unset] [(.int (1 : Int32)), (.int (1 : Int32))])) _
        refine XS.isub X135.here hx rfl (hb hby at_264) rfl ?_
        show Steps p.tables e below (T135.setTop (mkF m 265 #[.val (.int p0), .val (.int p1), .val (.int p2), .val (.int p3), .val (.int (1 : Int32)), .val (.int (own_e0 p1)), .val (.int (own_e1 p1 p2)), .val (.int (own_e2 p1 p2 p3)), .val (.ref b73), .val (.ref b89), .val (.ref aS), .val (.int (1 : Int32)), .val (.int (1 : Int32)), .val (.int (1 : Int32)), .unset] [(.int (0 : Int32))])) _
        refine XS.istore X135.here hx rfl (hb hby at_265) rfl (l' := #[.val (.int p0), .val (.int p1), .val (.int p2), .val (.int p3), .val (.int (1 : Int32)), .val (.int (own_e0 p1)), .val (.int (own_e1 p1 p2)), .val (.int (own_e2 p1 p2 p3)), .val (.ref b73), .val (.ref b89), .val (.ref aS), .val (.int (1 : Int32)), .val (.int (1 : Int32)), .val (.int (1 : Int32)), .val (.int (0 : Int32))]) rfl ?_
        show Steps p.tables e below (T135.setTop (mkF m 267 #[.val (.int p0), .val (.int p1), .val (.int p2), .val (.int p3), .val (.int (1 : Int32)), .val (.int (own_e0 p1)), .val (.int (own_e1 p1 p2)), .val (.int (own_e2 p1 p2 p3)), .val (.ref b73), .val (.ref b89), .val (.ref aS), .val (.int (1 : Int32)), .val (.int (1 : Int32)), .val (.int (1 : Int32)), .val (.int (0 : Int32))] [])) _
        refine XS.aload X135.here hx rfl (hb hby at_267) rfl rfl ?_
        show Steps p.tables e below (T135.setTop (mkF m 269 #[.val (.int p0), .val (.int p1), .val (.int p2), .val (.int p3), .val (.int (1 : Int32)), .val (.int (own_e0 p1)), .val (.int (own_e1 p1 p2)), .val (.int (own_e2 p1 p2 p3)), .val (.ref b73), .val (.ref b89), .val (.ref aS), .val (.int (1 : Int32)), .val (.int (1 : Int32)), .val (.int (1 : Int32)), .val (.int (0 : Int32))] [(.ref aS)])) _
        refine XS.ifnullNo X135.here hx rfl (hb hby at_269) rfl ?_
        show Steps p.tables e below (T135.setTop (mkF m 272 #[.val (.int p0), .val (.int p1), .val (.int p2), .val (.int p3), .val (.int (1 : Int32)), .val (.int (own_e0 p1)), .val (.int (own_e1 p1 p2)), .val (.int (own_e2 p1 p2 p3)), .val (.ref b73), .val (.ref b89), .val (.ref aS), .val (.int (1 : Int32)), .val (.int (1 : Int32)), .val (.int (1 : Int32)), .val (.int (0 : Int32))] [])) _
        refine XS.aload X135.here hx rfl (hb hby at_272) rfl rfl ?_
        show Steps p.tables e below (T135.setTop (mkF m 274 #[.val (.int p0), .val (.int p1), .val (.int p2), .val (.int p3), .val (.int (1 : Int32)), .val (.int (own_e0 p1)), .val (.int (own_e1 p1 p2)), .val (.int (own_e2 p1 p2 p3)), .val (.ref b73), .val (.ref b89), .val (.ref aS), .val (.int (1 : Int32)), .val (.int (1 : Int32)), .val (.int (1 : Int32)), .val (.int (0 : Int32))] [(.ref aS)])) _
        refine X135.arraylength hx Ar150.1 (State.isArrayOf_alike hZ.alike Ar150.2.1) (g := (mkF m 274 #[.val (.int p0), .val (.int p1), .val (.int p2), .val (.int p3), .val (.int (1 : Int32)), .val (.int (own_e0 p1)), .val (.int (own_e1 p1 p2)), .val (.int (own_e2 p1 p2 p3)), .val (.ref b73), .val (.ref b89), .val (.ref aS), .val (.int (1 : Int32)), .val (.int (1 : Int32)), .val (.int (1 : Int32)), .val (.int (0 : Int32))] [(.ref aS)])) rfl rfl (hb hby at_274) _ ?_
        rw [own_len (z := (0 : Int32)) S150 rfl]
        exact kt
      have pre152 : ∀ t, Steps p.tables e below (T135.setTop (mkF m 383 #[.val (.int p0), .val (.int p1), .val (.int p2), .val (.int p3), .val (.int (1 : Int32)), .val (.int (own_e0 p1)), .val (.int (own_e1 p1 p2)), .val (.int (own_e2 p1 p2 p3)), .val (.ref b73), .val (.ref b89), .val (.ref aS), .val (.int (1 : Int32)), .val (.int (1 : Int32)), .val (.int (1 : Int32)), .val (.int (0 : Int32))] [(.int (1 : Int32))])) t → Steps p.tables e below (s₁.setTop (entryFrame m #[(.int p0), (.int p1), (.int p2), (.int p3)] maxLocals)) t := by
        intro t kt
        refine pre151 t ?_
        show Steps p.tables e below (T135.setTop (mkF m 275 #[.val (.int p0), .val (.int p1), .val (.int p2), .val (.int p3), .val (.int (1 : Int32)), .val (.int (own_e0 p1)), .val (.int (own_e1 p1 p2)), .val (.int (own_e2 p1 p2 p3)), .val (.ref b73), .val (.ref b89), .val (.ref aS), .val (.int (1 : Int32)), .val (.int (1 : Int32)), .val (.int (1 : Int32)), .val (.int (0 : Int32))] [(.int (0 : Int32))])) _
        refine XS.iload X135.here hx rfl (hb hby at_275) rfl ?_
        show Steps p.tables e below (T135.setTop (mkF m 277 #[.val (.int p0), .val (.int p1), .val (.int p2), .val (.int p3), .val (.int (1 : Int32)), .val (.int (own_e0 p1)), .val (.int (own_e1 p1 p2)), .val (.int (own_e2 p1 p2 p3)), .val (.ref b73), .val (.ref b89), .val (.ref aS), .val (.int (1 : Int32)), .val (.int (1 : Int32)), .val (.int (1 : Int32)), .val (.int (0 : Int32))] [(.int (0 : Int32)), (.int (0 : Int32))])) _
        refine XS.icmpYes X135.here hx rfl (pc0 := 277) (pc' := 282) rfl (hb hby at_277) rfl (teq (rfl : (0 : Int32) = (0 : Int32))).1 (by decide) (by decide) ?_
        show Steps p.tables e below (T135.setTop (mkF m 282 #[.val (.int p0), .val (.int p1), .val (.int p2), .val (.int p3), .val (.int (1 : Int32)), .val (.int (own_e0 p1)), .val (.int (own_e1 p1 p2)), .val (.int (own_e2 p1 p2 p3)), .val (.ref b73), .val (.ref b89), .val (.ref aS), .val (.int (1 : Int32)), .val (.int (1 : Int32)), .val (.int (1 : Int32)), .val (.int (0 : Int32))] [])) _
        refine XS.iload X135.here hx rfl (hb hby at_282) rfl ?_
        show Steps p.tables e below (T135.setTop (mkF m 284 #[.val (.int p0), .val (.int p1), .val (.int p2), .val (.int p3), .val (.int (1 : Int32)), .val (.int (own_e0 p1)), .val (.int (own_e1 p1 p2)), .val (.int (own_e2 p1 p2 p3)), .val (.ref b73), .val (.ref b89), .val (.ref aS), .val (.int (1 : Int32)), .val (.int (1 : Int32)), .val (.int (1 : Int32)), .val (.int (0 : Int32))] [(.int (0 : Int32))])) _
        refine XS.ifYes X135.here hx rfl (pc0 := 284) (pc' := 313) rfl (hb hby at_284) rfl ((if0 _ _).trans (flt (by decide : ¬ ((0 : Int32) < (0 : Int32)))).2.2.2) (by decide) (by decide) ?_
        show Steps p.tables e below (T135.setTop (mkF m 313 #[.val (.int p0), .val (.int p1), .val (.int p2), .val (.int p3), .val (.int (1 : Int32)), .val (.int (own_e0 p1)), .val (.int (own_e1 p1 p2)), .val (.int (own_e2 p1 p2 p3)), .val (.ref b73), .val (.ref b89), .val (.ref aS), .val (.int (1 : Int32)), .val (.int (1 : Int32)), .val (.int (1 : Int32)), .val (.int (0 : Int32))] [])) _
        refine XS.iload X135.here hx rfl (hb hby at_313) rfl ?_
        show Steps p.tables e below (T135.setTop (mkF m 315 #[.val (.int p0), .val (.int p1), .val (.int p2), .val (.int p3), .val (.int (1 : Int32)), .val (.int (own_e0 p1)), .val (.int (own_e1 p1 p2)), .val (.int (own_e2 p1 p2 p3)), .val (.ref b73), .val (.ref b89), .val (.ref aS), .val (.int (1 : Int32)), .val (.int (1 : Int32)), .val (.int (1 : Int32)), .val (.int (0 : Int32))] [(.int (0 : Int32))])) _
        refine XS.iconst X135.here hx rfl (hb hby at_315) ?_
        show Steps p.tables e below (T135.setTop (mkF m 316 #[.val (.int p0), .val (.int p1), .val (.int p2), .val (.int p3), .val (.int (1 : Int32)), .val (.int (own_e0 p1)), .val (.int (own_e1 p1 p2)), .val (.int (own_e2 p1 p2 p3)), .val (.ref b73), .val (.ref b89), .val (.ref aS), .val (.int (1 : Int32)), .val (.int (1 : Int32)), .val (.int (1 : Int32)), .val (.int (0 : Int32))] [(.int (1 : Int32)), (.int (0 : Int32))])) _
        refine XS.icmpYes X135.here hx rfl (pc0 := 316) (pc' := 347) rfl (hb hby at_316) rfl (flt (by decide : ¬ ((1 : Int32) < (0 : Int32)))).2.2.2 (by decide) (by decide) ?_
        show Steps p.tables e below (T135.setTop (mkF m 347 #[.val (.int p0), .val (.int p1), .val (.int p2), .val (.int p3), .val (.int (1 : Int32)), .val (.int (own_e0 p1)), .val (.int (own_e1 p1 p2)), .val (.int (own_e2 p1 p2 p3)), .val (.ref b73), .val (.ref b89), .val (.ref aS), .val (.int (1 : Int32)), .val (.int (1 : Int32)), .val (.int (1 : Int32)), .val (.int (0 : Int32))] [])) _
        refine XS.iload X135.here hx rfl (hb hby at_347) rfl ?_
        show Steps p.tables e below (T135.setTop (mkF m 349 #[.val (.int p0), .val (.int p1), .val (.int p2), .val (.int p3), .val (.int (1 : Int32)), .val (.int (own_e0 p1)), .val (.int (own_e1 p1 p2)), .val (.int (own_e2 p1 p2 p3)), .val (.ref b73), .val (.ref b89), .val (.ref aS), .val (.int (1 : Int32)), .val (.int (1 : Int32)), .val (.int (1 : Int32)), .val (.int (0 : Int32))] [(.int (0 : Int32))])) _
        refine XS.iconst X135.here hx rfl (hb hby at_349) ?_
        show Steps p.tables e below (T135.setTop (mkF m 350 #[.val (.int p0), .val (.int p1), .val (.int p2), .val (.int p3), .val (.int (1 : Int32)), .val (.int (own_e0 p1)), .val (.int (own_e1 p1 p2)), .val (.int (own_e2 p1 p2 p3)), .val (.ref b73), .val (.ref b89), .val (.ref aS), .val (.int (1 : Int32)), .val (.int (1 : Int32)), .val (.int (1 : Int32)), .val (.int (0 : Int32))] [(.int (2 : Int32)), (.int (0 : Int32))])) _
        refine XS.icmpYes X135.here hx rfl (pc0 := 350) (pc' := 381) rfl (hb hby at_350) rfl (flt (by decide : ¬ ((2 : Int32) < (0 : Int32)))).2.2.2 (by decide) (by decide) ?_
        show Steps p.tables e below (T135.setTop (mkF m 381 #[.val (.int p0), .val (.int p1), .val (.int p2), .val (.int p3), .val (.int (1 : Int32)), .val (.int (own_e0 p1)), .val (.int (own_e1 p1 p2)), .val (.int (own_e2 p1 p2 p3)), .val (.ref b73), .val (.ref b89), .val (.ref aS), .val (.int (1 : Int32)), .val (.int (1 : Int32)), .val (.int (1 : Int32)), .val (.int (0 : Int32))] [])) _
        refine XS.iload X135.here hx rfl (hb hby at_381) rfl ?_
        exact kt
      obtain ⟨fs, hr, hrun, hended, hW, hsame⟩ := X135.leave (v := some (.int (1 : Int32))) (fun h => by rw [Bd.returns] at h; cases h)
      refine ⟨_, _, pre152 _ ?_, hrun, hended, _, _, rfl, ?_, ⟨_, rfl⟩, hW, hsame.mono (by decide) (by decide)⟩
      · show Steps p.tables e below (T135.setTop (mkF m 383 #[.val (.int p0), .val (.int p1), .val (.int p2), .val (.int p3), .val (.int (1 : Int32)), .val (.int (own_e0 p1)), .val (.int (own_e1 p1 p2)), .val (.int (own_e2 p1 p2 p3)), .val (.ref b73), .val (.ref b89), .val (.ref aS), .val (.int (1 : Int32)), .val (.int (1 : Int32)), .val (.int (1 : Int32)), .val (.int (0 : Int32))] [(.int (1 : Int32))])) _
        exact retN X135 hx (t := .boolean) Bd.returns (by simp) (hb hby at_383) hr
      · show own_Q_law Z p0 p1 p2 p3 aS h0 n0 (some (.int (1 : Int32))) T135.heap _
        skip
        exact ⟨rfl, nf144⟩
    · skip
      have zs153 : n0 ≤ h122.size := Nat.le_trans Z0 k129.1
      obtain ⟨_, _, ⟨T154, L154, k154, n154⟩, -, X154, ⟨Lc154, hQ154, l154, y154, z154⟩, st154⟩ := Jvm.LawKit.callS X122 hx (y := (⟨"com/example/unfold/unfold/semantics/GateSets", "outsideHide", "([I)[I"⟩ : MethodName)) hown (mvT hZ (hw _ (List.mem_of_getElem? (i := 3) rfl))) (mvT hZ (hw _ (List.mem_of_getElem? (i := 4) rfl))) (mvT hZ (hw _ (List.mem_of_getElem? (i := 5) rfl))) (mvT hZ (hw _ (List.mem_of_getElem? (i := 6) rfl))) (by decide) (backOf (W := 0) (own_rm_oh1n l Z a0 hw [] b73 (own_e0 p1) h122 n0 zs153 f126 hz0) hZ (hw _ (List.mem_of_getElem? (i := 6) rfl)) (hw _ (List.mem_of_getElem? (i := 5) rfl)) (by decide) (by decide)) (g := (mkF m 131 #[.val (.int p0), .val (.int p1), .val (.int p2), .val (.int p3), .val (.int (1 : Int32)), .val (.int (own_e0 p1)), .val (.int (own_e1 p1 p2)), .val (.int (own_e2 p1 p2 p3)), .val (.ref b73), .val (.ref b89), .unset, .unset, .unset, .unset, .unset] [(.ref b73)])) rfl (by rw [hml]; rfl) (argsL := [(.ref b73)]) (rest := []) (lenOf own_pd0 rfl) rfl (by show 2 * 0 + _ ≤ _; exact Nat.le_of_eq rfl) (hb hby at_131) (fun _ _ => ⟨rfl, e122, (by decide : 2 + 1 ≤ _), (by decide : 4 + 1 ≤ _)⟩)
      dsimp only [Pt.U, Pt.locs, Pt.cells, Pt.slots] at X154 l154 y154 z154 st154 hQ154
      rw [l154, (y154 : k154 = 3), (z154 : n154 = 5)] at X154
      clear l154 y154 z154
      obtain ⟨r155, rfl, N155, K155, c155_0, c155_1⟩ := hQ154
      have sz_r155 : h0.size ≤ r155 := Nat.le_trans k129.1 c155_0
      have gn_r155 : n0 ≤ r155 := Nat.le_trans Z0 sz_r155
      have ne_aS_r155 : aS ≠ r155 := Nat.ne_of_lt (Nat.lt_of_lt_of_le f124.lt c155_0)
      have ne_b73_r155 : b73 ≠ r155 := Nat.ne_of_lt (Nat.lt_of_lt_of_le f126.lt c155_0)
      have ne_b89_r155 : b89 ≠ r155 := Nat.ne_of_lt (Nat.lt_of_lt_of_le f132.lt c155_0)
      have f156 := own_sta_keep f123 K155 all0
      have f157 := f124.keep K155 nin0
      have f158 := f125.keep K155
      have f159 := f126.keep K155 nin0
      have f160 := f127.keep K155
      have f161 := f132.keep K155 nin0
      have k162 := k129.trans K155 all0
      have nf163 := Fr.app nf130 N155
      obtain ⟨cl164, Ar164, S164, -⟩ := id f159
      have pre165 : ∀ t, Steps p.tables e below (T154.setTop (mkF m 156 #[.val (.int p0), .val (.int p1), .val (.int p2), .val (.int p3), .val (.int (1 : Int32)), .val (.int (own_e0 p1)), .val (.int (own_e1 p1 p2)), .val (.int (own_e2 p1 p2 p3)), .val (.ref b73), .val (.ref b89), .val (.ref r155), .val (.int (1 : Int32)), .unset, .unset, .unset] [])) t → Steps p.tables e below (s₁.setTop (entryFrame m #[(.int p0), (.int p1), (.int p2), (.int p3)] maxLocals)) t := by
        intro t kt
        refine pre133 t ?_
        show Steps p.tables e below (T122.setTop (mkF m 129 #[.val (.int p0), .val (.int p1), .val (.int p2), .val (.int p3), .val (.int (1 : Int32)), .val (.int (own_e0 p1)), .val (.int (own_e1 p1 p2)), .val (.int (own_e2 p1 p2 p3)), .val (.ref b73), .val (.ref b89), .unset, .unset, .unset, .unset, .unset] [])) _
        refine XS.aload X122.here hx rfl (hb hby at_129) rfl rfl ?_
        show Steps p.tables e below (T122.setTop (mkF m 131 #[.val (.int p0), .val (.int p1), .val (.int p2), .val (.int p3), .val (.int (1 : Int32)), .val (.int (own_e0 p1)), .val (.int (own_e1 p1 p2)), .val (.int (own_e2 p1 p2 p3)), .val (.ref b73), .val (.ref b89), .unset, .unset, .unset, .unset, .unset] [(.ref b73)])) _
        refine st154 _ ?_
        show Steps p.tables e below (T154.setTop (mkF m 134 #[.val (.int p0), .val (.int p1), .val (.int p2), .val (.int p3), .val (.int (1 : Int32)), .val (.int (own_e0 p1)), .val (.int (own_e1 p1 p2)), .val (.int (own_e2 p1 p2 p3)), .val (.ref b73), .val (.ref b89), .unset, .unset, .unset, .unset, .unset] [(.ref r155)])) _
        refine XS.astore X154.here hx rfl (hb hby at_134) rfl rfl (l' := #[.val (.int p0), .val (.int p1), .val (.int p2), .val (.int p3), .val (.int (1 : Int32)), .val (.int (own_e0 p1)), .val (.int (own_e1 p1 p2)), .val (.int (own_e2 p1 p2 p3)), .val (.ref b73), .val (.ref b89), .val (.ref r155), .unset, .unset, .unset, .unset]) rfl ?_
        show Steps p.tables e below (T154.setTop (mkF m 136 #[.val (.int p0), .val (.int p1), .val (.int p2), .val (.int p3), .val (.int (1 : Int32)), .val (.int (own_e0 p1)), .val (.int (own_e1 p1 p2)), .val (.int (own_e2 p1 p2 p3)), .val (.ref b73), .val (.ref b89), .val (.ref r155), .unset, .unset, .unset, .unset] [])) _
        refine XS.aload X154.here hx rfl (hb hby at_136) rfl rfl ?_
        show Steps p.tables e below (T154.setTop (mkF m 138 #[.val (.int p0), .val (.int p1), .val (.int p2), .val (.int p3), .val (.int (1 : Int32)), .val (.int (own_e0 p1)), .val (.int (own_e1 p1 p2)), .val (.int (own_e2 p1 p2 p3)), .val (.ref b73), .val (.ref b89), .val (.ref r155), .unset, .unset, .unset, .unset] [(.ref b73)])) _
        refine X154.arraylength hx Ar164.1 (State.isArrayOf_alike hZ.alike Ar164.2.1) (g := (mkF m 138 #[.val (.int p0), .val (.int p1), .val (.int p2), .val (.int p3), .val (.int (1 : Int32)), .val (.int (own_e0 p1)), .val (.int (own_e1 p1 p2)), .val (.int (own_e2 p1 p2 p3)), .val (.ref b73), .val (.ref b89), .val (.ref r155), .unset, .unset, .unset, .unset] [(.ref b73)])) rfl rfl (hb hby at_138) _ ?_
        rw [own_len (z := (1 : Int32)) S164 rfl]
        show Steps p.tables e below (T154.setTop (mkF m 139 #[.val (.int p0), .val (.int p1), .val (.int p2), .val (.int p3), .val (.int (1 : Int32)), .val (.int (own_e0 p1)), .val (.int (own_e1 p1 p2)), .val (.int (own_e2 p1 p2 p3)), .val (.ref b73), .val (.ref b89), .val (.ref r155), .unset, .unset, .unset, .unset] [(.int (1 : Int32))])) _
        refine XS.iload X154.here hx rfl (hb hby at_139) rfl ?_
        show Steps p.tables e below (T154.setTop (mkF m 141 #[.val (.int p0), .val (.int p1), .val (.int p2), .val (.int p3), .val (.int (1 : Int32)), .val (.int (own_e0 p1)), .val (.int (own_e1 p1 p2)), .val (.int (own_e2 p1 p2 p3)), .val (.ref b73), .val (.ref b89), .val (.ref r155), .unset, .unset, .unset, .unset] [(.int (1 : Int32)), (.int (1 : Int32))])) _
        refine XS.icmpNo X154.here hx rfl (hb hby at_141) rfl (teq (rfl : (1 : Int32) = (1 : Int32))).2 ?_
        show Steps p.tables e below (T154.setTop (mkF m 144 #[.val (.int p0), .val (.int p1), .val (.int p2), .val (.int p3), .val (.int (1 : Int32)), .val (.int (own_e0 p1)), .val (.int (own_e1 p1 p2)), .val (.int (own_e2 p1 p2 p3)), .val (.ref b73), .val (.ref b89), .val (.ref r155), .unset, .unset, .unset, .unset] [])) _
        refine XS.iconst X154.here hx rfl (hb hby at_144) ?_
        show Steps p.tables e below (T154.setTop (mkF m 145 #[.val (.int p0), .val (.int p1), .val (.int p2), .val (.int p3), .val (.int (1 : Int32)), .val (.int (own_e0 p1)), .val (.int (own_e1 p1 p2)), .val (.int (own_e2 p1 p2 p3)), .val (.ref b73), .val (.ref b89), .val (.ref r155), .unset, .unset, .unset, .unset] [(.int (1 : Int32))])) _
        refine XS.goto X154.here hx rfl (pc0 := 145) (pc' := 149) rfl (hb hby at_145) (by decide) (by decide) ?_
        show Steps p.tables e below (T154.setTop (mkF m 149 #[.val (.int p0), .val (.int p1), .val (.int p2), .val (.int p3), .val (.int (1 : Int32)), .val (.int (own_e0 p1)), .val (.int (own_e1 p1 p2)), .val (.int (own_e2 p1 p2 p3)), .val (.ref b73), .val (.ref b89), .val (.ref r155), .unset, .unset, .unset, .unset] [(.int (1 : Int32))])) _
        refine XS.istore X154.here hx rfl (hb hby at_149) rfl (l' := #[.val (.int p0), .val (.int p1), .val (.int p2), .val (.int p3), .val (.int (1 : Int32)), .val (.int (own_e0 p1)), .val (.int (own_e1 p1 p2)), .val (.int (own_e2 p1 p2 p3)), .val (.ref b73), .val (.ref b89), .val (.ref r155), .val (.int (1 : Int32)), .unset, .unset, .unset]) rfl ?_
        show Steps p.tables e below (T154.setTop (mkF m 151 #[.val (.int p0), .val (.int p1), .val (.int p2), .val (.int p3), .val (.int (1 : Int32)), .val (.int (own_e0 p1)), .val (.int (own_e1 p1 p2)), .val (.int (own_e2 p1 p2 p3)), .val (.ref b73), .val (.ref b89), .val (.ref r155), .val (.int (1 : Int32)), .unset, .unset, .unset] [])) _
        refine XS.iload X154.here hx rfl (hb hby at_151) rfl ?_
        show Steps p.tables e below (T154.setTop (mkF m 153 #[.val (.int p0), .val (.int p1), .val (.int p2), .val (.int p3), .val (.int (1 : Int32)), .val (.int (own_e0 p1)), .val (.int (own_e1 p1 p2)), .val (.int (own_e2 p1 p2 p3)), .val (.ref b73), .val (.ref b89), .val (.ref r155), .val (.int (1 : Int32)), .unset, .unset, .unset] [(.int (1 : Int32))])) _
        refine XS.ifNo X154.here hx rfl (hb hby at_153) rfl ((if0 _ _).trans (tlt (by decide : (0 : Int32) < (1 : Int32))).2.2.2) ?_
        exact kt
      obtain ⟨cl166, Ar166, S166, H166⟩ := id f159
      have hin166 : ¬ ((0 : Int32) < 0 ∨ cl166.slots.size ≤ ((0 : Int32)).toNatClampNeg) := own_inb S166 (by decide) (by decide)
      have hat166 : cl166.slots[((0 : Int32)).toNatClampNeg]? = some (.int (own_e0 p1)) := H166 _ (by decide)
      have pre167 : ∀ t, Steps p.tables e below (T154.setTop (mkF m 180 #[.val (.int p0), .val (.int p1), .val (.int p2), .val (.int p3), .val (.int (1 : Int32)), .val (.int (own_e0 p1)), .val (.int (own_e1 p1 p2)), .val (.int (own_e2 p1 p2 p3)), .val (.ref b73), .val (.ref b89), .val (.ref r155), .val (.int (1 : Int32)), .unset, .unset, .unset] [(.int (1 : Int32)), (.int (1 : Int32))])) t → Steps p.tables e below (s₁.setTop (entryFrame m #[(.int p0), (.int p1), (.int p2), (.int p3)] maxLocals)) t := by
        intro t kt
        refine pre165 t ?_
        show Steps p.tables e below (T154.setTop (mkF m 156 #[.val (.int p0), .val (.int p1), .val (.int p2), .val (.int p3), .val (.int (1 : Int32)), .val (.int (own_e0 p1)), .val (.int (own_e1 p1 p2)), .val (.int (own_e2 p1 p2 p3)), .val (.ref b73), .val (.ref b89), .val (.ref r155), .val (.int (1 : Int32)), .unset, .unset, .unset] [])) _
        refine XS.iload X154.here hx rfl (hb hby at_156) rfl ?_
        show Steps p.tables e below (T154.setTop (mkF m 158 #[.val (.int p0), .val (.int p1), .val (.int p2), .val (.int p3), .val (.int (1 : Int32)), .val (.int (own_e0 p1)), .val (.int (own_e1 p1 p2)), .val (.int (own_e2 p1 p2 p3)), .val (.ref b73), .val (.ref b89), .val (.ref r155), .val (.int (1 : Int32)), .unset, .unset, .unset] [(.int (1 : Int32))])) _
        refine XS.ifNo X154.here hx rfl (hb hby at_158) rfl ((if0 _ _).trans (feq (by decide : ¬ ((1 : Int32) = (0 : Int32)))).1) ?_
        show Steps p.tables e below (T154.setTop (mkF m 161 #[.val (.int p0), .val (.int p1), .val (.int p2), .val (.int p3), .val (.int (1 : Int32)), .val (.int (own_e0 p1)), .val (.int (own_e1 p1 p2)), .val (.int (own_e2 p1 p2 p3)), .val (.ref b73), .val (.ref b89), .val (.ref r155), .val (.int (1 : Int32)), .unset, .unset, .unset] [])) _
        refine XS.aload X154.here hx rfl (hb hby at_161) rfl rfl ?_
        show Steps p.tables e below (T154.setTop (mkF m 163 #[.val (.int p0), .val (.int p1), .val (.int p2), .val (.int p3), .val (.int (1 : Int32)), .val (.int (own_e0 p1)), .val (.int (own_e1 p1 p2)), .val (.int (own_e2 p1 p2 p3)), .val (.ref b73), .val (.ref b89), .val (.ref r155), .val (.int (1 : Int32)), .unset, .unset, .unset] [(.ref b73)])) _
        refine XS.iconst X154.here hx rfl (hb hby at_163) ?_
        show Steps p.tables e below (T154.setTop (mkF m 164 #[.val (.int p0), .val (.int p1), .val (.int p2), .val (.int p3), .val (.int (1 : Int32)), .val (.int (own_e0 p1)), .val (.int (own_e1 p1 p2)), .val (.int (own_e2 p1 p2 p3)), .val (.ref b73), .val (.ref b89), .val (.ref r155), .val (.int (1 : Int32)), .unset, .unset, .unset] [(.int (0 : Int32)), (.ref b73)])) _
        refine X154.iaload hx (j := (0 : Int32)) (v := (.int (own_e0 p1))) Ar166.1 (State.isArrayOf_alike hZ.alike Ar166.2.1) Ar166.2.2 hin166 hat166 (g := (mkF m 164 #[.val (.int p0), .val (.int p1), .val (.int p2), .val (.int p3), .val (.int (1 : Int32)), .val (.int (own_e0 p1)), .val (.int (own_e1 p1 p2)), .val (.int (own_e2 p1 p2 p3)), .val (.ref b73), .val (.ref b89), .val (.ref r155), .val (.int (1 : Int32)), .unset, .unset, .unset] [(.int (0 : Int32)), (.ref b73)])) rfl rfl (hb hby at_164) _ ?_
        show Steps p.tables e below (T154.setTop (mkF m 165 #[.val (.int p0), .val (.int p1), .val (.int p2), .val (.int p3), .val (.int (1 : Int32)), .val (.int (own_e0 p1)), .val (.int (own_e1 p1 p2)), .val (.int (own_e2 p1 p2 p3)), .val (.ref b73), .val (.ref b89), .val (.ref r155), .val (.int (1 : Int32)), .unset, .unset, .unset] [(.int (own_e0 p1))])) _
        refine XS.iload X154.here hx rfl (hb hby at_165) rfl ?_
        show Steps p.tables e below (T154.setTop (mkF m 167 #[.val (.int p0), .val (.int p1), .val (.int p2), .val (.int p3), .val (.int (1 : Int32)), .val (.int (own_e0 p1)), .val (.int (own_e1 p1 p2)), .val (.int (own_e2 p1 p2 p3)), .val (.ref b73), .val (.ref b89), .val (.ref r155), .val (.int (1 : Int32)), .unset, .unset, .unset] [(.int (own_e0 p1)), (.int (own_e0 p1))])) _
        refine XS.icmpNo X154.here hx rfl (hb hby at_167) rfl (teq (rfl : (own_e0 p1) = (own_e0 p1))).2 ?_
        show Steps p.tables e below (T154.setTop (mkF m 170 #[.val (.int p0), .val (.int p1), .val (.int p2), .val (.int p3), .val (.int (1 : Int32)), .val (.int (own_e0 p1)), .val (.int (own_e1 p1 p2)), .val (.int (own_e2 p1 p2 p3)), .val (.ref b73), .val (.ref b89), .val (.ref r155), .val (.int (1 : Int32)), .unset, .unset, .unset] [])) _
        refine XS.iconst X154.here hx rfl (hb hby at_170) ?_
        show Steps p.tables e below (T154.setTop (mkF m 171 #[.val (.int p0), .val (.int p1), .val (.int p2), .val (.int p3), .val (.int (1 : Int32)), .val (.int (own_e0 p1)), .val (.int (own_e1 p1 p2)), .val (.int (own_e2 p1 p2 p3)), .val (.ref b73), .val (.ref b89), .val (.ref r155), .val (.int (1 : Int32)), .unset, .unset, .unset] [(.int (1 : Int32))])) _
        refine XS.goto X154.here hx rfl (pc0 := 171) (pc' := 175) rfl (hb hby at_171) (by decide) (by decide) ?_
        show Steps p.tables e below (T154.setTop (mkF m 175 #[.val (.int p0), .val (.int p1), .val (.int p2), .val (.int p3), .val (.int (1 : Int32)), .val (.int (own_e0 p1)), .val (.int (own_e1 p1 p2)), .val (.int (own_e2 p1 p2 p3)), .val (.ref b73), .val (.ref b89), .val (.ref r155), .val (.int (1 : Int32)), .unset, .unset, .unset] [(.int (1 : Int32))])) _
        refine XS.istore X154.here hx rfl (hb hby at_175) rfl (l' := #[.val (.int p0), .val (.int p1), .val (.int p2), .val (.int p3), .val (.int (1 : Int32)), .val (.int (own_e0 p1)), .val (.int (own_e1 p1 p2)), .val (.int (own_e2 p1 p2 p3)), .val (.ref b73), .val (.ref b89), .val (.ref r155), .val (.int (1 : Int32)), .unset, .unset, .unset]) rfl ?_
        show Steps p.tables e below (T154.setTop (mkF m 177 #[.val (.int p0), .val (.int p1), .val (.int p2), .val (.int p3), .val (.int (1 : Int32)), .val (.int (own_e0 p1)), .val (.int (own_e1 p1 p2)), .val (.int (own_e2 p1 p2 p3)), .val (.ref b73), .val (.ref b89), .val (.ref r155), .val (.int (1 : Int32)), .unset, .unset, .unset] [])) _
        refine XS.iload X154.here hx rfl (hb hby at_177) rfl ?_
        show Steps p.tables e below (T154.setTop (mkF m 179 #[.val (.int p0), .val (.int p1), .val (.int p2), .val (.int p3), .val (.int (1 : Int32)), .val (.int (own_e0 p1)), .val (.int (own_e1 p1 p2)), .val (.int (own_e2 p1 p2 p3)), .val (.ref b73), .val (.ref b89), .val (.ref r155), .val (.int (1 : Int32)), .unset, .unset, .unset] [(.int (1 : Int32))])) _
        refine XS.iconst X154.here hx rfl (hb hby at_179) ?_
        exact kt
      have pre168 : ∀ t, Steps p.tables e below (T154.setTop (mkF m 257 #[.val (.int p0), .val (.int p1), .val (.int p2), .val (.int p3), .val (.int (1 : Int32)), .val (.int (own_e0 p1)), .val (.int (own_e1 p1 p2)), .val (.int (own_e2 p1 p2 p3)), .val (.ref b73), .val (.ref b89), .val (.ref r155), .val (.int (1 : Int32)), .val (.int (0 : Int32)), .unset, .unset] [])) t → Steps p.tables e below (s₁.setTop (entryFrame m #[(.int p0), (.int p1), (.int p2), (.int p3)] maxLocals)) t := by
        intro t kt
        refine pre167 t ?_
        show Steps p.tables e below (T154.setTop (mkF m 180 #[.val (.int p0), .val (.int p1), .val (.int p2), .val (.int p3), .val (.int (1 : Int32)), .val (.int (own_e0 p1)), .val (.int (own_e1 p1 p2)), .val (.int (own_e2 p1 p2 p3)), .val (.ref b73), .val (.ref b89), .val (.ref r155), .val (.int (1 : Int32)), .unset, .unset, .unset] [(.int (1 : Int32)), (.int (1 : Int32))])) _
        refine XS.icmpYes X154.here hx rfl (pc0 := 180) (pc' := 204) rfl (hb hby at_180) rfl (flt (by decide : ¬ ((1 : Int32) < (1 : Int32)))).2.2.2 (by decide) (by decide) ?_
        show Steps p.tables e below (T154.setTop (mkF m 204 #[.val (.int p0), .val (.int p1), .val (.int p2), .val (.int p3), .val (.int (1 : Int32)), .val (.int (own_e0 p1)), .val (.int (own_e1 p1 p2)), .val (.int (own_e2 p1 p2 p3)), .val (.ref b73), .val (.ref b89), .val (.ref r155), .val (.int (1 : Int32)), .unset, .unset, .unset] [])) _
        refine XS.iload X154.here hx rfl (hb hby at_204) rfl ?_
        show Steps p.tables e below (T154.setTop (mkF m 206 #[.val (.int p0), .val (.int p1), .val (.int p2), .val (.int p3), .val (.int (1 : Int32)), .val (.int (own_e0 p1)), .val (.int (own_e1 p1 p2)), .val (.int (own_e2 p1 p2 p3)), .val (.ref b73), .val (.ref b89), .val (.ref r155), .val (.int (1 : Int32)), .unset, .unset, .unset] [(.int (1 : Int32))])) _
        refine XS.iconst X154.here hx rfl (hb hby at_206) ?_
        show Steps p.tables e below (T154.setTop (mkF m 207 #[.val (.int p0), .val (.int p1), .val (.int p2), .val (.int p3), .val (.int (1 : Int32)), .val (.int (own_e0 p1)), .val (.int (own_e1 p1 p2)), .val (.int (own_e2 p1 p2 p3)), .val (.ref b73), .val (.ref b89), .val (.ref r155), .val (.int (1 : Int32)), .unset, .unset, .unset] [(.int (2 : Int32)), (.int (1 : Int32))])) _
        refine XS.icmpYes X154.here hx rfl (pc0 := 207) (pc' := 231) rfl (hb hby at_207) rfl (flt (by decide : ¬ ((2 : Int32) < (1 : Int32)))).2.2.2 (by decide) (by decide) ?_
        show Steps p.tables e below (T154.setTop (mkF m 231 #[.val (.int p0), .val (.int p1), .val (.int p2), .val (.int p3), .val (.int (1 : Int32)), .val (.int (own_e0 p1)), .val (.int (own_e1 p1 p2)), .val (.int (own_e2 p1 p2 p3)), .val (.ref b73), .val (.ref b89), .val (.ref r155), .val (.int (1 : Int32)), .unset, .unset, .unset] [])) _
        refine XS.iload X154.here hx rfl (hb hby at_231) rfl ?_
        show Steps p.tables e below (T154.setTop (mkF m 233 #[.val (.int p0), .val (.int p1), .val (.int p2), .val (.int p3), .val (.int (1 : Int32)), .val (.int (own_e0 p1)), .val (.int (own_e1 p1 p2)), .val (.int (own_e2 p1 p2 p3)), .val (.ref b73), .val (.ref b89), .val (.ref r155), .val (.int (1 : Int32)), .unset, .unset, .unset] [(.int (1 : Int32))])) _
        refine XS.ifNo X154.here hx rfl (hb hby at_233) rfl ((if0 _ _).trans (tlt (by decide : (0 : Int32) < (1 : Int32))).2.2.2) ?_
        show Steps p.tables e below (T154.setTop (mkF m 236 #[.val (.int p0), .val (.int p1), .val (.int p2), .val (.int p3), .val (.int (1 : Int32)), .val (.int (own_e0 p1)), .val (.int (own_e1 p1 p2)), .val (.int (own_e2 p1 p2 p3)), .val (.ref b73), .val (.ref b89), .val (.ref r155), .val (.int (1 : Int32)), .unset, .unset, .unset] [])) _
        refine XS.iload X154.here hx rfl (hb hby at_236) rfl ?_
        show Steps p.tables e below (T154.setTop (mkF m 238 #[.val (.int p0), .val (.int p1), .val (.int p2), .val (.int p3), .val (.int (1 : Int32)), .val (.int (own_e0 p1)), .val (.int (own_e1 p1 p2)), .val (.int (own_e2 p1 p2 p3)), .val (.ref b73), .val (.ref b89), .val (.ref r155), .val (.int (1 : Int32)), .unset, .unset, .unset] [(.int (own_e0 p1))])) _
        refine XS.ifYes X154.here hx rfl (pc0 := 238) (pc' := 245) rfl (hb hby at_238) rfl ((if0 _ _).trans (feq hz0).2) (by decide) (by decide) ?_
        show Steps p.tables e below (T154.setTop (mkF m 245 #[.val (.int p0), .val (.int p1), .val (.int p2), .val (.int p3), .val (.int (1 : Int32)), .val (.int (own_e0 p1)), .val (.int (own_e1 p1 p2)), .val (.int (own_e2 p1 p2 p3)), .val (.ref b73), .val (.ref b89), .val (.ref r155), .val (.int (1 : Int32)), .unset, .unset, .unset] [])) _
        refine XS.iconst X154.here hx rfl (hb hby at_245) ?_
        show Steps p.tables e below (T154.setTop (mkF m 246 #[.val (.int p0), .val (.int p1), .val (.int p2), .val (.int p3), .val (.int (1 : Int32)), .val (.int (own_e0 p1)), .val (.int (own_e1 p1 p2)), .val (.int (own_e2 p1 p2 p3)), .val (.ref b73), .val (.ref b89), .val (.ref r155), .val (.int (1 : Int32)), .unset, .unset, .unset] [(.int (0 : Int32))])) _
        refine XS.istore X154.here hx rfl (hb hby at_246) rfl (l' := #[.val (.int p0), .val (.int p1), .val (.int p2), .val (.int p3), .val (.int (1 : Int32)), .val (.int (own_e0 p1)), .val (.int (own_e1 p1 p2)), .val (.int (own_e2 p1 p2 p3)), .val (.ref b73), .val (.ref b89), .val (.ref r155), .val (.int (1 : Int32)), .val (.int (0 : Int32)), .unset, .unset]) rfl ?_
        show Steps p.tables e below (T154.setTop (mkF m 248 #[.val (.int p0), .val (.int p1), .val (.int p2), .val (.int p3), .val (.int (1 : Int32)), .val (.int (own_e0 p1)), .val (.int (own_e1 p1 p2)), .val (.int (own_e2 p1 p2 p3)), .val (.ref b73), .val (.ref b89), .val (.ref r155), .val (.int (1 : Int32)), .val (.int (0 : Int32)), .unset, .unset] [])) _
        refine XS.iload X154.here hx rfl (hb hby at_248) rfl ?_
        show Steps p.tables e below (T154.setTop (mkF m 250 #[.val (.int p0), .val (.int p1), .val (.int p2), .val (.int p3), .val (.int (1 : Int32)), .val (.int (own_e0 p1)), .val (.int (own_e1 p1 p2)), .val (.int (own_e2 p1 p2 p3)), .val (.ref b73), .val (.ref b89), .val (.ref r155), .val (.int (1 : Int32)), .val (.int (0 : Int32)), .unset, .unset] [(.int (0 : Int32))])) _
        refine XS.ifYes X154.here hx rfl (pc0 := 250) (pc' := 257) rfl (hb hby at_250) rfl ((if0 _ _).trans (teq (rfl : (0 : Int32) = (0 : Int32))).1) (by decide) (by decide) ?_
        exact kt
      obtain ⟨cl169, Ar169, S169, -⟩ := id c155_1
      have pre170 : ∀ t, Steps p.tables e below (T154.setTop (mkF m 282 #[.val (.int p0), .val (.int p1), .val (.int p2), .val (.int p3), .val (.int (1 : Int32)), .val (.int (own_e0 p1)), .val (.int (own_e1 p1 p2)), .val (.int (own_e2 p1 p2 p3)), .val (.ref b73), .val (.ref b89), .val (.ref r155), .val (.int (1 : Int32)), .val (.int (0 : Int32)), .val (.int (0 : Int32)), .val (.int (1 : Int32))] [])) t → Steps p.tables e below (s₁.setTop (entryFrame m #[(.int p0), (.int p1), (.int p2), (.int p3)] maxLocals)) t := by
        intro t kt
        refine pre168 t ?_
        show Steps p.tables e below (T154.setTop (mkF m 257 #[.val (.int p0), .val (.int p1), .val (.int p2), .val (.int p3), .val (.int (1 : Int32)), .val (.int (own_e0 p1)), .val (.int (own_e1 p1 p2)), .val (.int (own_e2 p1 p2 p3)), .val (.ref b73), .val (.ref b89), .val (.ref r155), .val (.int (1 : Int32)), .val (.int (0 : Int32)), .unset, .unset] [])) _
        refine XS.iconst X154.here hx rfl (hb hby at_257) ?_
        show Steps p.tables e below (T154.setTop (mkF m 258 #[.val (.int p0), .val (.int p1), .val (.int p2), .val (.int p3), .val (.int (1 : Int32)), .val (.int (own_e0 p1)), .val (.int (own_e1 p1 p2)), .val (.int (own_e2 p1 p2 p3)), .val (.ref b73), .val (.ref b89), .val (.ref r155), .val (.int (1 : Int32)), .val (.int (0 : Int32)), .unset, .unset] [(.int (0 : Int32))])) _
        refine XS.istore X154.here hx rfl (hb hby at_258) rfl (l' := #[.val (.int p0), .val (.int p1), .val (.int p2), .val (.int p3), .val (.int (1 : Int32)), .val (.int (own_e0 p1)), .val (.int (own_e1 p1 p2)), .val (.int (own_e2 p1 p2 p3)), .val (.ref b73), .val (.ref b89), .val (.ref r155), .val (.int (1 : Int32)), .val (.int (0 : Int32)), .val (.int (0 : Int32)), .unset]) rfl ?_
        show Steps p.tables e below (T154.setTop (mkF m 260 #[.val (.int p0), .val (.int p1), .val (.int p2), .val (.int p3), .val (.int (1 : Int32)), .val (.int (own_e0 p1)), .val (.int (own_e1 p1 p2)), .val (.int (own_e2 p1 p2 p3)), .val (.ref b73), .val (.ref b89), .val (.ref r155), .val (.int (1 : Int32)), .val (.int (0 : Int32)), .val (.int (0 : Int32)), .unset] [])) _
        refine XS.iload X154.here hx rfl (hb hby at_260) rfl ?_
        show Steps p.tables e below (T154.setTop (mkF m 262 #[.val (.int p0), .val (.int p1), .val (.int p2), .val (.int p3), .val (.int (1 : Int32)), .val (.int (own_e0 p1)), .val (.int (own_e1 p1 p2)), .val (.int (own_e2 p1 p2 p3)), .val (.ref b73), .val (.ref b89), .val (.ref r155), .val (.int (1 : Int32)), .val (.int (0 : Int32)), .val (.int (0 : Int32)), .unset] [(.int (1 : Int32))])) _
        refine XS.iload X154.here hx rfl (hb hby at_262) rfl ?_
        show Steps p.tables e below (T154.setTop (mkF m 264 #[.val (.int p0), .val (.int p1), .val (.int p2), .val (.int p3), .val (.int (1 : Int32)), .val (.int (own_e0 p1)), .val (.int (own_e1 p1 p2)), .val (.int (own_e2 p1 p2 p3)), .val (.ref b73), .val (.ref b89), .val (.ref r155), .val (.int (1 : Int32)), .val (.int (0 : Int32)), .val (.int (0 : Int32)), .unset] [(.int (0 : Int32)), (.int (1 : Int32))])) _
        refine XS.isub X154.here hx rfl (hb hby at_264) rfl ?_
        show Steps p.tables e below (T154.setTop (mkF m 265 #[.val (.int p0), .val (.int p1), .val (.int p2), .val (.int p3), .val (.int (1 : Int32)), .val (.int (own_e0 p1)), .val (.int (own_e1 p1 p2)), .val (.int (own_e2 p1 p2 p3)), .val (.ref b73), .val (.ref b89), .val (.ref r155), .val (.int (1 : Int32)), .val (.int (0 : Int32)), .val (.int (0 : Int32)), .unset] [(.int (1 : Int32))])) _
        refine XS.istore X154.here hx rfl (hb hby at_265) rfl (l' := #[.val (.int p0), .val (.int p1), .val (.int p2), .val (.int p3), .val (.int (1 : Int32)), .val (.int (own_e0 p1)), .val (.int (own_e1 p1 p2)), .val (.int (own_e2 p1 p2 p3)), .val (.ref b73), .val (.ref b89), .val (.ref r155), .val (.int (1 : Int32)), .val (.int (0 : Int32)), .val (.int (0 : Int32)), .val (.int (1 : Int32))]) rfl ?_
        show Steps p.tables e below (T154.setTop (mkF m 267 #[.val (.int p0), .val (.int p1), .val (.int p2), .val (.int p3), .val (.int (1 : Int32)), .val (.int (own_e0 p1)), .val (.int (own_e1 p1 p2)), .val (.int (own_e2 p1 p2 p3)), .val (.ref b73), .val (.ref b89), .val (.ref r155), .val (.int (1 : Int32)), .val (.int (0 : Int32)), .val (.int (0 : Int32)), .val (.int (1 : Int32))] [])) _
        refine XS.aload X154.here hx rfl (hb hby at_267) rfl rfl ?_
        show Steps p.tables e below (T154.setTop (mkF m 269 #[.val (.int p0), .val (.int p1), .val (.int p2), .val (.int p3), .val (.int (1 : Int32)), .val (.int (own_e0 p1)), .val (.int (own_e1 p1 p2)), .val (.int (own_e2 p1 p2 p3)), .val (.ref b73), .val (.ref b89), .val (.ref r155), .val (.int (1 : Int32)), .val (.int (0 : Int32)), .val (.int (0 : Int32)), .val (.int (1 : Int32))] [(.ref r155)])) _
        refine XS.ifnullNo X154.here hx rfl (hb hby at_269) rfl ?_
        show Steps p.tables e below (T154.setTop (mkF m 272 #[.val (.int p0), .val (.int p1), .val (.int p2), .val (.int p3), .val (.int (1 : Int32)), .val (.int (own_e0 p1)), .val (.int (own_e1 p1 p2)), .val (.int (own_e2 p1 p2 p3)), .val (.ref b73), .val (.ref b89), .val (.ref r155), .val (.int (1 : Int32)), .val (.int (0 : Int32)), .val (.int (0 : Int32)), .val (.int (1 : Int32))] [])) _
        refine XS.aload X154.here hx rfl (hb hby at_272) rfl rfl ?_
        show Steps p.tables e below (T154.setTop (mkF m 274 #[.val (.int p0), .val (.int p1), .val (.int p2), .val (.int p3), .val (.int (1 : Int32)), .val (.int (own_e0 p1)), .val (.int (own_e1 p1 p2)), .val (.int (own_e2 p1 p2 p3)), .val (.ref b73), .val (.ref b89), .val (.ref r155), .val (.int (1 : Int32)), .val (.int (0 : Int32)), .val (.int (0 : Int32)), .val (.int (1 : Int32))] [(.ref r155)])) _
        refine X154.arraylength hx Ar169.1 (State.isArrayOf_alike hZ.alike Ar169.2.1) (g := (mkF m 274 #[.val (.int p0), .val (.int p1), .val (.int p2), .val (.int p3), .val (.int (1 : Int32)), .val (.int (own_e0 p1)), .val (.int (own_e1 p1 p2)), .val (.int (own_e2 p1 p2 p3)), .val (.ref b73), .val (.ref b89), .val (.ref r155), .val (.int (1 : Int32)), .val (.int (0 : Int32)), .val (.int (0 : Int32)), .val (.int (1 : Int32))] [(.ref r155)])) rfl rfl (hb hby at_274) _ ?_
        rw [own_len (z := (1 : Int32)) S169 rfl]
        show Steps p.tables e below (T154.setTop (mkF m 275 #[.val (.int p0), .val (.int p1), .val (.int p2), .val (.int p3), .val (.int (1 : Int32)), .val (.int (own_e0 p1)), .val (.int (own_e1 p1 p2)), .val (.int (own_e2 p1 p2 p3)), .val (.ref b73), .val (.ref b89), .val (.ref r155), .val (.int (1 : Int32)), .val (.int (0 : Int32)), .val (.int (0 : Int32)), .val (.int (1 : Int32))] [(.int (1 : Int32))])) _
        refine XS.iload X154.here hx rfl (hb hby at_275) rfl ?_
        show Steps p.tables e below (T154.setTop (mkF m 277 #[.val (.int p0), .val (.int p1), .val (.int p2), .val (.int p3), .val (.int (1 : Int32)), .val (.int (own_e0 p1)), .val (.int (own_e1 p1 p2)), .val (.int (own_e2 p1 p2 p3)), .val (.ref b73), .val (.ref b89), .val (.ref r155), .val (.int (1 : Int32)), .val (.int (0 : Int32)), .val (.int (0 : Int32)), .val (.int (1 : Int32))] [(.int (1 : Int32)), (.int (1 : Int32))])) _
        refine XS.icmpYes X154.here hx rfl (pc0 := 277) (pc' := 282) rfl (hb hby at_277) rfl (teq (rfl : (1 : Int32) = (1 : Int32))).1 (by decide) (by decide) ?_
        exact kt
      obtain ⟨cl171, Ar171, S171, H171⟩ := id c155_1
      have hin171 : ¬ ((0 : Int32) < 0 ∨ cl171.slots.size ≤ ((0 : Int32)).toNatClampNeg) := own_inb S171 (by decide) (by decide)
      have hat171 : cl171.slots[((0 : Int32)).toNatClampNeg]? = some (.int ((own_e0 p1) - (1 : Int32))) := H171 _ (by decide)
      obtain ⟨cl172, Ar172, S172, H172⟩ := id f161
      have hin172 : ¬ ((0 : Int32) < 0 ∨ cl172.slots.size ≤ ((0 : Int32)).toNatClampNeg) := own_inb S172 (by decide) (by decide)
      have hat172 : cl172.slots[((0 : Int32)).toNatClampNeg]? = some (.int (own_e0 p1)) := H172 _ (by decide)
      have pre173 : ∀ t, Steps p.tables e below (T154.setTop (mkF m 303 #[.val (.int p0), .val (.int p1), .val (.int p2), .val (.int p3), .val (.int (1 : Int32)), .val (.int (own_e0 p1)), .val (.int (own_e1 p1 p2)), .val (.int (own_e2 p1 p2 p3)), .val (.ref b73), .val (.ref b89), .val (.ref r155), .val (.int (1 : Int32)), .val (.int (0 : Int32)), .val (.int (0 : Int32)), .val (.int (1 : Int32))] [(.int ((own_e0 p1) - (1 : Int32))), (.int ((own_e0 p1) - (1 : Int32)))])) t → Steps p.tables e below (s₁.setTop (entryFrame m #[(.int p0), (.int p1), (.int p2), (.int p3)] maxLocals)) t := by
        intro t kt
        refine pre170 t ?_
        show Steps p.tables e below (T154.setTop (mkF m 282 #[.val (.int p0), .val (.int p1), .val (.int p2), .val (.int p3), .val (.int (1 : Int32)), .val (.int (own_e0 p1)), .val (.int (own_e1 p1 p2)), .val (.int (own_e2 p1 p2 p3)), .val (.ref b73), .val (.ref b89), .val (.ref r155), .val (.int (1 : Int32)), .val (.int (0 : Int32)), .val (.int (0 : Int32)), .val (.int (1 : Int32))] [])) _
        refine XS.iload X154.here hx rfl (hb hby at_282) rfl ?_
        show Steps p.tables e below (T154.setTop (mkF m 284 #[.val (.int p0), .val (.int p1), .val (.int p2), .val (.int p3), .val (.int (1 : Int32)), .val (.int (own_e0 p1)), .val (.int (own_e1 p1 p2)), .val (.int (own_e2 p1 p2 p3)), .val (.ref b73), .val (.ref b89), .val (.ref r155), .val (.int (1 : Int32)), .val (.int (0 : Int32)), .val (.int (0 : Int32)), .val (.int (1 : Int32))] [(.int (1 : Int32))])) _
        refine XS.ifNo X154.here hx rfl (hb hby at_284) rfl ((if0 _ _).trans (tlt (by decide : (0 : Int32) < (1 : Int32))).2.2.2) ?_
        show Steps p.tables e below (T154.setTop (mkF m 287 #[.val (.int p0), .val (.int p1), .val (.int p2), .val (.int p3), .val (.int (1 : Int32)), .val (.int (own_e0 p1)), .val (.int (own_e1 p1 p2)), .val (.int (own_e2 p1 p2 p3)), .val (.ref b73), .val (.ref b89), .val (.ref r155), .val (.int (1 : Int32)), .val (.int (0 : Int32)), .val (.int (0 : Int32)), .val (.int (1 : Int32))] [])) _
        refine XS.iload X154.here hx rfl (hb hby at_287) rfl ?_
        show Steps p.tables e below (T154.setTop (mkF m 289 #[.val (.int p0), .val (.int p1), .val (.int p2), .val (.int p3), .val (.int (1 : Int32)), .val (.int (own_e0 p1)), .val (.int (own_e1 p1 p2)), .val (.int (own_e2 p1 p2 p3)), .val (.ref b73), .val (.ref b89), .val (.ref r155), .val (.int (1 : Int32)), .val (.int (0 : Int32)), .val (.int (0 : Int32)), .val (.int (1 : Int32))] [(.int (1 : Int32))])) _
        refine XS.ifNo X154.here hx rfl (hb hby at_289) rfl ((if0 _ _).trans (feq (by decide : ¬ ((1 : Int32) = (0 : Int32)))).1) ?_
        show Steps p.tables e below (T154.setTop (mkF m 292 #[.val (.int p0), .val (.int p1), .val (.int p2), .val (.int p3), .val (.int (1 : Int32)), .val (.int (own_e0 p1)), .val (.int (own_e1 p1 p2)), .val (.int (own_e2 p1 p2 p3)), .val (.ref b73), .val (.ref b89), .val (.ref r155), .val (.int (1 : Int32)), .val (.int (0 : Int32)), .val (.int (0 : Int32)), .val (.int (1 : Int32))] [])) _
        refine XS.aload X154.here hx rfl (hb hby at_292) rfl rfl ?_
        show Steps p.tables e below (T154.setTop (mkF m 294 #[.val (.int p0), .val (.int p1), .val (.int p2), .val (.int p3), .val (.int (1 : Int32)), .val (.int (own_e0 p1)), .val (.int (own_e1 p1 p2)), .val (.int (own_e2 p1 p2 p3)), .val (.ref b73), .val (.ref b89), .val (.ref r155), .val (.int (1 : Int32)), .val (.int (0 : Int32)), .val (.int (0 : Int32)), .val (.int (1 : Int32))] [(.ref r155)])) _
        refine XS.iconst X154.here hx rfl (hb hby at_294) ?_
        show Steps p.tables e below (T154.setTop (mkF m 295 #[.val (.int p0), .val (.int p1), .val (.int p2), .val (.int p3), .val (.int (1 : Int32)), .val (.int (own_e0 p1)), .val (.int (own_e1 p1 p2)), .val (.int (own_e2 p1 p2 p3)), .val (.ref b73), .val (.ref b89), .val (.ref r155), .val (.int (1 : Int32)), .val (.int (0 : Int32)), .val (.int (0 : Int32)), .val (.int (1 : Int32))] [(.int (0 : Int32)), (.ref r155)])) _
        refine X154.iaload hx (j := (0 : Int32)) (v := (.int ((own_e0 p1) - (1 : Int32)))) Ar171.1 (State.isArrayOf_alike hZ.alike Ar171.2.1) Ar171.2.2 hin171 hat171 (g := (mkF m 295 #[.val (.int p0), .val (.int p1), .val (.int p2), .val (.int p3), .val (.int (1 : Int32)), .val (.int (own_e0 p1)), .val (.int (own_e1 p1 p2)), .val (.int (own_e2 p1 p2 p3)), .val (.ref b73), .val (.ref b89), .val (.ref r155), .val (.int (1 : Int32)), .val (.int (0 : Int32)), .val (.int (0 : Int32)), .val (.int (1 : Int32))] [(.int (0 : Int32)), (.ref r155)])) rfl rfl (hb hby at_295) _ ?_
        show Steps p.tables e below (T154.setTop (mkF m 296 #[.val (.int p0), .val (.int p1), .val (.int p2), .val (.int p3), .val (.int (1 : Int32)), .val (.int (own_e0 p1)), .val (.int (own_e1 p1 p2)), .val (.int (own_e2 p1 p2 p3)), .val (.ref b73), .val (.ref b89), .val (.ref r155), .val (.int (1 : Int32)), .val (.int (0 : Int32)), .val (.int (0 : Int32)), .val (.int (1 : Int32))] [(.int ((own_e0 p1) - (1 : Int32)))])) _
        refine XS.aload X154.here hx rfl (hb hby at_296) rfl rfl ?_
        show Steps p.tables e below (T154.setTop (mkF m 298 #[.val (.int p0), .val (.int p1), .val (.int p2), .val (.int p3), .val (.int (1 : Int32)), .val (.int (own_e0 p1)), .val (.int (own_e1 p1 p2)), .val (.int (own_e2 p1 p2 p3)), .val (.ref b73), .val (.ref b89), .val (.ref r155), .val (.int (1 : Int32)), .val (.int (0 : Int32)), .val (.int (0 : Int32)), .val (.int (1 : Int32))] [(.ref b89), (.int ((own_e0 p1) - (1 : Int32)))])) _
        refine XS.iload X154.here hx rfl (hb hby at_298) rfl ?_
        show Steps p.tables e below (T154.setTop (mkF m 300 #[.val (.int p0), .val (.int p1), .val (.int p2), .val (.int p3), .val (.int (1 : Int32)), .val (.int (own_e0 p1)), .val (.int (own_e1 p1 p2)), .val (.int (own_e2 p1 p2 p3)), .val (.ref b73), .val (.ref b89), .val (.ref r155), .val (.int (1 : Int32)), .val (.int (0 : Int32)), .val (.int (0 : Int32)), .val (.int (1 : Int32))] [(.int (0 : Int32)), (.ref b89), (.int ((own_e0 p1) - (1 : Int32)))])) _
        refine X154.iaload hx (j := (0 : Int32)) (v := (.int (own_e0 p1))) Ar172.1 (State.isArrayOf_alike hZ.alike Ar172.2.1) Ar172.2.2 hin172 hat172 (g := (mkF m 300 #[.val (.int p0), .val (.int p1), .val (.int p2), .val (.int p3), .val (.int (1 : Int32)), .val (.int (own_e0 p1)), .val (.int (own_e1 p1 p2)), .val (.int (own_e2 p1 p2 p3)), .val (.ref b73), .val (.ref b89), .val (.ref r155), .val (.int (1 : Int32)), .val (.int (0 : Int32)), .val (.int (0 : Int32)), .val (.int (1 : Int32))] [(.int (0 : Int32)), (.ref b89), (.int ((own_e0 p1) - (1 : Int32)))])) rfl rfl (hb hby at_300) _ ?_
        show Steps p.tables e below (T154.setTop (mkF m 301 #[.val (.int p0), .val (.int p1), .val (.int p2), .val (.int p3), .val (.int (1 : Int32)), .val (.int (own_e0 p1)), .val (.int (own_e1 p1 p2)), .val (.int (own_e2 p1 p2 p3)), .val (.ref b73), .val (.ref b89), .val (.ref r155), .val (.int (1 : Int32)), .val (.int (0 : Int32)), .val (.int (0 : Int32)), .val (.int (1 : Int32))] [(.int (own_e0 p1)), (.int ((own_e0 p1) - (1 : Int32)))])) _
        refine XS.iconst X154.here hx rfl (hb hby at_301) ?_
        show Steps p.tables e below (T154.setTop (mkF m 302 #[.val (.int p0), .val (.int p1), .val (.int p2), .val (.int p3), .val (.int (1 : Int32)), .val (.int (own_e0 p1)), .val (.int (own_e1 p1 p2)), .val (.int (own_e2 p1 p2 p3)), .val (.ref b73), .val (.ref b89), .val (.ref r155), .val (.int (1 : Int32)), .val (.int (0 : Int32)), .val (.int (0 : Int32)), .val (.int (1 : Int32))] [(.int (1 : Int32)), (.int (own_e0 p1)), (.int ((own_e0 p1) - (1 : Int32)))])) _
        refine XS.isub X154.here hx rfl (hb hby at_302) rfl ?_
        exact kt
      have pre174 : ∀ t, Steps p.tables e below (T154.setTop (mkF m 383 #[.val (.int p0), .val (.int p1), .val (.int p2), .val (.int p3), .val (.int (1 : Int32)), .val (.int (own_e0 p1)), .val (.int (own_e1 p1 p2)), .val (.int (own_e2 p1 p2 p3)), .val (.ref b73), .val (.ref b89), .val (.ref r155), .val (.int (1 : Int32)), .val (.int (0 : Int32)), .val (.int (0 : Int32)), .val (.int (1 : Int32))] [(.int (1 : Int32))])) t → Steps p.tables e below (s₁.setTop (entryFrame m #[(.int p0), (.int p1), (.int p2), (.int p3)] maxLocals)) t := by
        intro t kt
        refine pre173 t ?_
        show Steps p.tables e below (T154.setTop (mkF m 303 #[.val (.int p0), .val (.int p1), .val (.int p2), .val (.int p3), .val (.int (1 : Int32)), .val (.int (own_e0 p1)), .val (.int (own_e1 p1 p2)), .val (.int (own_e2 p1 p2 p3)), .val (.ref b73), .val (.ref b89), .val (.ref r155), .val (.int (1 : Int32)), .val (.int (0 : Int32)), .val (.int (0 : Int32)), .val (.int (1 : Int32))] [(.int ((own_e0 p1) - (1 : Int32))), (.int ((own_e0 p1) - (1 : Int32)))])) _
        refine XS.icmpNo X154.here hx rfl (hb hby at_303) rfl (teq (rfl : ((own_e0 p1) - (1 : Int32)) = ((own_e0 p1) - (1 : Int32)))).2 ?_
        show Steps p.tables e below (T154.setTop (mkF m 306 #[.val (.int p0), .val (.int p1), .val (.int p2), .val (.int p3), .val (.int (1 : Int32)), .val (.int (own_e0 p1)), .val (.int (own_e1 p1 p2)), .val (.int (own_e2 p1 p2 p3)), .val (.ref b73), .val (.ref b89), .val (.ref r155), .val (.int (1 : Int32)), .val (.int (0 : Int32)), .val (.int (0 : Int32)), .val (.int (1 : Int32))] [])) _
        refine XS.iconst X154.here hx rfl (hb hby at_306) ?_
        show Steps p.tables e below (T154.setTop (mkF m 307 #[.val (.int p0), .val (.int p1), .val (.int p2), .val (.int p3), .val (.int (1 : Int32)), .val (.int (own_e0 p1)), .val (.int (own_e1 p1 p2)), .val (.int (own_e2 p1 p2 p3)), .val (.ref b73), .val (.ref b89), .val (.ref r155), .val (.int (1 : Int32)), .val (.int (0 : Int32)), .val (.int (0 : Int32)), .val (.int (1 : Int32))] [(.int (1 : Int32))])) _
        refine XS.goto X154.here hx rfl (pc0 := 307) (pc' := 311) rfl (hb hby at_307) (by decide) (by decide) ?_
        show Steps p.tables e below (T154.setTop (mkF m 311 #[.val (.int p0), .val (.int p1), .val (.int p2), .val (.int p3), .val (.int (1 : Int32)), .val (.int (own_e0 p1)), .val (.int (own_e1 p1 p2)), .val (.int (own_e2 p1 p2 p3)), .val (.ref b73), .val (.ref b89), .val (.ref r155), .val (.int (1 : Int32)), .val (.int (0 : Int32)), .val (.int (0 : Int32)), .val (.int (1 : Int32))] [(.int (1 : Int32))])) _
        refine XS.istore X154.here hx rfl (hb hby at_311) rfl (l' := #[.val (.int p0), .val (.int p1), .val (.int p2), .val (.int p3), .val (.int (1 : Int32)), .val (.int (own_e0 p1)), .val (.int (own_e1 p1 p2)), .val (.int (own_e2 p1 p2 p3)), .val (.ref b73), .val (.ref b89), .val (.ref r155), .val (.int (1 : Int32)), .val (.int (0 : Int32)), .val (.int (0 : Int32)), .val (.int (1 : Int32))]) rfl ?_
        show Steps p.tables e below (T154.setTop (mkF m 313 #[.val (.int p0), .val (.int p1), .val (.int p2), .val (.int p3), .val (.int (1 : Int32)), .val (.int (own_e0 p1)), .val (.int (own_e1 p1 p2)), .val (.int (own_e2 p1 p2 p3)), .val (.ref b73), .val (.ref b89), .val (.ref r155), .val (.int (1 : Int32)), .val (.int (0 : Int32)), .val (.int (0 : Int32)), .val (.int (1 : Int32))] [])) _
        refine XS.iload X154.here hx rfl (hb hby at_313) rfl ?_
        show Steps p.tables e below (T154.setTop (mkF m 315 #[.val (.int p0), .val (.int p1), .val (.int p2), .val (.int p3), .val (.int (1 : Int32)), .val (.int (own_e0 p1)), .val (.int (own_e1 p1 p2)), .val (.int (own_e2 p1 p2 p3)), .val (.ref b73), .val (.ref b89), .val (.ref r155), .val (.int (1 : Int32)), .val (.int (0 : Int32)), .val (.int (0 : Int32)), .val (.int (1 : Int32))] [(.int (1 : Int32))])) _
        refine XS.iconst X154.here hx rfl (hb hby at_315) ?_
        show Steps p.tables e below (T154.setTop (mkF m 316 #[.val (.int p0), .val (.int p1), .val (.int p2), .val (.int p3), .val (.int (1 : Int32)), .val (.int (own_e0 p1)), .val (.int (own_e1 p1 p2)), .val (.int (own_e2 p1 p2 p3)), .val (.ref b73), .val (.ref b89), .val (.ref r155), .val (.int (1 : Int32)), .val (.int (0 : Int32)), .val (.int (0 : Int32)), .val (.int (1 : Int32))] [(.int (1 : Int32)), (.int (1 : Int32))])) _
        refine XS.icmpYes X154.here hx rfl (pc0 := 316) (pc' := 347) rfl (hb hby at_316) rfl (flt (by decide : ¬ ((1 : Int32) < (1 : Int32)))).2.2.2 (by decide) (by decide) ?_
        show Steps p.tables e below (T154.setTop (mkF m 347 #[.val (.int p0), .val (.int p1), .val (.int p2), .val (.int p3), .val (.int (1 : Int32)), .val (.int (own_e0 p1)), .val (.int (own_e1 p1 p2)), .val (.int (own_e2 p1 p2 p3)), .val (.ref b73), .val (.ref b89), .val (.ref r155), .val (.int (1 : Int32)), .val (.int (0 : Int32)), .val (.int (0 : Int32)), .val (.int (1 : Int32))] [])) _
        refine XS.iload X154.here hx rfl (hb hby at_347) rfl ?_
        show Steps p.tables e below (T154.setTop (mkF m 349 #[.val (.int p0), .val (.int p1), .val (.int p2), .val (.int p3), .val (.int (1 : Int32)), .val (.int (own_e0 p1)), .val (.int (own_e1 p1 p2)), .val (.int (own_e2 p1 p2 p3)), .val (.ref b73), .val (.ref b89), .val (.ref r155), .val (.int (1 : Int32)), .val (.int (0 : Int32)), .val (.int (0 : Int32)), .val (.int (1 : Int32))] [(.int (1 : Int32))])) _
        refine XS.iconst X154.here hx rfl (hb hby at_349) ?_
        show Steps p.tables e below (T154.setTop (mkF m 350 #[.val (.int p0), .val (.int p1), .val (.int p2), .val (.int p3), .val (.int (1 : Int32)), .val (.int (own_e0 p1)), .val (.int (own_e1 p1 p2)), .val (.int (own_e2 p1 p2 p3)), .val (.ref b73), .val (.ref b89), .val (.ref r155), .val (.int (1 : Int32)), .val (.int (0 : Int32)), .val (.int (0 : Int32)), .val (.int (1 : Int32))] [(.int (2 : Int32)), (.int (1 : Int32))])) _
        refine XS.icmpYes X154.here hx rfl (pc0 := 350) (pc' := 381) rfl (hb hby at_350) rfl (flt (by decide : ¬ ((2 : Int32) < (1 : Int32)))).2.2.2 (by decide) (by decide) ?_
        show Steps p.tables e below (T154.setTop (mkF m 381 #[.val (.int p0), .val (.int p1), .val (.int p2), .val (.int p3), .val (.int (1 : Int32)), .val (.int (own_e0 p1)), .val (.int (own_e1 p1 p2)), .val (.int (own_e2 p1 p2 p3)), .val (.ref b73), .val (.ref b89), .val (.ref r155), .val (.int (1 : Int32)), .val (.int (0 : Int32)), .val (.int (0 : Int32)), .val (.int (1 : Int32))] [])) _
        refine XS.iload X154.here hx rfl (hb hby at_381) rfl ?_
        exact kt
      obtain ⟨fs, hr, hrun, hended, hW, hsame⟩ := X154.leave (v := some (.int (1 : Int32))) (fun h => by rw [Bd.returns] at h; cases h)
      refine ⟨_, _, pre174 _ ?_, hrun, hended, _, _, rfl, ?_, ⟨_, rfl⟩, hW, hsame.mono (by decide) (by decide)⟩
      · show Steps p.tables e below (T154.setTop (mkF m 383 #[.val (.int p0), .val (.int p1), .val (.int p2), .val (.int p3), .val (.int (1 : Int32)), .val (.int (own_e0 p1)), .val (.int (own_e1 p1 p2)), .val (.int (own_e2 p1 p2 p3)), .val (.ref b73), .val (.ref b89), .val (.ref r155), .val (.int (1 : Int32)), .val (.int (0 : Int32)), .val (.int (0 : Int32)), .val (.int (1 : Int32))] [(.int (1 : Int32))])) _
        exact retN X154 hx (t := .boolean) Bd.returns (by simp) (hb hby at_383) hr
      · show own_Q_law Z p0 p1 p2 p3 aS h0 n0 (some (.int (1 : Int32))) T154.heap _
        skip
        exact ⟨rfl, nf163⟩
  · have pre175 : ∀ t, Steps p.tables e below (s₁.setTop (mkF m 33 #[.val (.int p0), .val (.int p1), .val (.int p2), .val (.int p3), .val (.int (2 : Int32)), .val (.int (own_e0 p1)), .val (.int (own_e1 p1 p2)), .val (.int (own_e2 p1 p2 p3)), .unset, .unset, .unset, .unset, .unset, .unset, .unset] [])) t → Steps p.tables e below (s₁.setTop (entryFrame m #[(.int p0), (.int p1), (.int p2), (.int p3)] maxLocals)) t := by
      intro t kt
      refine pre3 t ?_
      rw [hn2]
      exact kt
    obtain ⟨T176, h176, k176, X176, e176, E176, A176, I176, st176⟩ := newPE X0 hx hZ (hw _ (List.mem_of_getElem? (i := 2) rfl)) e0 (g := (mkF m 72 #[.val (.int p0), .val (.int p1), .val (.int p2), .val (.int p3), .val (.int (2 : Int32)), .val (.int (own_e0 p1)), .val (.int (own_e1 p1 p2)), .val (.int (own_e2 p1 p2 p3)), .unset, .unset, .unset, .unset, .unset, .unset, .unset] [(.int (2 : Int32))])) rfl (hb hby at_72) rfl (by decide) (cap := 2) (by decide) (by decide) (by decide) (by decide) (ad := "[I") rfl
    obtain ⟨b176, g176⟩ : ∃ z, z = h0.size := ⟨_, rfl⟩
    rw [← g176] at A176 I176 st176
    have sz_b176 : h0.size ≤ b176 := Nat.le_trans K0.1 (Nat.le_of_eq g176.symm)
    have gn_b176 : n0 ≤ b176 := Nat.le_trans Z0 sz_b176
    have ne_aS_b176 : aS ≠ b176 := Nat.ne_of_lt (Nat.lt_of_lt_of_le AS.lt (Nat.le_of_eq g176.symm))
    have f177 := S0.ext E176
    have f178 := AS.ext E176
    have k179 := K0.ext E176
    have f180 : own_A Z h176 b176 2 (own_v2 (0 : Int32) (0 : Int32)) := (own_A.new A176 rfl).congr (fun j hj => by rcases j with _ | _ | j <;> first | rfl | (simp [own_upd]; done) | omega)
    have pre181 : ∀ t, Steps p.tables e below (T176.setTop (mkF m 76 #[.val (.int p0), .val (.int p1), .val (.int p2), .val (.int p3), .val (.int (2 : Int32)), .val (.int (own_e0 p1)), .val (.int (own_e1 p1 p2)), .val (.int (own_e2 p1 p2 p3)), .unset, .unset, .unset, .unset, .unset, .unset, .unset] [(.int (0 : Int32)), (.ref b176), (.ref b176)])) t → Steps p.tables e below (s₁.setTop (entryFrame m #[(.int p0), (.int p1), (.int p2), (.int p3)] maxLocals)) t := by
      intro t kt
      refine pre175 t ?_
      show Steps p.tables e below (s₁.setTop (mkF m 33 #[.val (.int p0), .val (.int p1), .val (.int p2), .val (.int p3), .val (.int (2 : Int32)), .val (.int (own_e0 p1)), .val (.int (own_e1 p1 p2)), .val (.int (own_e2 p1 p2 p3)), .unset, .unset, .unset, .unset, .unset, .unset, .unset] [])) _
      refine XS.iload X0.here hx rfl (hb hby at_33) rfl ?_
      show Steps p.tables e below (s₁.setTop (mkF m 35 #[.val (.int p0), .val (.int p1), .val (.int p2), .val (.int p3), .val (.int (2 : Int32)), .val (.int (own_e0 p1)), .val (.int (own_e1 p1 p2)), .val (.int (own_e2 p1 p2 p3)), .unset, .unset, .unset, .unset, .unset, .unset, .unset] [(.int (2 : Int32))])) _
      refine XS.ifYes X0.here hx rfl (pc0 := 35) (pc' := 46) rfl (hb hby at_35) rfl ((if0 _ _).trans (feq (by decide : ¬ ((2 : Int32) = (0 : Int32)))).2) (by decide) (by decide) ?_
      show Steps p.tables e below (s₁.setTop (mkF m 46 #[.val (.int p0), .val (.int p1), .val (.int p2), .val (.int p3), .val (.int (2 : Int32)), .val (.int (own_e0 p1)), .val (.int (own_e1 p1 p2)), .val (.int (own_e2 p1 p2 p3)), .unset, .unset, .unset, .unset, .unset, .unset, .unset] [])) _
      refine XS.iload X0.here hx rfl (hb hby at_46) rfl ?_
      show Steps p.tables e below (s₁.setTop (mkF m 48 #[.val (.int p0), .val (.int p1), .val (.int p2), .val (.int p3), .val (.int (2 : Int32)), .val (.int (own_e0 p1)), .val (.int (own_e1 p1 p2)), .val (.int (own_e2 p1 p2 p3)), .unset, .unset, .unset, .unset, .unset, .unset, .unset] [(.int (2 : Int32))])) _
      refine XS.iconst X0.here hx rfl (hb hby at_48) ?_
      show Steps p.tables e below (s₁.setTop (mkF m 49 #[.val (.int p0), .val (.int p1), .val (.int p2), .val (.int p3), .val (.int (2 : Int32)), .val (.int (own_e0 p1)), .val (.int (own_e1 p1 p2)), .val (.int (own_e2 p1 p2 p3)), .unset, .unset, .unset, .unset, .unset, .unset, .unset] [(.int (1 : Int32)), (.int (2 : Int32))])) _
      refine XS.icmpYes X0.here hx rfl (pc0 := 49) (pc' := 65) rfl (hb hby at_49) rfl (feq (by decide : ¬ ((2 : Int32) = (1 : Int32)))).2 (by decide) (by decide) ?_
      show Steps p.tables e below (s₁.setTop (mkF m 65 #[.val (.int p0), .val (.int p1), .val (.int p2), .val (.int p3), .val (.int (2 : Int32)), .val (.int (own_e0 p1)), .val (.int (own_e1 p1 p2)), .val (.int (own_e2 p1 p2 p3)), .unset, .unset, .unset, .unset, .unset, .unset, .unset] [])) _
      refine XS.iload X0.here hx rfl (hb hby at_65) rfl ?_
      show Steps p.tables e below (s₁.setTop (mkF m 67 #[.val (.int p0), .val (.int p1), .val (.int p2), .val (.int p3), .val (.int (2 : Int32)), .val (.int (own_e0 p1)), .val (.int (own_e1 p1 p2)), .val (.int (own_e2 p1 p2 p3)), .unset, .unset, .unset, .unset, .unset, .unset, .unset] [(.int (2 : Int32))])) _
      refine XS.iconst X0.here hx rfl (hb hby at_67) ?_
      show Steps p.tables e below (s₁.setTop (mkF m 68 #[.val (.int p0), .val (.int p1), .val (.int p2), .val (.int p3), .val (.int (2 : Int32)), .val (.int (own_e0 p1)), .val (.int (own_e1 p1 p2)), .val (.int (own_e2 p1 p2 p3)), .unset, .unset, .unset, .unset, .unset, .unset, .unset] [(.int (2 : Int32)), (.int (2 : Int32))])) _
      refine XS.icmpNo X0.here hx rfl (hb hby at_68) rfl (teq (rfl : (2 : Int32) = (2 : Int32))).2 ?_
      show Steps p.tables e below (s₁.setTop (mkF m 71 #[.val (.int p0), .val (.int p1), .val (.int p2), .val (.int p3), .val (.int (2 : Int32)), .val (.int (own_e0 p1)), .val (.int (own_e1 p1 p2)), .val (.int (own_e2 p1 p2 p3)), .unset, .unset, .unset, .unset, .unset, .unset, .unset] [])) _
      refine XS.iconst X0.here hx rfl (hb hby at_71) ?_
      show Steps p.tables e below (s₁.setTop (mkF m 72 #[.val (.int p0), .val (.int p1), .val (.int p2), .val (.int p3), .val (.int (2 : Int32)), .val (.int (own_e0 p1)), .val (.int (own_e1 p1 p2)), .val (.int (own_e2 p1 p2 p3)), .unset, .unset, .unset, .unset, .unset, .unset, .unset] [(.int (2 : Int32))])) _
      refine st176 _ ?_
      show Steps p.tables e below (T176.setTop (mkF m 74 #[.val (.int p0), .val (.int p1), .val (.int p2), .val (.int p3), .val (.int (2 : Int32)), .val (.int (own_e0 p1)), .val (.int (own_e1 p1 p2)), .val (.int (own_e2 p1 p2 p3)), .unset, .unset, .unset, .unset, .unset, .unset, .unset] [(.ref b176)])) _
      refine XS.dup X176.here hx rfl (hb hby at_74) rfl rfl ?_
      show Steps p.tables e below (T176.setTop (mkF m 75 #[.val (.int p0), .val (.int p1), .val (.int p2), .val (.int p3), .val (.int (2 : Int32)), .val (.int (own_e0 p1)), .val (.int (own_e1 p1 p2)), .val (.int (own_e2 p1 p2 p3)), .unset, .unset, .unset, .unset, .unset, .unset, .unset] [(.ref b176), (.ref b176)])) _
      refine XS.iconst X176.here hx rfl (hb hby at_75) ?_
      exact kt
    obtain ⟨cl182, Ar182, S182, H182⟩ := id f180
    have hin182 : ¬ ((0 : Int32) < 0 ∨ cl182.slots.size ≤ ((0 : Int32)).toNatClampNeg) := own_inb S182 (by decide) (by decide)
    obtain ⟨T183, h183, X183, e183, W183, st183⟩ := stI X176 hx hZ e176 Ar182 (j := (0 : Int32)) hin182 (g := (mkF m 78 #[.val (.int p0), .val (.int p1), .val (.int p2), .val (.int p3), .val (.int (2 : Int32)), .val (.int (own_e0 p1)), .val (.int (own_e1 p1 p2)), .val (.int (own_e2 p1 p2 p3)), .unset, .unset, .unset, .unset, .unset, .unset, .unset] [(.int (own_e0 p1)), (.int (0 : Int32)), (.ref b176), (.ref b176)])) rfl rfl (hb hby at_78)
    have f184 := f177.wr W183
    have f185 := f178.other W183 ne_aS_b176
    have f186 := I176.wr W183
    have k188 := k179.wr W183 (Or.inr sz_b176)
    have nf189 := Fr.snoc X183 N0 gn_b176
    have f190 := f180.set W183
    have f191 : own_A Z h183 b176 2 (own_v2 (own_e0 p1) (0 : Int32)) := f190.congr (fun j hj => by rcases j with _ | _ | j <;> first | rfl | (simp [own_upd]; done) | omega)
    obtain ⟨cl192, Ar192, S192, H192⟩ := id f191
    have hin192 : ¬ ((1 : Int32) < 0 ∨ cl192.slots.size ≤ ((1 : Int32)).toNatClampNeg) := own_inb S192 (by decide) (by decide)
    obtain ⟨T193, h193, X193, e193, W193, st193⟩ := stI X183 hx hZ e183 Ar192 (j := (1 : Int32)) hin192 (g := (mkF m 83 #[.val (.int p0), .val (.int p1), .val (.int p2), .val (.int p3), .val (.int (2 : Int32)), .val (.int (own_e0 p1)), .val (.int (own_e1 p1 p2)), .val (.int (own_e2 p1 p2 p3)), .unset, .unset, .unset, .unset, .unset, .unset, .unset] [(.int (own_e1 p1 p2)), (.int (1 : Int32)), (.ref b176), (.ref b176)])) rfl rfl (hb hby at_83)
    have f194 := f184.wr W193
    have f195 := f185.other W193 ne_aS_b176
    have f196 := f186.wr W193
    have k198 := k188.wr W193 (Or.inr sz_b176)
    have nf199 := Fr.snoc X193 nf189 gn_b176
    have f200 := f191.set W193
    have f201 : own_A Z h193 b176 2 (own_v2 (own_e0 p1) (own_e1 p1 p2)) := f200.congr (fun j hj => by rcases j with _ | _ | j <;> first | rfl | (simp [own_upd]; done) | omega)
    obtain ⟨T202, h202, k202, X202, e202, E202, A202, I202, st202⟩ := newPE X193 hx hZ (hw _ (List.mem_of_getElem? (i := 2) rfl)) e193 (g := (mkF m 110 #[.val (.int p0), .val (.int p1), .val (.int p2), .val (.int p3), .val (.int (2 : Int32)), .val (.int (own_e0 p1)), .val (.int (own_e1 p1 p2)), .val (.int (own_e2 p1 p2 p3)), .val (.ref b176), .unset, .unset, .unset, .unset, .unset, .unset] [(.int (3 : Int32))])) rfl (hb hby at_110) rfl (by decide) (cap := 3) (by decide) (by decide) (by decide) (by decide) (ad := "[I") rfl
    obtain ⟨b202, g202⟩ : ∃ z, z = h193.size := ⟨_, rfl⟩
    rw [← g202] at A202 I202 st202
    have sz_b202 : h0.size ≤ b202 := Nat.le_trans k198.1 (Nat.le_of_eq g202.symm)
    have gn_b202 : n0 ≤ b202 := Nat.le_trans Z0 sz_b202
    have ne_aS_b202 : aS ≠ b202 := Nat.ne_of_lt (Nat.lt_of_lt_of_le f195.lt (Nat.le_of_eq g202.symm))
    have ne_b176_b202 : b176 ≠ b202 := Nat.ne_of_lt (Nat.lt_of_lt_of_le f201.lt (Nat.le_of_eq g202.symm))
    have f203 := f194.ext E202
    have f204 := f195.ext E202
    have f205 := f196.ext E202
    have f206 := f201.ext E202
    have k207 := k198.ext E202
    have f208 : own_A Z h202 b202 3 (own_v3 (0 : Int32) (0 : Int32) (0 : Int32)) := (own_A.new A202 rfl).congr (fun j hj => by rcases j with _ | _ | _ | j <;> first | rfl | (simp [own_upd]; done) | omega)
    have pre209 : ∀ t, Steps p.tables e below (T202.setTop (mkF m 114 #[.val (.int p0), .val (.int p1), .val (.int p2), .val (.int p3), .val (.int (2 : Int32)), .val (.int (own_e0 p1)), .val (.int (own_e1 p1 p2)), .val (.int (own_e2 p1 p2 p3)), .val (.ref b176), .unset, .unset, .unset, .unset, .unset, .unset] [(.int (0 : Int32)), (.ref b202), (.ref b202)])) t → Steps p.tables e below (s₁.setTop (entryFrame m #[(.int p0), (.int p1), (.int p2), (.int p3)] maxLocals)) t := by
      intro t kt
      refine pre181 t ?_
      show Steps p.tables e below (T176.setTop (mkF m 76 #[.val (.int p0), .val (.int p1), .val (.int p2), .val (.int p3), .val (.int (2 : Int32)), .val (.int (own_e0 p1)), .val (.int (own_e1 p1 p2)), .val (.int (own_e2 p1 p2 p3)), .unset, .unset, .unset, .unset, .unset, .unset, .unset] [(.int (0 : Int32)), (.ref b176), (.ref b176)])) _
      refine XS.iload X176.here hx rfl (hb hby at_76) rfl ?_
      show Steps p.tables e below (T176.setTop (mkF m 78 #[.val (.int p0), .val (.int p1), .val (.int p2), .val (.int p3), .val (.int (2 : Int32)), .val (.int (own_e0 p1)), .val (.int (own_e1 p1 p2)), .val (.int (own_e2 p1 p2 p3)), .unset, .unset, .unset, .unset, .unset, .unset, .unset] [(.int (own_e0 p1)), (.int (0 : Int32)), (.ref b176), (.ref b176)])) _
      refine st183 _ ?_
      show Steps p.tables e below (T183.setTop (mkF m 79 #[.val (.int p0), .val (.int p1), .val (.int p2), .val (.int p3), .val (.int (2 : Int32)), .val (.int (own_e0 p1)), .val (.int (own_e1 p1 p2)), .val (.int (own_e2 p1 p2 p3)), .unset, .unset, .unset, .unset, .unset, .unset, .unset] [(.ref b176)])) _
      refine XS.dup X183.here hx rfl (hb hby at_79) rfl rfl ?_
      show Steps p.tables e below (T183.setTop (mkF m 80 #[.val (.int p0), .val (.int p1), .val (.int p2), .val (.int p3), .val (.int (2 : Int32)), .val (.int (own_e0 p1)), .val (.int (own_e1 p1 p2)), .val (.int (own_e2 p1 p2 p3)), .unset, .unset, .unset, .unset, .unset, .unset, .unset] [(.ref b176), (.ref b176)])) _
      refine XS.iconst X183.here hx rfl (hb hby at_80) ?_
      show Steps p.tables e below (T183.setTop (mkF m 81 #[.val (.int p0), .val (.int p1), .val (.int p2), .val (.int p3), .val (.int (2 : Int32)), .val (.int (own_e0 p1)), .val (.int (own_e1 p1 p2)), .val (.int (own_e2 p1 p2 p3)), .unset, .unset, .unset, .unset, .unset, .unset, .unset] [(.int (1 : Int32)), (.ref b176), (.ref b176)])) _
      refine XS.iload X183.here hx rfl (hb hby at_81) rfl ?_
      show Steps p.tables e below (T183.setTop (mkF m 83 #[.val (.int p0), .val (.int p1), .val (.int p2), .val (.int p3), .val (.int (2 : Int32)), .val (.int (own_e0 p1)), .val (.int (own_e1 p1 p2)), .val (.int (own_e2 p1 p2 p3)), .unset, .unset, .unset, .unset, .unset, .unset, .unset] [(.int (own_e1 p1 p2)), (.int (1 : Int32)), (.ref b176), (.ref b176)])) _
      refine st193 _ ?_
      show Steps p.tables e below (T193.setTop (mkF m 84 #[.val (.int p0), .val (.int p1), .val (.int p2), .val (.int p3), .val (.int (2 : Int32)), .val (.int (own_e0 p1)), .val (.int (own_e1 p1 p2)), .val (.int (own_e2 p1 p2 p3)), .unset, .unset, .unset, .unset, .unset, .unset, .unset] [(.ref b176)])) _
      refine XS.astore X193.here hx rfl (hb hby at_84) rfl rfl (l' := #[.val (.int p0), .val (.int p1), .val (.int p2), .val (.int p3), .val (.int (2 : Int32)), .val (.int (own_e0 p1)), .val (.int (own_e1 p1 p2)), .val (.int (own_e2 p1 p2 p3)), .val (.ref b176), .unset, .unset, .unset, .unset, .unset, .unset]) rfl ?_
      show Steps p.tables e below (T193.setTop (mkF m 86 #[.val (.int p0), .val (.int p1), .val (.int p2), .val (.int p3), .val (.int (2 : Int32)), .val (.int (own_e0 p1)), .val (.int (own_e1 p1 p2)), .val (.int (own_e2 p1 p2 p3)), .val (.ref b176), .unset, .unset, .unset, .unset, .unset, .unset] [])) _
      refine XS.goto X193.here hx rfl (pc0 := 86) (pc' := 109) rfl (hb hby at_86) (by decide) (by decide) ?_
      show Steps p.tables e below (T193.setTop (mkF m 109 #[.val (.int p0), .val (.int p1), .val (.int p2), .val (.int p3), .val (.int (2 : Int32)), .val (.int (own_e0 p1)), .val (.int (own_e1 p1 p2)), .val (.int (own_e2 p1 p2 p3)), .val (.ref b176), .unset, .unset, .unset, .unset, .unset, .unset] [])) _
      refine XS.iconst X193.here hx rfl (hb hby at_109) ?_
      show Steps p.tables e below (T193.setTop (mkF m 110 #[.val (.int p0), .val (.int p1), .val (.int p2), .val (.int p3), .val (.int (2 : Int32)), .val (.int (own_e0 p1)), .val (.int (own_e1 p1 p2)), .val (.int (own_e2 p1 p2 p3)), .val (.ref b176), .unset, .unset, .unset, .unset, .unset, .unset] [(.int (3 : Int32))])) _
      refine st202 _ ?_
      show Steps p.tables e below (T202.setTop (mkF m 112 #[.val (.int p0), .val (.int p1), .val (.int p2), .val (.int p3), .val (.int (2 : Int32)), .val (.int (own_e0 p1)), .val (.int (own_e1 p1 p2)), .val (.int (own_e2 p1 p2 p3)), .val (.ref b176), .unset, .unset, .unset, .unset, .unset, .unset] [(.ref b202)])) _
      refine XS.dup X202.here hx rfl (hb hby at_112) rfl rfl ?_
      show Steps p.tables e below (T202.setTop (mkF m 113 #[.val (.int p0), .val (.int p1), .val (.int p2), .val (.int p3), .val (.int (2 : Int32)), .val (.int (own_e0 p1)), .val (.int (own_e1 p1 p2)), .val (.int (own_e2 p1 p2 p3)), .val (.ref b176), .unset, .unset, .unset, .unset, .unset, .unset] [(.ref b202), (.ref b202)])) _
      refine XS.iconst X202.here hx rfl (hb hby at_113) ?_
      exact kt
    obtain ⟨cl210, Ar210, S210, H210⟩ := id f208
    have hin210 : ¬ ((0 : Int32) < 0 ∨ cl210.slots.size ≤ ((0 : Int32)).toNatClampNeg) := own_inb S210 (by decide) (by decide)
    obtain ⟨T211, h211, X211, e211, W211, st211⟩ := stI X202 hx hZ e202 Ar210 (j := (0 : Int32)) hin210 (g := (mkF m 116 #[.val (.int p0), .val (.int p1), .val (.int p2), .val (.int p3), .val (.int (2 : Int32)), .val (.int (own_e0 p1)), .val (.int (own_e1 p1 p2)), .val (.int (own_e2 p1 p2 p3)), .val (.ref b176), .unset, .unset, .unset, .unset, .unset, .unset] [(.int (own_e0 p1)), (.int (0 : Int32)), (.ref b202), (.ref b202)])) rfl rfl (hb hby at_116)
    have f212 := f203.wr W211
    have f213 := f204.other W211 ne_aS_b202
    have f214 := f205.wr W211
    have f215 := f206.other W211 ne_b176_b202
    have f216 := I202.wr W211
    have k218 := k207.wr W211 (Or.inr sz_b202)
    have nf219 := Fr.snoc X211 nf199 gn_b202
    have f220 := f208.set W211
    have f221 : own_A Z h211 b202 3 (own_v3 (own_e0 p1) (0 : Int32) (0 : Int32)) := f220.congr (fun j hj => by rcases j with _ | _ | _ | j <;> first | rfl | (simp [own_upd]; done) | omega)
    obtain ⟨cl222, Ar222, S222, H222⟩ := id f221
    have hin222 : ¬ ((1 : Int32) < 0 ∨ cl222.slots.size ≤ ((1 : Int32)).toNatClampNeg) := own_inb S222 (by decide) (by decide)
    obtain ⟨T223, h223, X223, e223, W223, st223⟩ := stI X211 hx hZ e211 Ar222 (j := (1 : Int32)) hin222 (g := (mkF m 121 #[.val (.int p0), .val (.int p1), .val (.int p2), .val (.int p3), .val (.int (2 : Int32)), .val (.int (own_e0 p1)), .val (.int (own_e1 p1 p2)), .val (.int (own_e2 p1 p2 p3)), .val (.ref b176), .unset, .unset, .unset, .unset, .unset, .unset] [(.int (own_e1 p1 p2)), (.int (1 : Int32)), (.ref b202), (.ref b202)])) rfl rfl (hb hby at_121)
    have f224 := f212.wr W223
    have f225 := f213.other W223 ne_aS_b202
    have f226 := f214.wr W223
    have f227 := f215.other W223 ne_b176_b202
    have f228 := f216.wr W223
    have k230 := k218.wr W223 (Or.inr sz_b202)
    have nf231 := Fr.snoc X223 nf219 gn_b202
    have f232 := f221.set W223
    have f233 : own_A Z h223 b202 3 (own_v3 (own_e0 p1) (own_e1 p1 p2) (0 : Int32)) := f232.congr (fun j hj => by rcases j with _ | _ | _ | j <;> first | rfl | (simp [own_upd]; done) | omega)
    obtain ⟨cl234, Ar234, S234, H234⟩ := id f233
    have hin234 : ¬ ((2 : Int32) < 0 ∨ cl234.slots.size ≤ ((2 : Int32)).toNatClampNeg) := own_inb S234 (by decide) (by decide)
    obtain ⟨T235, h235, X235, e235, W235, st235⟩ := stI X223 hx hZ e223 Ar234 (j := (2 : Int32)) hin234 (g := (mkF m 126 #[.val (.int p0), .val (.int p1), .val (.int p2), .val (.int p3), .val (.int (2 : Int32)), .val (.int (own_e0 p1)), .val (.int (own_e1 p1 p2)), .val (.int (own_e2 p1 p2 p3)), .val (.ref b176), .unset, .unset, .unset, .unset, .unset, .unset] [(.int (own_e2 p1 p2 p3)), (.int (2 : Int32)), (.ref b202), (.ref b202)])) rfl rfl (hb hby at_126)
    have f236 := f224.wr W235
    have f237 := f225.other W235 ne_aS_b202
    have f238 := f226.wr W235
    have f239 := f227.other W235 ne_b176_b202
    have f240 := f228.wr W235
    have k242 := k230.wr W235 (Or.inr sz_b202)
    have nf243 := Fr.snoc X235 nf231 gn_b202
    have f244 := f233.set W235
    have f245 : own_A Z h235 b202 3 (own_v3 (own_e0 p1) (own_e1 p1 p2) (own_e2 p1 p2 p3)) := f244.congr (fun j hj => by rcases j with _ | _ | _ | j <;> first | rfl | (simp [own_upd]; done) | omega)
    have pre246 : ∀ t, Steps p.tables e below (T235.setTop (mkF m 129 #[.val (.int p0), .val (.int p1), .val (.int p2), .val (.int p3), .val (.int (2 : Int32)), .val (.int (own_e0 p1)), .val (.int (own_e1 p1 p2)), .val (.int (own_e2 p1 p2 p3)), .val (.ref b176), .val (.ref b202), .unset, .unset, .unset, .unset, .unset] [])) t → Steps p.tables e below (s₁.setTop (entryFrame m #[(.int p0), (.int p1), (.int p2), (.int p3)] maxLocals)) t := by
      intro t kt
      refine pre209 t ?_
      show Steps p.tables e below (T202.setTop (mkF m 114 #[.val (.int p0), .val (.int p1), .val (.int p2), .val (.int p3), .val (.int (2 : Int32)), .val (.int (own_e0 p1)), .val (.int (own_e1 p1 p2)), .val (.int (own_e2 p1 p2 p3)), .val (.ref b176), .unset, .unset, .unset, .unset, .unset, .unset] [(.int (0 : Int32)), (.ref b202), (.ref b202)])) _
      refine XS.iload X202.here hx rfl (hb hby at_114) rfl ?_
      show Steps p.tables e below (T202.setTop (mkF m 116 #[.val (.int p0), .val (.int p1), .val (.int p2), .val (.int p3), .val (.int (2 : Int32)), .val (.int (own_e0 p1)), .val (.int (own_e1 p1 p2)), .val (.int (own_e2 p1 p2 p3)), .val (.ref b176), .unset, .unset, .unset, .unset, .unset, .unset] [(.int (own_e0 p1)), (.int (0 : Int32)), (.ref b202), (.ref b202)])) _
      refine st211 _ ?_
      show Steps p.tables e below (T211.setTop (mkF m 117 #[.val (.int p0), .val (.int p1), .val (.int p2), .val (.int p3), .val (.int (2 : Int32)), .val (.int (own_e0 p1)), .val (.int (own_e1 p1 p2)), .val (.int (own_e2 p1 p2 p3)), .val (.ref b176), .unset, .unset, .unset, .unset, .unset, .unset] [(.ref b202)])) _
      refine XS.dup X211.here hx rfl (hb hby at_117) rfl rfl ?_
      show Steps p.tables e below (T211.setTop (mkF m 118 #[.val (.int p0), .val (.int p1), .val (.int p2), .val (.int p3), .val (.int (2 : Int32)), .val (.int (own_e0 p1)), .val (.int (own_e1 p1 p2)), .val (.int (own_e2 p1 p2 p3)), .val (.ref b176), .unset, .unset, .unset, .unset, .unset, .unset] [(.ref b202), (.ref b202)])) _
      refine XS.iconst X211.here hx rfl (hb hby at_118) ?_
      show Steps p.tables e below (T211.setTop (mkF m 119 #[.val (.int p0), .val (.int p1), .val (.int p2), .val (.int p3), .val (.int (2 : Int32)), .val (.int (own_e0 p1)), .val (.int (own_e1 p1 p2)), .val (.int (own_e2 p1 p2 p3)), .val (.ref b176), .unset, .unset, .unset, .unset, .unset, .unset] [(.int (1 : Int32)), (.ref b202), (.ref b202)])) _
      refine XS.iload X211.here hx rfl (hb hby at_119) rfl ?_
      show Steps p.tables e below (T211.setTop (mkF m 121 #[.val (.int p0), .val (.int p1), .val (.int p2), .val (.int p3), .val (.int (2 : Int32)), .val (.int (own_e0 p1)), .val (.int (own_e1 p1 p2)), .val (.int (own_e2 p1 p2 p3)), .val (.ref b176), .unset, .unset, .unset, .unset, .unset, .unset] [(.int (own_e1 p1 p2)), (.int (1 : Int32)), (.ref b202), (.ref b202)])) _
      refine st223 _ ?_
      show Steps p.tables e below (T223.setTop (mkF m 122 #[.val (.int p0), .val (.int p1), .val (.int p2), .val (.int p3), .val (.int (2 : Int32)), .val (.int (own_e0 p1)), .val (.int (own_e1 p1 p2)), .val (.int (own_e2 p1 p2 p3)), .val (.ref b176), .unset, .unset, .unset, .unset, .unset, .unset] [(.ref b202)])) _
      refine XS.dup X223.here hx rfl (hb hby at_122) rfl rfl ?_
      show Steps p.tables e below (T223.setTop (mkF m 123 #[.val (.int p0), .val (.int p1), .val (.int p2), .val (.int p3), .val (.int (2 : Int32)), .val (.int (own_e0 p1)), .val (.int (own_e1 p1 p2)), .val (.int (own_e2 p1 p2 p3)), .val (.ref b176), .unset, .unset, .unset, .unset, .unset, .unset] [(.ref b202), (.ref b202)])) _
      refine XS.iconst X223.here hx rfl (hb hby at_123) ?_
      show Steps p.tables e below (T223.setTop (mkF m 124 #[.val (.int p0), .val (.int p1), .val (.int p2), .val (.int p3), .val (.int (2 : Int32)), .val (.int (own_e0 p1)), .val (.int (own_e1 p1 p2)), .val (.int (own_e2 p1 p2 p3)), .val (.ref b176), .unset, .unset, .unset, .unset, .unset, .unset] [(.int (2 : Int32)), (.ref b202), (.ref b202)])) _
      refine XS.iload X223.here hx rfl (hb hby at_124) rfl ?_
      show Steps p.tables e below (T223.setTop (mkF m 126 #[.val (.int p0), .val (.int p1), .val (.int p2), .val (.int p3), .val (.int (2 : Int32)), .val (.int (own_e0 p1)), .val (.int (own_e1 p1 p2)), .val (.int (own_e2 p1 p2 p3)), .val (.ref b176), .unset, .unset, .unset, .unset, .unset, .unset] [(.int (own_e2 p1 p2 p3)), (.int (2 : Int32)), (.ref b202), (.ref b202)])) _
      refine st235 _ ?_
      show Steps p.tables e below (T235.setTop (mkF m 127 #[.val (.int p0), .val (.int p1), .val (.int p2), .val (.int p3), .val (.int (2 : Int32)), .val (.int (own_e0 p1)), .val (.int (own_e1 p1 p2)), .val (.int (own_e2 p1 p2 p3)), .val (.ref b176), .unset, .unset, .unset, .unset, .unset, .unset] [(.ref b202)])) _
      refine XS.astore X235.here hx rfl (hb hby at_127) rfl rfl (l' := #[.val (.int p0), .val (.int p1), .val (.int p2), .val (.int p3), .val (.int (2 : Int32)), .val (.int (own_e0 p1)), .val (.int (own_e1 p1 p2)), .val (.int (own_e2 p1 p2 p3)), .val (.ref b176), .val (.ref b202), .unset, .unset, .unset, .unset, .unset]) rfl ?_
      exact kt
    by_cases hz0 : (own_e0 p1) = (0 : Int32)
    · skip
      have zs247 : n0 ≤ h235.size := Nat.le_trans Z0 k242.1
      obtain ⟨_, _, ⟨T248, L248, k248, n248⟩, -, X248, ⟨Lc248, hQ248, l248, y248, z248⟩, st248⟩ := Jvm.LawKit.callS X235 hx (y := (⟨"com/example/unfold/unfold/semantics/GateSets", "outsideHide", "([I)[I"⟩ : MethodName)) hown (mvT hZ (hw _ (List.mem_of_getElem? (i := 3) rfl))) (mvT hZ (hw _ (List.mem_of_getElem? (i := 4) rfl))) (mvT hZ (hw _ (List.mem_of_getElem? (i := 5) rfl))) (mvT hZ (hw _ (List.mem_of_getElem? (i := 6) rfl))) (by decide) (backOf (W := 0) (own_rm_oh2z l Z a0 hw [] b176 (own_e0 p1) (own_e1 p1 p2) h235 n0 zs247 f239 hz0) hZ (hw _ (List.mem_of_getElem? (i := 6) rfl)) (hw _ (List.mem_of_getElem? (i := 5) rfl)) (by decide) (by decide)) (g := (mkF m 131 #[.val (.int p0), .val (.int p1), .val (.int p2), .val (.int p3), .val (.int (2 : Int32)), .val (.int (own_e0 p1)), .val (.int (own_e1 p1 p2)), .val (.int (own_e2 p1 p2 p3)), .val (.ref b176), .val (.ref b202), .unset, .unset, .unset, .unset, .unset] [(.ref b176)])) rfl (by rw [hml]; rfl) (argsL := [(.ref b176)]) (rest := []) (lenOf own_pd0 rfl) rfl (by show 2 * 0 + _ ≤ _; exact Nat.le_of_eq rfl) (hb hby at_131) (fun _ _ => ⟨rfl, e235, (by decide : 2 + 1 ≤ _), (by decide : 5 + 1 ≤ _)⟩)
      dsimp only [Pt.U, Pt.locs, Pt.cells, Pt.slots] at X248 l248 y248 z248 st248 hQ248
      rw [l248, (y248 : k248 = 3), (z248 : n248 = 6)] at X248
      clear l248 y248 z248
      obtain ⟨r249, rfl, N249, K249, c249_0, c249_1⟩ := hQ248
      have sz_r249 : h0.size ≤ r249 := Nat.le_trans k242.1 c249_0
      have gn_r249 : n0 ≤ r249 := Nat.le_trans Z0 sz_r249
      have ne_aS_r249 : aS ≠ r249 := Nat.ne_of_lt (Nat.lt_of_lt_of_le f237.lt c249_0)
      have ne_b176_r249 : b176 ≠ r249 := Nat.ne_of_lt (Nat.lt_of_lt_of_le f239.lt c249_0)
      have ne_b202_r249 : b202 ≠ r249 := Nat.ne_of_lt (Nat.lt_of_lt_of_le f245.lt c249_0)
      have f250 := own_sta_keep f236 K249 all0
      have f251 := f237.keep K249 nin0
      have f252 := f238.keep K249
      have f253 := f239.keep K249 nin0
      have f254 := f240.keep K249
      have f255 := f245.keep K249 nin0
      have k256 := k242.trans K249 all0
      have nf257 := Fr.app nf243 N249
      obtain ⟨cl258, Ar258, S258, -⟩ := id f253
      have pre259 : ∀ t, Steps p.tables e below (T248.setTop (mkF m 156 #[.val (.int p0), .val (.int p1), .val (.int p2), .val (.int p3), .val (.int (2 : Int32)), .val (.int (own_e0 p1)), .val (.int (own_e1 p1 p2)), .val (.int (own_e2 p1 p2 p3)), .val (.ref b176), .val (.ref b202), .val (.ref r249), .val (.int (1 : Int32)), .unset, .unset, .unset] [])) t → Steps p.tables e below (s₁.setTop (entryFrame m #[(.int p0), (.int p1), (.int p2), (.int p3)] maxLocals)) t := by
        intro t kt
        refine pre246 t ?_
        show Steps p.tables e below (T235.setTop (mkF m 129 #[.val (.int p0), .val (.int p1), .val (.int p2), .val (.int p3), .val (.int (2 : Int32)), .val (.int (own_e0 p1)), .val (.int (own_e1 p1 p2)), .val (.int (own_e2 p1 p2 p3)), .val (.ref b176), .val (.ref b202), .unset, .unset, .unset, .unset, .unset] [])) _
        refine XS.aload X235.here hx rfl (hb hby at_129) rfl rfl ?_
        show Steps p.tables e below (T235.setTop (mkF m 131 #[.val (.int p0), .val (.int p1), .val (.int p2), .val (.int p3), .val (.int (2 : Int32)), .val (.int (own_e0 p1)), .val (.int (own_e1 p1 p2)), .val (.int (own_e2 p1 p2 p3)), .val (.ref b176), .val (.ref b202), .unset, .unset, .unset, .unset, .unset] [(.ref b176)])) _
        refine st248 _ ?_
        show Steps p.tables e below (T248.setTop (mkF m 134 #[.val (.int p0), .val (.int p1), .val (.int p2), .val (.int p3), .val (.int (2 : Int32)), .val (.int (own_e0 p1)), .val (.int (own_e1 p1 p2)), .val (.int (own_e2 p1 p2 p3)), .val (.ref b176), .val (.ref b202), .unset, .unset, .unset, .unset, .unset] [(.ref r249)])) _
        refine XS.astore X248.here hx rfl (hb hby at_134) rfl rfl (l' := #[.val (.int p0), .val (.int p1), .val (.int p2), .val (.int p3), .val (.int (2 : Int32)), .val (.int (own_e0 p1)), .val (.int (own_e1 p1 p2)), .val (.int (own_e2 p1 p2 p3)), .val (.ref b176), .val (.ref b202), .val (.ref r249), .unset, .unset, .unset, .unset]) rfl ?_
        show Steps p.tables e below (T248.setTop (mkF m 136 #[.val (.int p0), .val (.int p1), .val (.int p2), .val (.int p3), .val (.int (2 : Int32)), .val (.int (own_e0 p1)), .val (.int (own_e1 p1 p2)), .val (.int (own_e2 p1 p2 p3)), .val (.ref b176), .val (.ref b202), .val (.ref r249), .unset, .unset, .unset, .unset] [])) _
        refine XS.aload X248.here hx rfl (hb hby at_136) rfl rfl ?_
        show Steps p.tables e below (T248.setTop (mkF m 138 #[.val (.int p0), .val (.int p1), .val (.int p2), .val (.int p3), .val (.int (2 : Int32)), .val (.int (own_e0 p1)), .val (.int (own_e1 p1 p2)), .val (.int (own_e2 p1 p2 p3)), .val (.ref b176), .val (.ref b202), .val (.ref r249), .unset, .unset, .unset, .unset] [(.ref b176)])) _
        refine X248.arraylength hx Ar258.1 (State.isArrayOf_alike hZ.alike Ar258.2.1) (g := (mkF m 138 #[.val (.int p0), .val (.int p1), .val (.int p2), .val (.int p3), .val (.int (2 : Int32)), .val (.int (own_e0 p1)), .val (.int (own_e1 p1 p2)), .val (.int (own_e2 p1 p2 p3)), .val (.ref b176), .val (.ref b202), .val (.ref r249), .unset, .unset, .unset, .unset] [(.ref b176)])) rfl rfl (hb hby at_138) _ ?_
        rw [own_len (z := (2 : Int32)) S258 rfl]
        show Steps p.tables e below (T248.setTop (mkF m 139 #[.val (.int p0), .val (.int p1), .val (.int p2), .val (.int p3), .val (.int (2 : Int32)), .val (.int (own_e0 p1)), .val (.int (own_e1 p1 p2)), .val (.int (own_e2 p1 p2 p3)), .val (.ref b176), .val (.ref b202), .val (.ref r249), .unset, .unset, .unset, .unset] [(.int (2 : Int32))])) _
        refine XS.iload X248.here hx rfl (hb hby at_139) rfl ?_
        show Steps p.tables e below (T248.setTop (mkF m 141 #[.val (.int p0), .val (.int p1), .val (.int p2), .val (.int p3), .val (.int (2 : Int32)), .val (.int (own_e0 p1)), .val (.int (own_e1 p1 p2)), .val (.int (own_e2 p1 p2 p3)), .val (.ref b176), .val (.ref b202), .val (.ref r249), .unset, .unset, .unset, .unset] [(.int (2 : Int32)), (.int (2 : Int32))])) _
        refine XS.icmpNo X248.here hx rfl (hb hby at_141) rfl (teq (rfl : (2 : Int32) = (2 : Int32))).2 ?_
        show Steps p.tables e below (T248.setTop (mkF m 144 #[.val (.int p0), .val (.int p1), .val (.int p2), .val (.int p3), .val (.int (2 : Int32)), .val (.int (own_e0 p1)), .val (.int (own_e1 p1 p2)), .val (.int (own_e2 p1 p2 p3)), .val (.ref b176), .val (.ref b202), .val (.ref r249), .unset, .unset, .unset, .unset] [])) _
        refine XS.iconst X248.here hx rfl (hb hby at_144) ?_
        show Steps p.tables e below (T248.setTop (mkF m 145 #[.val (.int p0), .val (.int p1), .val (.int p2), .val (.int p3), .val (.int (2 : Int32)), .val (.int (own_e0 p1)), .val (.int (own_e1 p1 p2)), .val (.int (own_e2 p1 p2 p3)), .val (.ref b176), .val (.ref b202), .val (.ref r249), .unset, .unset, .unset, .unset] [(.int (1 : Int32))])) _
        refine XS.goto X248.here hx rfl (pc0 := 145) (pc' := 149) rfl (hb hby at_145) (by decide) (by decide) ?_
        show Steps p.tables e below (T248.setTop (mkF m 149 #[.val (.int p0), .val (.int p1), .val (.int p2), .val (.int p3), .val (.int (2 : Int32)), .val (.int (own_e0 p1)), .val (.int (own_e1 p1 p2)), .val (.int (own_e2 p1 p2 p3)), .val (.ref b176), .val (.ref b202), .val (.ref r249), .unset, .unset, .unset, .unset] [(.int (1 : Int32))])) _
        refine XS.istore X248.here hx rfl (hb hby at_149) rfl (l' := #[.val (.int p0), .val (.int p1), .val (.int p2), .val (.int p3), .val (.int (2 : Int32)), .val (.int (own_e0 p1)), .val (.int (own_e1 p1 p2)), .val (.int (own_e2 p1 p2 p3)), .val (.ref b176), .val (.ref b202), .val (.ref r249), .val (.int (1 : Int32)), .unset, .unset, .unset]) rfl ?_
        show Steps p.tables e below (T248.setTop (mkF m 151 #[.val (.int p0), .val (.int p1), .val (.int p2), .val (.int p3), .val (.int (2 : Int32)), .val (.int (own_e0 p1)), .val (.int (own_e1 p1 p2)), .val (.int (own_e2 p1 p2 p3)), .val (.ref b176), .val (.ref b202), .val (.ref r249), .val (.int (1 : Int32)), .unset, .unset, .unset] [])) _
        refine XS.iload X248.here hx rfl (hb hby at_151) rfl ?_
        show Steps p.tables e below (T248.setTop (mkF m 153 #[.val (.int p0), .val (.int p1), .val (.int p2), .val (.int p3), .val (.int (2 : Int32)), .val (.int (own_e0 p1)), .val (.int (own_e1 p1 p2)), .val (.int (own_e2 p1 p2 p3)), .val (.ref b176), .val (.ref b202), .val (.ref r249), .val (.int (1 : Int32)), .unset, .unset, .unset] [(.int (2 : Int32))])) _
        refine XS.ifNo X248.here hx rfl (hb hby at_153) rfl ((if0 _ _).trans (tlt (by decide : (0 : Int32) < (2 : Int32))).2.2.2) ?_
        exact kt
      obtain ⟨cl260, Ar260, S260, H260⟩ := id f253
      have hin260 : ¬ ((0 : Int32) < 0 ∨ cl260.slots.size ≤ ((0 : Int32)).toNatClampNeg) := own_inb S260 (by decide) (by decide)
      have hat260 : cl260.slots[((0 : Int32)).toNatClampNeg]? = some (.int (own_e0 p1)) := H260 _ (by decide)
      have pre261 : ∀ t, Steps p.tables e below (T248.setTop (mkF m 180 #[.val (.int p0), .val (.int p1), .val (.int p2), .val (.int p3), .val (.int (2 : Int32)), .val (.int (own_e0 p1)), .val (.int (own_e1 p1 p2)), .val (.int (own_e2 p1 p2 p3)), .val (.ref b176), .val (.ref b202), .val (.ref r249), .val (.int (1 : Int32)), .unset, .unset, .unset] [(.int (1 : Int32)), (.int (2 : Int32))])) t → Steps p.tables e below (s₁.setTop (entryFrame m #[(.int p0), (.int p1), (.int p2), (.int p3)] maxLocals)) t := by
        intro t kt
        refine pre259 t ?_
        show Steps p.tables e below (T248.setTop (mkF m 156 #[.val (.int p0), .val (.int p1), .val (.int p2), .val (.int p3), .val (.int (2 : Int32)), .val (.int (own_e0 p1)), .val (.int (own_e1 p1 p2)), .val (.int (own_e2 p1 p2 p3)), .val (.ref b176), .val (.ref b202), .val (.ref r249), .val (.int (1 : Int32)), .unset, .unset, .unset] [])) _
        refine XS.iload X248.here hx rfl (hb hby at_156) rfl ?_
        show Steps p.tables e below (T248.setTop (mkF m 158 #[.val (.int p0), .val (.int p1), .val (.int p2), .val (.int p3), .val (.int (2 : Int32)), .val (.int (own_e0 p1)), .val (.int (own_e1 p1 p2)), .val (.int (own_e2 p1 p2 p3)), .val (.ref b176), .val (.ref b202), .val (.ref r249), .val (.int (1 : Int32)), .unset, .unset, .unset] [(.int (1 : Int32))])) _
        refine XS.ifNo X248.here hx rfl (hb hby at_158) rfl ((if0 _ _).trans (feq (by decide : ¬ ((1 : Int32) = (0 : Int32)))).1) ?_
        show Steps p.tables e below (T248.setTop (mkF m 161 #[.val (.int p0), .val (.int p1), .val (.int p2), .val (.int p3), .val (.int (2 : Int32)), .val (.int (own_e0 p1)), .val (.int (own_e1 p1 p2)), .val (.int (own_e2 p1 p2 p3)), .val (.ref b176), .val (.ref b202), .val (.ref r249), .val (.int (1 : Int32)), .unset, .unset, .unset] [])) _
        refine XS.aload X248.here hx rfl (hb hby at_161) rfl rfl ?_
        show Steps p.tables e below (T248.setTop (mkF m 163 #[.val (.int p0), .val (.int p1), .val (.int p2), .val (.int p3), .val (.int (2 : Int32)), .val (.int (own_e0 p1)), .val (.int (own_e1 p1 p2)), .val (.int (own_e2 p1 p2 p3)), .val (.ref b176), .val (.ref b202), .val (.ref r249), .val (.int (1 : Int32)), .unset, .unset, .unset] [(.ref b176)])) _
        refine XS.iconst X248.here hx rfl (hb hby at_163) ?_
        show Steps p.tables e below (T248.setTop (mkF m 164 #[.val (.int p0), .val (.int p1), .val (.int p2), .val (.int p3), .val (.int (2 : Int32)), .val (.int (own_e0 p1)), .val (.int (own_e1 p1 p2)), .val (.int (own_e2 p1 p2 p3)), .val (.ref b176), .val (.ref b202), .val (.ref r249), .val (.int (1 : Int32)), .unset, .unset, .unset] [(.int (0 : Int32)), (.ref b176)])) _
        refine X248.iaload hx (j := (0 : Int32)) (v := (.int (own_e0 p1))) Ar260.1 (State.isArrayOf_alike hZ.alike Ar260.2.1) Ar260.2.2 hin260 hat260 (g := (mkF m 164 #[.val (.int p0), .val (.int p1), .val (.int p2), .val (.int p3), .val (.int (2 : Int32)), .val (.int (own_e0 p1)), .val (.int (own_e1 p1 p2)), .val (.int (own_e2 p1 p2 p3)), .val (.ref b176), .val (.ref b202), .val (.ref r249), .val (.int (1 : Int32)), .unset, .unset, .unset] [(.int (0 : Int32)), (.ref b176)])) rfl rfl (hb hby at_164) _ ?_
        show Steps p.tables e below (T248.setTop (mkF m 165 #[.val (.int p0), .val (.int p1), .val (.int p2), .val (.int p3), .val (.int (2 : Int32)), .val (.int (own_e0 p1)), .val (.int (own_e1 p1 p2)), .val (.int (own_e2 p1 p2 p3)), .val (.ref b176), .val (.ref b202), .val (.ref r249), .val (.int (1 : Int32)), .unset, .unset, .unset] [(.int (own_e0 p1))])) _
        refine XS.iload X248.here hx rfl (hb hby at_165) rfl ?_
        show Steps p.tables e below (T248.setTop (mkF m 167 #[.val (.int p0), .val (.int p1), .val (.int p2), .val (.int p3), .val (.int (2 : Int32)), .val (.int (own_e0 p1)), .val (.int (own_e1 p1 p2)), .val (.int (own_e2 p1 p2 p3)), .val (.ref b176), .val (.ref b202), .val (.ref r249), .val (.int (1 : Int32)), .unset, .unset, .unset] [(.int (own_e0 p1)), (.int (own_e0 p1))])) _
        refine XS.icmpNo X248.here hx rfl (hb hby at_167) rfl (teq (rfl : (own_e0 p1) = (own_e0 p1))).2 ?_
        show Steps p.tables e below (T248.setTop (mkF m 170 #[.val (.int p0), .val (.int p1), .val (.int p2), .val (.int p3), .val (.int (2 : Int32)), .val (.int (own_e0 p1)), .val (.int (own_e1 p1 p2)), .val (.int (own_e2 p1 p2 p3)), .val (.ref b176), .val (.ref b202), .val (.ref r249), .val (.int (1 : Int32)), .unset, .unset, .unset] [])) _
        refine XS.iconst X248.here hx rfl (hb hby at_170) ?_
        show Steps p.tables e below (T248.setTop (mkF m 171 #[.val (.int p0), .val (.int p1), .val (.int p2), .val (.int p3), .val (.int (2 : Int32)), .val (.int (own_e0 p1)), .val (.int (own_e1 p1 p2)), .val (.int (own_e2 p1 p2 p3)), .val (.ref b176), .val (.ref b202), .val (.ref r249), .val (.int (1 : Int32)), .unset, .unset, .unset] [(.int (1 : Int32))])) _
        refine XS.goto X248.here hx rfl (pc0 := 171) (pc' := 175) rfl (hb hby at_171) (by decide) (by decide) ?_
        show Steps p.tables e below (T248.setTop (mkF m 175 #[.val (.int p0), .val (.int p1), .val (.int p2), .val (.int p3), .val (.int (2 : Int32)), .val (.int (own_e0 p1)), .val (.int (own_e1 p1 p2)), .val (.int (own_e2 p1 p2 p3)), .val (.ref b176), .val (.ref b202), .val (.ref r249), .val (.int (1 : Int32)), .unset, .unset, .unset] [(.int (1 : Int32))])) _
        refine XS.istore X248.here hx rfl (hb hby at_175) rfl (l' := #[.val (.int p0), .val (.int p1), .val (.int p2), .val (.int p3), .val (.int (2 : Int32)), .val (.int (own_e0 p1)), .val (.int (own_e1 p1 p2)), .val (.int (own_e2 p1 p2 p3)), .val (.ref b176), .val (.ref b202), .val (.ref r249), .val (.int (1 : Int32)), .unset, .unset, .unset]) rfl ?_
        show Steps p.tables e below (T248.setTop (mkF m 177 #[.val (.int p0), .val (.int p1), .val (.int p2), .val (.int p3), .val (.int (2 : Int32)), .val (.int (own_e0 p1)), .val (.int (own_e1 p1 p2)), .val (.int (own_e2 p1 p2 p3)), .val (.ref b176), .val (.ref b202), .val (.ref r249), .val (.int (1 : Int32)), .unset, .unset, .unset] [])) _
        refine XS.iload X248.here hx rfl (hb hby at_177) rfl ?_
        show Steps p.tables e below (T248.setTop (mkF m 179 #[.val (.int p0), .val (.int p1), .val (.int p2), .val (.int p3), .val (.int (2 : Int32)), .val (.int (own_e0 p1)), .val (.int (own_e1 p1 p2)), .val (.int (own_e2 p1 p2 p3)), .val (.ref b176), .val (.ref b202), .val (.ref r249), .val (.int (1 : Int32)), .unset, .unset, .unset] [(.int (2 : Int32))])) _
        refine XS.iconst X248.here hx rfl (hb hby at_179) ?_
        exact kt
      obtain ⟨cl262, Ar262, S262, H262⟩ := id f253
      have hin262 : ¬ ((1 : Int32) < 0 ∨ cl262.slots.size ≤ ((1 : Int32)).toNatClampNeg) := own_inb S262 (by decide) (by decide)
      have hat262 : cl262.slots[((1 : Int32)).toNatClampNeg]? = some (.int (own_e1 p1 p2)) := H262 _ (by decide)
      have pre263 : ∀ t, Steps p.tables e below (T248.setTop (mkF m 206 #[.val (.int p0), .val (.int p1), .val (.int p2), .val (.int p3), .val (.int (2 : Int32)), .val (.int (own_e0 p1)), .val (.int (own_e1 p1 p2)), .val (.int (own_e2 p1 p2 p3)), .val (.ref b176), .val (.ref b202), .val (.ref r249), .val (.int (1 : Int32)), .unset, .unset, .unset] [(.int (2 : Int32))])) t → Steps p.tables e below (s₁.setTop (entryFrame m #[(.int p0), (.int p1), (.int p2), (.int p3)] maxLocals)) t := by
        intro t kt
        refine pre261 t ?_
        show Steps p.tables e below (T248.setTop (mkF m 180 #[.val (.int p0), .val (.int p1), .val (.int p2), .val (.int p3), .val (.int (2 : Int32)), .val (.int (own_e0 p1)), .val (.int (own_e1 p1 p2)), .val (.int (own_e2 p1 p2 p3)), .val (.ref b176), .val (.ref b202), .val (.ref r249), .val (.int (1 : Int32)), .unset, .unset, .unset] [(.int (1 : Int32)), (.int (2 : Int32))])) _
        refine XS.icmpNo X248.here hx rfl (hb hby at_180) rfl (tlt (by decide : (1 : Int32) < (2 : Int32))).2.2.2 ?_
        show Steps p.tables e below (T248.setTop (mkF m 183 #[.val (.int p0), .val (.int p1), .val (.int p2), .val (.int p3), .val (.int (2 : Int32)), .val (.int (own_e0 p1)), .val (.int (own_e1 p1 p2)), .val (.int (own_e2 p1 p2 p3)), .val (.ref b176), .val (.ref b202), .val (.ref r249), .val (.int (1 : Int32)), .unset, .unset, .unset] [])) _
        refine XS.iload X248.here hx rfl (hb hby at_183) rfl ?_
        show Steps p.tables e below (T248.setTop (mkF m 185 #[.val (.int p0), .val (.int p1), .val (.int p2), .val (.int p3), .val (.int (2 : Int32)), .val (.int (own_e0 p1)), .val (.int (own_e1 p1 p2)), .val (.int (own_e2 p1 p2 p3)), .val (.ref b176), .val (.ref b202), .val (.ref r249), .val (.int (1 : Int32)), .unset, .unset, .unset] [(.int (1 : Int32))])) _
        refine XS.ifNo X248.here hx rfl (hb hby at_185) rfl ((if0 _ _).trans (feq (by decide : ¬ ((1 : Int32) = (0 : Int32)))).1) ?_
        show Steps p.tables e below (T248.setTop (mkF m 188 #[.val (.int p0), .val (.int p1), .val (.int p2), .val (.int p3), .val (.int (2 : Int32)), .val (.int (own_e0 p1)), .val (.int (own_e1 p1 p2)), .val (.int (own_e2 p1 p2 p3)), .val (.ref b176), .val (.ref b202), .val (.ref r249), .val (.int (1 : Int32)), .unset, .unset, .unset] [])) _
        refine XS.aload X248.here hx rfl (hb hby at_188) rfl rfl ?_
        show Steps p.tables e below (T248.setTop (mkF m 190 #[.val (.int p0), .val (.int p1), .val (.int p2), .val (.int p3), .val (.int (2 : Int32)), .val (.int (own_e0 p1)), .val (.int (own_e1 p1 p2)), .val (.int (own_e2 p1 p2 p3)), .val (.ref b176), .val (.ref b202), .val (.ref r249), .val (.int (1 : Int32)), .unset, .unset, .unset] [(.ref b176)])) _
        refine XS.iconst X248.here hx rfl (hb hby at_190) ?_
        show Steps p.tables e below (T248.setTop (mkF m 191 #[.val (.int p0), .val (.int p1), .val (.int p2), .val (.int p3), .val (.int (2 : Int32)), .val (.int (own_e0 p1)), .val (.int (own_e1 p1 p2)), .val (.int (own_e2 p1 p2 p3)), .val (.ref b176), .val (.ref b202), .val (.ref r249), .val (.int (1 : Int32)), .unset, .unset, .unset] [(.int (1 : Int32)), (.ref b176)])) _
        refine X248.iaload hx (j := (1 : Int32)) (v := (.int (own_e1 p1 p2))) Ar262.1 (State.isArrayOf_alike hZ.alike Ar262.2.1) Ar262.2.2 hin262 hat262 (g := (mkF m 191 #[.val (.int p0), .val (.int p1), .val (.int p2), .val (.int p3), .val (.int (2 : Int32)), .val (.int (own_e0 p1)), .val (.int (own_e1 p1 p2)), .val (.int (own_e2 p1 p2 p3)), .val (.ref b176), .val (.ref b202), .val (.ref r249), .val (.int (1 : Int32)), .unset, .unset, .unset] [(.int (1 : Int32)), (.ref b176)])) rfl rfl (hb hby at_191) _ ?_
        show Steps p.tables e below (T248.setTop (mkF m 192 #[.val (.int p0), .val (.int p1), .val (.int p2), .val (.int p3), .val (.int (2 : Int32)), .val (.int (own_e0 p1)), .val (.int (own_e1 p1 p2)), .val (.int (own_e2 p1 p2 p3)), .val (.ref b176), .val (.ref b202), .val (.ref r249), .val (.int (1 : Int32)), .unset, .unset, .unset] [(.int (own_e1 p1 p2))])) _
        refine XS.iload X248.here hx rfl (hb hby at_192) rfl ?_
        show Steps p.tables e below (T248.setTop (mkF m 194 #[.val (.int p0), .val (.int p1), .val (.int p2), .val (.int p3), .val (.int (2 : Int32)), .val (.int (own_e0 p1)), .val (.int (own_e1 p1 p2)), .val (.int (own_e2 p1 p2 p3)), .val (.ref b176), .val (.ref b202), .val (.ref r249), .val (.int (1 : Int32)), .unset, .unset, .unset] [(.int (own_e1 p1 p2)), (.int (own_e1 p1 p2))])) _
        refine XS.icmpNo X248.here hx rfl (hb hby at_194) rfl (teq (rfl : (own_e1 p1 p2) = (own_e1 p1 p2))).2 ?_
        show Steps p.tables e below (T248.setTop (mkF m 197 #[.val (.int p0), .val (.int p1), .val (.int p2), .val (.int p3), .val (.int (2 : Int32)), .val (.int (own_e0 p1)), .val (.int (own_e1 p1 p2)), .val (.int (own_e2 p1 p2 p3)), .val (.ref b176), .val (.ref b202), .val (.ref r249), .val (.int (1 : Int32)), .unset, .unset, .unset] [])) _
        refine XS.iconst X248.here hx rfl (hb hby at_197) ?_
        show Steps p.tables e below (T248.setTop (mkF m 198 #[.val (.int p0), .val (.int p1), .val (.int p2), .val (.int p3), .val (.int (2 : Int32)), .val (.int (own_e0 p1)), .val (.int (own_e1 p1 p2)), .val (.int (own_e2 p1 p2 p3)), .val (.ref b176), .val (.ref b202), .val (.ref r249), .val (.int (1 : Int32)), .unset, .unset, .unset] [(.int (1 : Int32))])) _
        refine XS.goto X248.here hx rfl (pc0 := 198) (pc' := 202) rfl (hb hby at_198) (by decide) (by decide) ?_
        show Steps p.tables e below (T248.setTop (mkF m 202 #[.val (.int p0), .val (.int p1), .val (.int p2), .val (.int p3), .val (.int (2 : Int32)), .val (.int (own_e0 p1)), .val (.int (own_e1 p1 p2)), .val (.int (own_e2 p1 p2 p3)), .val (.ref b176), .val (.ref b202), .val (.ref r249), .val (.int (1 : Int32)), .unset, .unset, .unset] [(.int (1 : Int32))])) _
        refine XS.istore X248.here hx rfl (hb hby at_202) rfl (l' := #[.val (.int p0), .val (.int p1), .val (.int p2), .val (.int p3), .val (.int (2 : Int32)), .val (.int (own_e0 p1)), .val (.int (own_e1 p1 p2)), .val (.int (own_e2 p1 p2 p3)), .val (.ref b176), .val (.ref b202), .val (.ref r249), .val (.int (1 : Int32)), .unset, .unset, .unset]) rfl ?_
        show Steps p.tables e below (T248.setTop (mkF m 204 #[.val (.int p0), .val (.int p1), .val (.int p2), .val (.int p3), .val (.int (2 : Int32)), .val (.int (own_e0 p1)), .val (.int (own_e1 p1 p2)), .val (.int (own_e2 p1 p2 p3)), .val (.ref b176), .val (.ref b202), .val (.ref r249), .val (.int (1 : Int32)), .unset, .unset, .unset] [])) _
        refine XS.iload X248.here hx rfl (hb hby at_204) rfl ?_
        exact kt
      have pre264 : ∀ t, Steps p.tables e below (T248.setTop (mkF m 254 #[.val (.int p0), .val (.int p1), .val (.int p2), .val (.int p3), .val (.int (2 : Int32)), .val (.int (own_e0 p1)), .val (.int (own_e1 p1 p2)), .val (.int (own_e2 p1 p2 p3)), .val (.ref b176), .val (.ref b202), .val (.ref r249), .val (.int (1 : Int32)), .val (.int (1 : Int32)), .unset, .unset] [(.int (1 : Int32))])) t → Steps p.tables e below (s₁.setTop (entryFrame m #[(.int p0), (.int p1), (.int p2), (.int p3)] maxLocals)) t := by
        intro t kt
        refine pre263 t ?_
        show Steps p.tables e below (T248.setTop (mkF m 206 #[.val (.int p0), .val (.int p1), .val (.int p2), .val (.int p3), .val (.int (2 : Int32)), .val (.int (own_e0 p1)), .val (.int (own_e1 p1 p2)), .val (.int (own_e2 p1 p2 p3)), .val (.ref b176), .val (.ref b202), .val (.ref r249), .val (.int (1 : Int32)), .unset, .unset, .unset] [(.int (2 : Int32))])) _
        refine XS.iconst X248.here hx rfl (hb hby at_206) ?_
        show Steps p.tables e below (T248.setTop (mkF m 207 #[.val (.int p0), .val (.int p1), .val (.int p2), .val (.int p3), .val (.int (2 : Int32)), .val (.int (own_e0 p1)), .val (.int (own_e1 p1 p2)), .val (.int (own_e2 p1 p2 p3)), .val (.ref b176), .val (.ref b202), .val (.ref r249), .val (.int (1 : Int32)), .unset, .unset, .unset] [(.int (2 : Int32)), (.int (2 : Int32))])) _
        refine XS.icmpYes X248.here hx rfl (pc0 := 207) (pc' := 231) rfl (hb hby at_207) rfl (flt (by decide : ¬ ((2 : Int32) < (2 : Int32)))).2.2.2 (by decide) (by decide) ?_
        show Steps p.tables e below (T248.setTop (mkF m 231 #[.val (.int p0), .val (.int p1), .val (.int p2), .val (.int p3), .val (.int (2 : Int32)), .val (.int (own_e0 p1)), .val (.int (own_e1 p1 p2)), .val (.int (own_e2 p1 p2 p3)), .val (.ref b176), .val (.ref b202), .val (.ref r249), .val (.int (1 : Int32)), .unset, .unset, .unset] [])) _
        refine XS.iload X248.here hx rfl (hb hby at_231) rfl ?_
        show Steps p.tables e below (T248.setTop (mkF m 233 #[.val (.int p0), .val (.int p1), .val (.int p2), .val (.int p3), .val (.int (2 : Int32)), .val (.int (own_e0 p1)), .val (.int (own_e1 p1 p2)), .val (.int (own_e2 p1 p2 p3)), .val (.ref b176), .val (.ref b202), .val (.ref r249), .val (.int (1 : Int32)), .unset, .unset, .unset] [(.int (2 : Int32))])) _
        refine XS.ifNo X248.here hx rfl (hb hby at_233) rfl ((if0 _ _).trans (tlt (by decide : (0 : Int32) < (2 : Int32))).2.2.2) ?_
        show Steps p.tables e below (T248.setTop (mkF m 236 #[.val (.int p0), .val (.int p1), .val (.int p2), .val (.int p3), .val (.int (2 : Int32)), .val (.int (own_e0 p1)), .val (.int (own_e1 p1 p2)), .val (.int (own_e2 p1 p2 p3)), .val (.ref b176), .val (.ref b202), .val (.ref r249), .val (.int (1 : Int32)), .unset, .unset, .unset] [])) _
        refine XS.iload X248.here hx rfl (hb hby at_236) rfl ?_
        show Steps p.tables e below (T248.setTop (mkF m 238 #[.val (.int p0), .val (.int p1), .val (.int p2), .val (.int p3), .val (.int (2 : Int32)), .val (.int (own_e0 p1)), .val (.int (own_e1 p1 p2)), .val (.int (own_e2 p1 p2 p3)), .val (.ref b176), .val (.ref b202), .val (.ref r249), .val (.int (1 : Int32)), .unset, .unset, .unset] [(.int (own_e0 p1))])) _
        refine XS.ifNo X248.here hx rfl (hb hby at_238) rfl ((if0 _ _).trans (teq hz0).2) ?_
        show Steps p.tables e below (T248.setTop (mkF m 241 #[.val (.int p0), .val (.int p1), .val (.int p2), .val (.int p3), .val (.int (2 : Int32)), .val (.int (own_e0 p1)), .val (.int (own_e1 p1 p2)), .val (.int (own_e2 p1 p2 p3)), .val (.ref b176), .val (.ref b202), .val (.ref r249), .val (.int (1 : Int32)), .unset, .unset, .unset] [])) _
        refine XS.iconst X248.here hx rfl (hb hby at_241) ?_
        show Steps p.tables e below (T248.setTop (mkF m 242 #[.val (.int p0), .val (.int p1), .val (.int p2), .val (.int p3), .val (.int (2 : Int32)), .val (.int (own_e0 p1)), .val (.int (own_e1 p1 p2)), .val (.int (own_e2 p1 p2 p3)), .val (.ref b176), .val (.ref b202), .val (.ref r249), .val (.int (1 : Int32)), .unset, .unset, .unset] [(.int (1 : Int32))])) _
        refine XS.goto X248.here hx rfl (pc0 := 242) (pc' := 246) rfl (hb hby at_242) (by decide) (by decide) ?_
        show Steps p.tables e below (T248.setTop (mkF m 246 #[.val (.int p0), .val (.int p1), .val (.int p2), .val (.int p3), .val (.int (2 : Int32)), .val (.int (own_e0 p1)), .val (.int (own_e1 p1 p2)), .val (.int (own_e2 p1 p2 p3)), .val (.ref b176), .val (.ref b202), .val (.ref r249), .val (.int (1 : Int32)), .unset, .unset, .unset] [(.int (1 : Int32))])) _
        refine XS.istore X248.here hx rfl (hb hby at_246) rfl (l' := #[.val (.int p0), .val (.int p1), .val (.int p2), .val (.int p3), .val (.int (2 : Int32)), .val (.int (own_e0 p1)), .val (.int (own_e1 p1 p2)), .val (.int (own_e2 p1 p2 p3)), .val (.ref b176), .val (.ref b202), .val (.ref r249), .val (.int (1 : Int32)), .val (.int (1 : Int32)), .unset, .unset]) rfl ?_
        show Steps p.tables e below (T248.setTop (mkF m 248 #[.val (.int p0), .val (.int p1), .val (.int p2), .val (.int p3), .val (.int (2 : Int32)), .val (.int (own_e0 p1)), .val (.int (own_e1 p1 p2)), .val (.int (own_e2 p1 p2 p3)), .val (.ref b176), .val (.ref b202), .val (.ref r249), .val (.int (1 : Int32)), .val (.int (1 : Int32)), .unset, .unset] [])) _
        refine XS.iload X248.here hx rfl (hb hby at_248) rfl ?_
        show Steps p.tables e below (T248.setTop (mkF m 250 #[.val (.int p0), .val (.int p1), .val (.int p2), .val (.int p3), .val (.int (2 : Int32)), .val (.int (own_e0 p1)), .val (.int (own_e1 p1 p2)), .val (.int (own_e2 p1 p2 p3)), .val (.ref b176), .val (.ref b202), .val (.ref r249), .val (.int (1 : Int32)), .val (.int (1 : Int32)), .unset, .unset] [(.int (1 : Int32))])) _
        refine XS.ifNo X248.here hx rfl (hb hby at_250) rfl ((if0 _ _).trans (feq (by decide : ¬ ((1 : Int32) = (0 : Int32)))).1) ?_
        show Steps p.tables e below (T248.setTop (mkF m 253 #[.val (.int p0), .val (.int p1), .val (.int p2), .val (.int p3), .val (.int (2 : Int32)), .val (.int (own_e0 p1)), .val (.int (own_e1 p1 p2)), .val (.int (own_e2 p1 p2 p3)), .val (.ref b176), .val (.ref b202), .val (.ref r249), .val (.int (1 : Int32)), .val (.int (1 : Int32)), .unset, .unset] [])) _
        refine XS.iconst X248.here hx rfl (hb hby at_253) ?_
        exact kt
      obtain ⟨cl265, Ar265, S265, -⟩ := id c249_1
      have pre266 : ∀ t, Steps p.tables e below (T248.setTop (mkF m 282 #[.val (.int p0), .val (.int p1), .val (.int p2), .val (.int p3), .val (.int (2 : Int32)), .val (.int (own_e0 p1)), .val (.int (own_e1 p1 p2)), .val (.int (own_e2 p1 p2 p3)), .val (.ref b176), .val (.ref b202), .val (.ref r249), .val (.int (1 : Int32)), .val (.int (1 : Int32)), .val (.int (1 : Int32)), .val (.int (1 : Int32))] [])) t → Steps p.tables e below (s₁.setTop (entryFrame m #[(.int p0), (.int p1), (.int p2), (.int p3)] maxLocals)) t := by
        intro t kt
        refine pre264 t ?_
        show Steps p.tables e below (T248.setTop (mkF m 254 #[.val (.int p0), .val (.int p1), .val (.int p2), .val (.int p3), .val (.int (2 : Int32)), .val (.int (own_e0 p1)), .val (.int (own_e1 p1 p2)), .val (.int (own_e2 p1 p2 p3)), .val (.ref b176), .val (.ref b202), .val (.ref r249), .val (.int (1 : Int32)), .val (.int (1 : Int32)), .unset, .unset] [(.int (1 : Int32))])) _
        refine XS.goto X248.here hx rfl (pc0 := 254) (pc' := 258) rfl (hb hby at_254) (by decide) (by decide) ?_
        show Steps p.tables e below (T248.setTop (mkF m 258 #[.val (.int p0), .val (.int p1), .val (.int p2), .val (.int p3), .val (.int (2 : Int32)), .val (.int (own_e0 p1)), .val (.int (own_e1 p1 p2)), .val (.int (own_e2 p1 p2 p3)), .val (.ref b176), .val (.ref b202), .val (.ref r249), .val (.int (1 : Int32)), .val (.int (1 : Int32)), .unset, .unset] [(.int (1 : Int32))])) _
        refine XS.istore X248.here hx rfl (hb hby at_258) rfl (l' := #[.val (.int p0), .val (.int p1), .val (.int p2), .val (.int p3), .val (.int (2 : Int32)), .val (.int (own_e0 p1)), .val (.int (own_e1 p1 p2)), .val (.int (own_e2 p1 p2 p3)), .val (.ref b176), .val (.ref b202), .val (.ref r249), .val (.int (1 : Int32)), .val (.int (1 : Int32)), .val (.int (1 : Int32)), .unset]) rfl ?_
        show Steps p.tables e below (T248.setTop (mkF m 260 #[.val (.int p0), .val (.int p1), .val (.int p2), .val (.int p3), .val (.int (2 : Int32)), .val (.int (own_e0 p1)), .val (.int (own_e1 p1 p2)), .val (.int (own_e2 p1 p2 p3)), .val (.ref b176), .val (.ref b202), .val (.ref r249), .val (.int (1 : Int32)), .val (.int (1 : Int32)), .val (.int (1 : Int32)), .unset] [])) _
        refine XS.iload X248.here hx rfl (hb hby at_260) rfl ?_
        show Steps p.tables e below (T248.setTop (mkF m 262 #[.val (.int p0), .val (.int p1), .val (.int p2), .val (.int p3), .val (.int (2 : Int32)), .val (.int (own_e0 p1)), .val (.int (own_e1 p1 p2)), .val (.int (own_e2 p1 p2 p3)), .val (.ref b176), .val (.ref b202), .val (.ref r249), .val (.int (1 : Int32)), .val (.int (1 : Int32)), .val (.int (1 : Int32)), .unset] [(.int (2 : Int32))])) _
        refine XS.iload X248.here hx rfl (hb hby at_262) rfl ?_
        show Steps p.tables e below (T248.setTop (mkF m 264 #[.val (.int p0), .val (.int p1), .val (.int p2), .val (.int p3), .val (.int (2 : Int32)), .val (.int (own_e0 p1)), .val (.int (own_e1 p1 p2)), .val (.int (own_e2 p1 p2 p3)), .val (.ref b176), .val (.ref b202), .val (.ref r249), .val (.int (1 : Int32)), .val (.int (1 : Int32)), .val (.int (1 : Int32)), .unset] [(.int (1 : Int32)), (.int (2 : Int32))])) _
        refine XS.isub X248.here hx rfl (hb hby at_264) rfl ?_
        show Steps p.tables e below (T248.setTop (mkF m 265 #[.val (.int p0), .val (.int p1), .val (.int p2), .val (.int p3), .val (.int (2 : Int32)), .val (.int (own_e0 p1)), .val (.int (own_e1 p1 p2)), .val (.int (own_e2 p1 p2 p3)), .val (.ref b176), .val (.ref b202), .val (.ref r249), .val (.int (1 : Int32)), .val (.int (1 : Int32)), .val (.int (1 : Int32)), .unset] [(.int (1 : Int32))])) _
        refine XS.istore X248.here hx rfl (hb hby at_265) rfl (l' := #[.val (.int p0), .val (.int p1), .val (.int p2), .val (.int p3), .val (.int (2 : Int32)), .val (.int (own_e0 p1)), .val (.int (own_e1 p1 p2)), .val (.int (own_e2 p1 p2 p3)), .val (.ref b176), .val (.ref b202), .val (.ref r249), .val (.int (1 : Int32)), .val (.int (1 : Int32)), .val (.int (1 : Int32)), .val (.int (1 : Int32))]) rfl ?_
        show Steps p.tables e below (T248.setTop (mkF m 267 #[.val (.int p0), .val (.int p1), .val (.int p2), .val (.int p3), .val (.int (2 : Int32)), .val (.int (own_e0 p1)), .val (.int (own_e1 p1 p2)), .val (.int (own_e2 p1 p2 p3)), .val (.ref b176), .val (.ref b202), .val (.ref r249), .val (.int (1 : Int32)), .val (.int (1 : Int32)), .val (.int (1 : Int32)), .val (.int (1 : Int32))] [])) _
        refine XS.aload X248.here hx rfl (hb hby at_267) rfl rfl ?_
        show Steps p.tables e below (T248.setTop (mkF m 269 #[.val (.int p0), .val (.int p1), .val (.int p2), .val (.int p3), .val (.int (2 : Int32)), .val (.int (own_e0 p1)), .val (.int (own_e1 p1 p2)), .val (.int (own_e2 p1 p2 p3)), .val (.ref b176), .val (.ref b202), .val (.ref r249), .val (.int (1 : Int32)), .val (.int (1 : Int32)), .val (.int (1 : Int32)), .val (.int (1 : Int32))] [(.ref r249)])) _
        refine XS.ifnullNo X248.here hx rfl (hb hby at_269) rfl ?_
        show Steps p.tables e below (T248.setTop (mkF m 272 #[.val (.int p0), .val (.int p1), .val (.int p2), .val (.int p3), .val (.int (2 : Int32)), .val (.int (own_e0 p1)), .val (.int (own_e1 p1 p2)), .val (.int (own_e2 p1 p2 p3)), .val (.ref b176), .val (.ref b202), .val (.ref r249), .val (.int (1 : Int32)), .val (.int (1 : Int32)), .val (.int (1 : Int32)), .val (.int (1 : Int32))] [])) _
        refine XS.aload X248.here hx rfl (hb hby at_272) rfl rfl ?_
        show Steps p.tables e below (T248.setTop (mkF m 274 #[.val (.int p0), .val (.int p1), .val (.int p2), .val (.int p3), .val (.int (2 : Int32)), .val (.int (own_e0 p1)), .val (.int (own_e1 p1 p2)), .val (.int (own_e2 p1 p2 p3)), .val (.ref b176), .val (.ref b202), .val (.ref r249), .val (.int (1 : Int32)), .val (.int (1 : Int32)), .val (.int (1 : Int32)), .val (.int (1 : Int32))] [(.ref r249)])) _
        refine X248.arraylength hx Ar265.1 (State.isArrayOf_alike hZ.alike Ar265.2.1) (g := (mkF m 274 #[.val (.int p0), .val (.int p1), .val (.int p2), .val (.int p3), .val (.int (2 : Int32)), .val (.int (own_e0 p1)), .val (.int (own_e1 p1 p2)), .val (.int (own_e2 p1 p2 p3)), .val (.ref b176), .val (.ref b202), .val (.ref r249), .val (.int (1 : Int32)), .val (.int (1 : Int32)), .val (.int (1 : Int32)), .val (.int (1 : Int32))] [(.ref r249)])) rfl rfl (hb hby at_274) _ ?_
        rw [own_len (z := (1 : Int32)) S265 rfl]
        show Steps p.tables e below (T248.setTop (mkF m 275 #[.val (.int p0), .val (.int p1), .val (.int p2), .val (.int p3), .val (.int (2 : Int32)), .val (.int (own_e0 p1)), .val (.int (own_e1 p1 p2)), .val (.int (own_e2 p1 p2 p3)), .val (.ref b176), .val (.ref b202), .val (.ref r249), .val (.int (1 : Int32)), .val (.int (1 : Int32)), .val (.int (1 : Int32)), .val (.int (1 : Int32))] [(.int (1 : Int32))])) _
        refine XS.iload X248.here hx rfl (hb hby at_275) rfl ?_
        show Steps p.tables e below (T248.setTop (mkF m 277 #[.val (.int p0), .val (.int p1), .val (.int p2), .val (.int p3), .val (.int (2 : Int32)), .val (.int (own_e0 p1)), .val (.int (own_e1 p1 p2)), .val (.int (own_e2 p1 p2 p3)), .val (.ref b176), .val (.ref b202), .val (.ref r249), .val (.int (1 : Int32)), .val (.int (1 : Int32)), .val (.int (1 : Int32)), .val (.int (1 : Int32))] [(.int (1 : Int32)), (.int (1 : Int32))])) _
        refine XS.icmpYes X248.here hx rfl (pc0 := 277) (pc' := 282) rfl (hb hby at_277) rfl (teq (rfl : (1 : Int32) = (1 : Int32))).1 (by decide) (by decide) ?_
        exact kt
      obtain ⟨cl267, Ar267, S267, H267⟩ := id c249_1
      have hin267 : ¬ ((0 : Int32) < 0 ∨ cl267.slots.size ≤ ((0 : Int32)).toNatClampNeg) := own_inb S267 (by decide) (by decide)
      have hat267 : cl267.slots[((0 : Int32)).toNatClampNeg]? = some (.int ((own_e1 p1 p2) - (1 : Int32))) := H267 _ (by decide)
      obtain ⟨cl268, Ar268, S268, H268⟩ := id f255
      have hin268 : ¬ ((1 : Int32) < 0 ∨ cl268.slots.size ≤ ((1 : Int32)).toNatClampNeg) := own_inb S268 (by decide) (by decide)
      have hat268 : cl268.slots[((1 : Int32)).toNatClampNeg]? = some (.int (own_e1 p1 p2)) := H268 _ (by decide)
      have pre269 : ∀ t, Steps p.tables e below (T248.setTop (mkF m 303 #[.val (.int p0), .val (.int p1), .val (.int p2), .val (.int p3), .val (.int (2 : Int32)), .val (.int (own_e0 p1)), .val (.int (own_e1 p1 p2)), .val (.int (own_e2 p1 p2 p3)), .val (.ref b176), .val (.ref b202), .val (.ref r249), .val (.int (1 : Int32)), .val (.int (1 : Int32)), .val (.int (1 : Int32)), .val (.int (1 : Int32))] [(.int ((own_e1 p1 p2) - (1 : Int32))), (.int ((own_e1 p1 p2) - (1 : Int32)))])) t → Steps p.tables e below (s₁.setTop (entryFrame m #[(.int p0), (.int p1), (.int p2), (.int p3)] maxLocals)) t := by
        intro t kt
        refine pre266 t ?_
        show Steps p.tables e below (T248.setTop (mkF m 282 #[.val (.int p0), .val (.int p1), .val (.int p2), .val (.int p3), .val (.int (2 : Int32)), .val (.int (own_e0 p1)), .val (.int (own_e1 p1 p2)), .val (.int (own_e2 p1 p2 p3)), .val (.ref b176), .val (.ref b202), .val (.ref r249), .val (.int (1 : Int32)), .val (.int (1 : Int32)), .val (.int (1 : Int32)), .val (.int (1 : Int32))] [])) _
        refine XS.iload X248.here hx rfl (hb hby at_282) rfl ?_
        show Steps p.tables e below (T248.setTop (mkF m 284 #[.val (.int p0), .val (.int p1), .val (.int p2), .val (.int p3), .val (.int (2 : Int32)), .val (.int (own_e0 p1)), .val (.int (own_e1 p1 p2)), .val (.int (own_e2 p1 p2 p3)), .val (.ref b176), .val (.ref b202), .val (.ref r249), .val (.int (1 : Int32)), .val (.int (1 : Int32)), .val (.int (1 : Int32)), .val (.int (1 : Int32))] [(.int (1 : Int32))])) _
        refine XS.ifNo X248.here hx rfl (hb hby at_284) rfl ((if0 _ _).trans (tlt (by decide : (0 : Int32) < (1 : Int32))).2.2.2) ?_
        show Steps p.tables e below (T248.setTop (mkF m 287 #[.val (.int p0), .val (.int p1), .val (.int p2), .val (.int p3), .val (.int (2 : Int32)), .val (.int (own_e0 p1)), .val (.int (own_e1 p1 p2)), .val (.int (own_e2 p1 p2 p3)), .val (.ref b176), .val (.ref b202), .val (.ref r249), .val (.int (1 : Int32)), .val (.int (1 : Int32)), .val (.int (1 : Int32)), .val (.int (1 : Int32))] [])) _
        refine XS.iload X248.here hx rfl (hb hby at_287) rfl ?_
        show Steps p.tables e below (T248.setTop (mkF m 289 #[.val (.int p0), .val (.int p1), .val (.int p2), .val (.int p3), .val (.int (2 : Int32)), .val (.int (own_e0 p1)), .val (.int (own_e1 p1 p2)), .val (.int (own_e2 p1 p2 p3)), .val (.ref b176), .val (.ref b202), .val (.ref r249), .val (.int (1 : Int32)), .val (.int (1 : Int32)), .val (.int (1 : Int32)), .val (.int (1 : Int32))] [(.int (1 : Int32))])) _
        refine XS.ifNo X248.here hx rfl (hb hby at_289) rfl ((if0 _ _).trans (feq (by decide : ¬ ((1 : Int32) = (0 : Int32)))).1) ?_
        show Steps p.tables e below (T248.setTop (mkF m 292 #[.val (.int p0), .val (.int p1), .val (.int p2), .val (.int p3), .val (.int (2 : Int32)), .val (.int (own_e0 p1)), .val (.int (own_e1 p1 p2)), .val (.int (own_e2 p1 p2 p3)), .val (.ref b176), .val (.ref b202), .val (.ref r249), .val (.int (1 : Int32)), .val (.int (1 : Int32)), .val (.int (1 : Int32)), .val (.int (1 : Int32))] [])) _
        refine XS.aload X248.here hx rfl (hb hby at_292) rfl rfl ?_
        show Steps p.tables e below (T248.setTop (mkF m 294 #[.val (.int p0), .val (.int p1), .val (.int p2), .val (.int p3), .val (.int (2 : Int32)), .val (.int (own_e0 p1)), .val (.int (own_e1 p1 p2)), .val (.int (own_e2 p1 p2 p3)), .val (.ref b176), .val (.ref b202), .val (.ref r249), .val (.int (1 : Int32)), .val (.int (1 : Int32)), .val (.int (1 : Int32)), .val (.int (1 : Int32))] [(.ref r249)])) _
        refine XS.iconst X248.here hx rfl (hb hby at_294) ?_
        show Steps p.tables e below (T248.setTop (mkF m 295 #[.val (.int p0), .val (.int p1), .val (.int p2), .val (.int p3), .val (.int (2 : Int32)), .val (.int (own_e0 p1)), .val (.int (own_e1 p1 p2)), .val (.int (own_e2 p1 p2 p3)), .val (.ref b176), .val (.ref b202), .val (.ref r249), .val (.int (1 : Int32)), .val (.int (1 : Int32)), .val (.int (1 : Int32)), .val (.int (1 : Int32))] [(.int (0 : Int32)), (.ref r249)])) _
        refine X248.iaload hx (j := (0 : Int32)) (v := (.int ((own_e1 p1 p2) - (1 : Int32)))) Ar267.1 (State.isArrayOf_alike hZ.alike Ar267.2.1) Ar267.2.2 hin267 hat267 (g := (mkF m 295 #[.val (.int p0), .val (.int p1), .val (.int p2), .val (.int p3), .val (.int (2 : Int32)), .val (.int (own_e0 p1)), .val (.int (own_e1 p1 p2)), .val (.int (own_e2 p1 p2 p3)), .val (.ref b176), .val (.ref b202), .val (.ref r249), .val (.int (1 : Int32)), .val (.int (1 : Int32)), .val (.int (1 : Int32)), .val (.int (1 : Int32))] [(.int (0 : Int32)), (.ref r249)])) rfl rfl (hb hby at_295) _ ?_
        show Steps p.tables e below (T248.setTop (mkF m 296 #[.val (.int p0), .val (.int p1), .val (.int p2), .val (.int p3), .val (.int (2 : Int32)), .val (.int (own_e0 p1)), .val (.int (own_e1 p1 p2)), .val (.int (own_e2 p1 p2 p3)), .val (.ref b176), .val (.ref b202), .val (.ref r249), .val (.int (1 : Int32)), .val (.int (1 : Int32)), .val (.int (1 : Int32)), .val (.int (1 : Int32))] [(.int ((own_e1 p1 p2) - (1 : Int32)))])) _
        refine XS.aload X248.here hx rfl (hb hby at_296) rfl rfl ?_
        show Steps p.tables e below (T248.setTop (mkF m 298 #[.val (.int p0), .val (.int p1), .val (.int p2), .val (.int p3), .val (.int (2 : Int32)), .val (.int (own_e0 p1)), .val (.int (own_e1 p1 p2)), .val (.int (own_e2 p1 p2 p3)), .val (.ref b176), .val (.ref b202), .val (.ref r249), .val (.int (1 : Int32)), .val (.int (1 : Int32)), .val (.int (1 : Int32)), .val (.int (1 : Int32))] [(.ref b202), (.int ((own_e1 p1 p2) - (1 : Int32)))])) _
        refine XS.iload X248.here hx rfl (hb hby at_298) rfl ?_
        show Steps p.tables e below (T248.setTop (mkF m 300 #[.val (.int p0), .val (.int p1), .val (.int p2), .val (.int p3), .val (.int (2 : Int32)), .val (.int (own_e0 p1)), .val (.int (own_e1 p1 p2)), .val (.int (own_e2 p1 p2 p3)), .val (.ref b176), .val (.ref b202), .val (.ref r249), .val (.int (1 : Int32)), .val (.int (1 : Int32)), .val (.int (1 : Int32)), .val (.int (1 : Int32))] [(.int (1 : Int32)), (.ref b202), (.int ((own_e1 p1 p2) - (1 : Int32)))])) _
        refine X248.iaload hx (j := (1 : Int32)) (v := (.int (own_e1 p1 p2))) Ar268.1 (State.isArrayOf_alike hZ.alike Ar268.2.1) Ar268.2.2 hin268 hat268 (g := (mkF m 300 #[.val (.int p0), .val (.int p1), .val (.int p2), .val (.int p3), .val (.int (2 : Int32)), .val (.int (own_e0 p1)), .val (.int (own_e1 p1 p2)), .val (.int (own_e2 p1 p2 p3)), .val (.ref b176), .val (.ref b202), .val (.ref r249), .val (.int (1 : Int32)), .val (.int (1 : Int32)), .val (.int (1 : Int32)), .val (.int (1 : Int32))] [(.int (1 : Int32)), (.ref b202), (.int ((own_e1 p1 p2) - (1 : Int32)))])) rfl rfl (hb hby at_300) _ ?_
        show Steps p.tables e below (T248.setTop (mkF m 301 #[.val (.int p0), .val (.int p1), .val (.int p2), .val (.int p3), .val (.int (2 : Int32)), .val (.int (own_e0 p1)), .val (.int (own_e1 p1 p2)), .val (.int (own_e2 p1 p2 p3)), .val (.ref b176), .val (.ref b202), .val (.ref r249), .val (.int (1 : Int32)), .val (.int (1 : Int32)), .val (.int (1 : Int32)), .val (.int (1 : Int32))] [(.int (own_e1 p1 p2)), (.int ((own_e1 p1 p2) - (1 : Int32)))])) _
        refine XS.iconst X248.here hx rfl (hb hby at_301) ?_
        show Steps p.tables e below (T248.setTop (mkF m 302 #[.val (.int p0), .val (.int p1), .val (.int p2), .val (.int p3), .val (.int (2 : Int32)), .val (.int (own_e0 p1)), .val (.int (own_e1 p1 p2)), .val (.int (own_e2 p1 p2 p3)), .val (.ref b176), .val (.ref b202), .val (.ref r249), .val (.int (1 : Int32)), .val (.int (1 : Int32)), .val (.int (1 : Int32)), .val (.int (1 : Int32))] [(.int (1 : Int32)), (.int (own_e1 p1 p2)), (.int ((own_e1 p1 p2) - (1 : Int32)))])) _
        refine XS.isub X248.here hx rfl (hb hby at_302) rfl ?_
        exact kt
      have pre270 : ∀ t, Steps p.tables e below (T248.setTop (mkF m 383 #[.val (.int p0), .val (.int p1), .val (.int p2), .val (.int p3), .val (.int (2 : Int32)), .val (.int (own_e0 p1)), .val (.int (own_e1 p1 p2)), .val (.int (own_e2 p1 p2 p3)), .val (.ref b176), .val (.ref b202), .val (.ref r249), .val (.int (1 : Int32)), .val (.int (1 : Int32)), .val (.int (1 : Int32)), .val (.int (1 : Int32))] [(.int (1 : Int32))])) t → Steps p.tables e below (s₁.setTop (entryFrame m #[(.int p0), (.int p1), (.int p2), (.int p3)] maxLocals)) t := by
        intro t kt
        refine pre269 t ?_
        show Steps p.tables e below (T248.setTop (mkF m 303 #[.val (.int p0), .val (.int p1), .val (.int p2), .val (.int p3), .val (.int (2 : Int32)), .val (.int (own_e0 p1)), .val (.int (own_e1 p1 p2)), .val (.int (own_e2 p1 p2 p3)), .val (.ref b176), .val (.ref b202), .val (.ref r249), .val (.int (1 : Int32)), .val (.int (1 : Int32)), .val (.int (1 : Int32)), .val (.int (1 : Int32))] [(.int ((own_e1 p1 p2) - (1 : Int32))), (.int ((own_e1 p1 p2) - (1 : Int32)))])) _
        refine XS.icmpNo X248.here hx rfl (hb hby at_303) rfl (teq (rfl : ((own_e1 p1 p2) - (1 : Int32)) = ((own_e1 p1 p2) - (1 : Int32)))).2 ?_
        show Steps p.tables e below (T248.setTop (mkF m 306 #[.val (.int p0), .val (.int p1), .val (.int p2), .val (.int p3), .val (.int (2 : Int32)), .val (.int (own_e0 p1)), .val (.int (own_e1 p1 p2)), .val (.int (own_e2 p1 p2 p3)), .val (.ref b176), .val (.ref b202), .val (.ref r249), .val (.int (1 : Int32)), .val (.int (1 : Int32)), .val (.int (1 : Int32)), .val (.int (1 : Int32))] [])) _
        refine XS.iconst X248.here hx rfl (hb hby at_306) ?_
        show Steps p.tables e below (T248.setTop (mkF m 307 #[.val (.int p0), .val (.int p1), .val (.int p2), .val (.int p3), .val (.int (2 : Int32)), .val (.int (own_e0 p1)), .val (.int (own_e1 p1 p2)), .val (.int (own_e2 p1 p2 p3)), .val (.ref b176), .val (.ref b202), .val (.ref r249), .val (.int (1 : Int32)), .val (.int (1 : Int32)), .val (.int (1 : Int32)), .val (.int (1 : Int32))] [(.int (1 : Int32))])) _
        refine XS.goto X248.here hx rfl (pc0 := 307) (pc' := 311) rfl (hb hby at_307) (by decide) (by decide) ?_
        show Steps p.tables e below (T248.setTop (mkF m 311 #[.val (.int p0), .val (.int p1), .val (.int p2), .val (.int p3), .val (.int (2 : Int32)), .val (.int (own_e0 p1)), .val (.int (own_e1 p1 p2)), .val (.int (own_e2 p1 p2 p3)), .val (.ref b176), .val (.ref b202), .val (.ref r249), .val (.int (1 : Int32)), .val (.int (1 : Int32)), .val (.int (1 : Int32)), .val (.int (1 : Int32))] [(.int (1 : Int32))])) _
        refine XS.istore X248.here hx rfl (hb hby at_311) rfl (l' := #[.val (.int p0), .val (.int p1), .val (.int p2), .val (.int p3), .val (.int (2 : Int32)), .val (.int (own_e0 p1)), .val (.int (own_e1 p1 p2)), .val (.int (own_e2 p1 p2 p3)), .val (.ref b176), .val (.ref b202), .val (.ref r249), .val (.int (1 : Int32)), .val (.int (1 : Int32)), .val (.int (1 : Int32)), .val (.int (1 : Int32))]) rfl ?_
        show Steps p.tables e below (T248.setTop (mkF m 313 #[.val (.int p0), .val (.int p1), .val (.int p2), .val (.int p3), .val (.int (2 : Int32)), .val (.int (own_e0 p1)), .val (.int (own_e1 p1 p2)), .val (.int (own_e2 p1 p2 p3)), .val (.ref b176), .val (.ref b202), .val (.ref r249), .val (.int (1 : Int32)), .val (.int (1 : Int32)), .val (.int (1 : Int32)), .val (.int (1 : Int32))] [])) _
        refine XS.iload X248.here hx rfl (hb hby at_313) rfl ?_
        show Steps p.tables e below (T248.setTop (mkF m 315 #[.val (.int p0), .val (.int p1), .val (.int p2), .val (.int p3), .val (.int (2 : Int32)), .val (.int (own_e0 p1)), .val (.int (own_e1 p1 p2)), .val (.int (own_e2 p1 p2 p3)), .val (.ref b176), .val (.ref b202), .val (.ref r249), .val (.int (1 : Int32)), .val (.int (1 : Int32)), .val (.int (1 : Int32)), .val (.int (1 : Int32))] [(.int (1 : Int32))])) _
        refine XS.iconst X248.here hx rfl (hb hby at_315) ?_
        show Steps p.tables e below (T248.setTop (mkF m 316 #[.val (.int p0), .val (.int p1), .val (.int p2), .val (.int p3), .val (.int (2 : Int32)), .val (.int (own_e0 p1)), .val (.int (own_e1 p1 p2)), .val (.int (own_e2 p1 p2 p3)), .val (.ref b176), .val (.ref b202), .val (.ref r249), .val (.int (1 : Int32)), .val (.int (1 : Int32)), .val (.int (1 : Int32)), .val (.int (1 : Int32))] [(.int (1 : Int32)), (.int (1 : Int32))])) _
        refine XS.icmpYes X248.here hx rfl (pc0 := 316) (pc' := 347) rfl (hb hby at_316) rfl (flt (by decide : ¬ ((1 : Int32) < (1 : Int32)))).2.2.2 (by decide) (by decide) ?_
        show Steps p.tables e below (T248.setTop (mkF m 347 #[.val (.int p0), .val (.int p1), .val (.int p2), .val (.int p3), .val (.int (2 : Int32)), .val (.int (own_e0 p1)), .val (.int (own_e1 p1 p2)), .val (.int (own_e2 p1 p2 p3)), .val (.ref b176), .val (.ref b202), .val (.ref r249), .val (.int (1 : Int32)), .val (.int (1 : Int32)), .val (.int (1 : Int32)), .val (.int (1 : Int32))] [])) _
        refine XS.iload X248.here hx rfl (hb hby at_347) rfl ?_
        show Steps p.tables e below (T248.setTop (mkF m 349 #[.val (.int p0), .val (.int p1), .val (.int p2), .val (.int p3), .val (.int (2 : Int32)), .val (.int (own_e0 p1)), .val (.int (own_e1 p1 p2)), .val (.int (own_e2 p1 p2 p3)), .val (.ref b176), .val (.ref b202), .val (.ref r249), .val (.int (1 : Int32)), .val (.int (1 : Int32)), .val (.int (1 : Int32)), .val (.int (1 : Int32))] [(.int (1 : Int32))])) _
        refine XS.iconst X248.here hx rfl (hb hby at_349) ?_
        show Steps p.tables e below (T248.setTop (mkF m 350 #[.val (.int p0), .val (.int p1), .val (.int p2), .val (.int p3), .val (.int (2 : Int32)), .val (.int (own_e0 p1)), .val (.int (own_e1 p1 p2)), .val (.int (own_e2 p1 p2 p3)), .val (.ref b176), .val (.ref b202), .val (.ref r249), .val (.int (1 : Int32)), .val (.int (1 : Int32)), .val (.int (1 : Int32)), .val (.int (1 : Int32))] [(.int (2 : Int32)), (.int (1 : Int32))])) _
        refine XS.icmpYes X248.here hx rfl (pc0 := 350) (pc' := 381) rfl (hb hby at_350) rfl (flt (by decide : ¬ ((2 : Int32) < (1 : Int32)))).2.2.2 (by decide) (by decide) ?_
        show Steps p.tables e below (T248.setTop (mkF m 381 #[.val (.int p0), .val (.int p1), .val (.int p2), .val (.int p3), .val (.int (2 : Int32)), .val (.int (own_e0 p1)), .val (.int (own_e1 p1 p2)), .val (.int (own_e2 p1 p2 p3)), .val (.ref b176), .val (.ref b202), .val (.ref r249), .val (.int (1 : Int32)), .val (.int (1 : Int32)), .val (.int (1 : Int32)), .val (.int (1 : Int32))] [])) _
        refine XS.iload X248.here hx rfl (hb hby at_381) rfl ?_
        exact kt
      obtain ⟨fs, hr, hrun, hended, hW, hsame⟩ := X248.leave (v := some (.int (1 : Int32))) (fun h => by rw [Bd.returns] at h; cases h)
      refine ⟨_, _, pre270 _ ?_, hrun, hended, _, _, rfl, ?_, ⟨_, rfl⟩, hW, hsame.mono (by decide) (by decide)⟩
      · show Steps p.tables e below (T248.setTop (mkF m 383 #[.val (.int p0), .val (.int p1), .val (.int p2), .val (.int p3), .val (.int (2 : Int32)), .val (.int (own_e0 p1)), .val (.int (own_e1 p1 p2)), .val (.int (own_e2 p1 p2 p3)), .val (.ref b176), .val (.ref b202), .val (.ref r249), .val (.int (1 : Int32)), .val (.int (1 : Int32)), .val (.int (1 : Int32)), .val (.int (1 : Int32))] [(.int (1 : Int32))])) _
        exact retN X248 hx (t := .boolean) Bd.returns (by simp) (hb hby at_383) hr
      · show own_Q_law Z p0 p1 p2 p3 aS h0 n0 (some (.int (1 : Int32))) T248.heap _
        skip
        exact ⟨rfl, nf257⟩
    · skip
      have zs271 : n0 ≤ h235.size := Nat.le_trans Z0 k242.1
      obtain ⟨_, _, ⟨T272, L272, k272, n272⟩, -, X272, ⟨Lc272, hQ272, l272, y272, z272⟩, st272⟩ := Jvm.LawKit.callS X235 hx (y := (⟨"com/example/unfold/unfold/semantics/GateSets", "outsideHide", "([I)[I"⟩ : MethodName)) hown (mvT hZ (hw _ (List.mem_of_getElem? (i := 3) rfl))) (mvT hZ (hw _ (List.mem_of_getElem? (i := 4) rfl))) (mvT hZ (hw _ (List.mem_of_getElem? (i := 5) rfl))) (mvT hZ (hw _ (List.mem_of_getElem? (i := 6) rfl))) (by decide) (backOf (W := 0) (own_rm_oh2n l Z a0 hw [] b176 (own_e0 p1) (own_e1 p1 p2) h235 n0 zs271 f239 hz0) hZ (hw _ (List.mem_of_getElem? (i := 6) rfl)) (hw _ (List.mem_of_getElem? (i := 5) rfl)) (by decide) (by decide)) (g := (mkF m 131 #[.val (.int p0), .val (.int p1), .val (.int p2), .val (.int p3), .val (.int (2 : Int32)), .val (.int (own_e0 p1)), .val (.int (own_e1 p1 p2)), .val (.int (own_e2 p1 p2 p3)), .val (.ref b176), .val (.ref b202), .unset, .unset, .unset, .unset, .unset] [(.ref b176)])) rfl (by rw [hml]; rfl) (argsL := [(.ref b176)]) (rest := []) (lenOf own_pd0 rfl) rfl (by show 2 * 0 + _ ≤ _; exact Nat.le_of_eq rfl) (hb hby at_131) (fun _ _ => ⟨rfl, e235, (by decide : 2 + 1 ≤ _), (by decide : 5 + 2 ≤ _)⟩)
      dsimp only [Pt.U, Pt.locs, Pt.cells, Pt.slots] at X272 l272 y272 z272 st272 hQ272
      rw [l272, (y272 : k272 = 3), (z272 : n272 = 7)] at X272
      clear l272 y272 z272
      obtain ⟨r273, rfl, N273, K273, c273_0, c273_1⟩ := hQ272
      have sz_r273 : h0.size ≤ r273 := Nat.le_trans k242.1 c273_0
      have gn_r273 : n0 ≤ r273 := Nat.le_trans Z0 sz_r273
      have ne_aS_r273 : aS ≠ r273 := Nat.ne_of_lt (Nat.lt_of_lt_of_le f237.lt c273_0)
      have ne_b176_r273 : b176 ≠ r273 := Nat.ne_of_lt (Nat.lt_of_lt_of_le f239.lt c273_0)
      have ne_b202_r273 : b202 ≠ r273 := Nat.ne_of_lt (Nat.lt_of_lt_of_le f245.lt c273_0)
      have f274 := own_sta_keep f236 K273 all0
      have f275 := f237.keep K273 nin0
      have f276 := f238.keep K273
      have f277 := f239.keep K273 nin0
      have f278 := f240.keep K273
      have f279 := f245.keep K273 nin0
      have k280 := k242.trans K273 all0
      have nf281 := Fr.app nf243 N273
      obtain ⟨cl282, Ar282, S282, -⟩ := id f277
      have pre283 : ∀ t, Steps p.tables e below (T272.setTop (mkF m 156 #[.val (.int p0), .val (.int p1), .val (.int p2), .val (.int p3), .val (.int (2 : Int32)), .val (.int (own_e0 p1)), .val (.int (own_e1 p1 p2)), .val (.int (own_e2 p1 p2 p3)), .val (.ref b176), .val (.ref b202), .val (.ref r273), .val (.int (1 : Int32)), .unset, .unset, .unset] [])) t → Steps p.tables e below (s₁.setTop (entryFrame m #[(.int p0), (.int p1), (.int p2), (.int p3)] maxLocals)) t := by
        intro t kt
        refine pre246 t ?_
        show Steps p.tables e below (T235.setTop (mkF m 129 #[.val (.int p0), .val (.int p1), .val (.int p2), .val (.int p3), .val (.int (2 : Int32)), .val (.int (own_e0 p1)), .val (.int (own_e1 p1 p2)), .val (.int (own_e2 p1 p2 p3)), .val (.ref b176), .val (.ref b202), .unset, .unset, .unset, .unset, .unset] [])) _
        refine XS.aload X235.here hx rfl (hb hby at_129) rfl rfl ?_
        show Steps p.tables e below (T235.setTop (mkF m 131 #[.val (.int p0), .val (.int p1), .val (.int p2), .val (.int p3), .val (.int (2 : Int32)), .val (.int (own_e0 p1)), .val (.int (own_e1 p1 p2)), .val (.int (own_e2 p1 p2 p3)), .val (.ref b176), .val (.ref b202), .unset, .unset, .unset, .unset, .unset] [(.ref b176)])) _
        refine st272 _ ?_
        show Steps p.tables e below (T272.setTop (mkF m 134 #[.val (.int p0), .val (.int p1), .val (.int p2), .val (.int p3), .val (.int (2 : Int32)), .val (.int (own_e0 p1)), .val (.int (own_e1 p1 p2)), .val (.int (own_e2 p1 p2 p3)), .val (.ref b176), .val (.ref b202), .unset, .unset, .unset, .unset, .unset] [(.ref r273)])) _
        refine XS.astore X272.here hx rfl (hb hby at_134) rfl rfl (l' := #[.val (.int p0), .val (.int p1), .val (.int p2), .val (.int p3), .val (.int (2 : Int32)), .val (.int (own_e0 p1)), .val (.int (own_e1 p1 p2)), .val (.int (own_e2 p1 p2 p3)), .val (.ref b176), .val (.ref b202), .val (.ref r273), .unset, .unset, .unset, .unset]) rfl ?_
        show Steps p.tables e below (T272.setTop (mkF m 136 #[.val (.int p0), .val (.int p1), .val (.int p2), .val (.int p3), .val (.int (2 : Int32)), .val (.int (own_e0 p1)), .val (.int (own_e1 p1 p2)), .val (.int (own_e2 p1 p2 p3)), .val (.ref b176), .val (.ref b202), .val (.ref r273), .unset, .unset, .unset, .unset] [])) _
        refine XS.aload X272.here hx rfl (hb hby at_136) rfl rfl ?_
        show Steps p.tables e below (T272.setTop (mkF m 138 #[.val (.int p0), .val (.int p1), .val (.int p2), .val (.int p3), .val (.int (2 : Int32)), .val (.int (own_e0 p1)), .val (.int (own_e1 p1 p2)), .val (.int (own_e2 p1 p2 p3)), .val (.ref b176), .val (.ref b202), .val (.ref r273), .unset, .unset, .unset, .unset] [(.ref b176)])) _
        refine X272.arraylength hx Ar282.1 (State.isArrayOf_alike hZ.alike Ar282.2.1) (g := (mkF m 138 #[.val (.int p0), .val (.int p1), .val (.int p2), .val (.int p3), .val (.int (2 : Int32)), .val (.int (own_e0 p1)), .val (.int (own_e1 p1 p2)), .val (.int (own_e2 p1 p2 p3)), .val (.ref b176), .val (.ref b202), .val (.ref r273), .unset, .unset, .unset, .unset] [(.ref b176)])) rfl rfl (hb hby at_138) _ ?_
        rw [own_len (z := (2 : Int32)) S282 rfl]
        show Steps p.tables e below (T272.setTop (mkF m 139 #[.val (.int p0), .val (.int p1), .val (.int p2), .val (.int p3), .val (.int (2 : Int32)), .val (.int (own_e0 p1)), .val (.int (own_e1 p1 p2)), .val (.int (own_e2 p1 p2 p3)), .val (.ref b176), .val (.ref b202), .val (.ref r273), .unset, .unset, .unset, .unset] [(.int (2 : Int32))])) _
        refine XS.iload X272.here hx rfl (hb hby at_139) rfl ?_
        show Steps p.tables e below (T272.setTop (mkF m 141 #[.val (.int p0), .val (.int p1), .val (.int p2), .val (.int p3), .val (.int (2 : Int32)), .val (.int (own_e0 p1)), .val (.int (own_e1 p1 p2)), .val (.int (own_e2 p1 p2 p3)), .val (.ref b176), .val (.ref b202), .val (.ref r273), .unset, .unset, .unset, .unset] [(.int (2 : Int32)), (.int (2 : Int32))])) _
        refine XS.icmpNo X272.here hx rfl (hb hby at_141) rfl (teq (rfl : (2 : Int32) = (2 : Int32))).2 ?_
        show Steps p.tables e below (T272.setTop (mkF m 144 #[.val (.int p0), .val (.int p1), .val (.int p2), .val (.int p3), .val (.int (2 : Int32)), .val (.int (own_e0 p1)), .val (.int (own_e1 p1 p2)), .val (.int (own_e2 p1 p2 p3)), .val (.ref b176), .val (.ref b202), .val (.ref r273), .unset, .unset, .unset, .unset] [])) _
        refine XS.iconst X272.here hx rfl (hb hby at_144) ?_
        show Steps p.tables e below (T272.setTop (mkF m 145 #[.val (.int p0), .val (.int p1), .val (.int p2), .val (.int p3), .val (.int (2 : Int32)), .val (.int (own_e0 p1)), .val (.int (own_e1 p1 p2)), .val (.int (own_e2 p1 p2 p3)), .val (.ref b176), .val (.ref b202), .val (.ref r273), .unset, .unset, .unset, .unset] [(.int (1 : Int32))])) _
        refine XS.goto X272.here hx rfl (pc0 := 145) (pc' := 149) rfl (hb hby at_145) (by decide) (by decide) ?_
        show Steps p.tables e below (T272.setTop (mkF m 149 #[.val (.int p0), .val (.int p1), .val (.int p2), .val (.int p3), .val (.int (2 : Int32)), .val (.int (own_e0 p1)), .val (.int (own_e1 p1 p2)), .val (.int (own_e2 p1 p2 p3)), .val (.ref b176), .val (.ref b202), .val (.ref r273), .unset, .unset, .unset, .unset] [(.int (1 : Int32))])) _
        refine XS.istore X272.here hx rfl (hb hby at_149) rfl (l' := #[.val (.int p0), .val (.int p1), .val (.int p2), .val (.int p3), .val (.int (2 : Int32)), .val (.int (own_e0 p1)), .val (.int (own_e1 p1 p2)), .val (.int (own_e2 p1 p2 p3)), .val (.ref b176), .val (.ref b202), .val (.ref r273), .val (.int (1 : Int32)), .unset, .unset, .unset]) rfl ?_
        show Steps p.tables e below (T272.setTop (mkF m 151 #[.val (.int p0), .val (.int p1), .val (.int p2), .val (.int p3), .val (.int (2 : Int32)), .val (.int (own_e0 p1)), .val (.int (own_e1 p1 p2)), .val (.int (own_e2 p1 p2 p3)), .val (.ref b176), .val (.ref b202), .val (.ref r273), .val (.int (1 : Int32)), .unset, .unset, .unset] [])) _
        refine XS.iload X272.here hx rfl (hb hby at_151) rfl ?_
        show Steps p.tables e below (T272.setTop (mkF m 153 #[.val (.int p0), .val (.int p1), .val (.int p2), .val (.int p3), .val (.int (2 : Int32)), .val (.int (own_e0 p1)), .val (.int (own_e1 p1 p2)), .val (.int (own_e2 p1 p2 p3)), .val (.ref b176), .val (.ref b202), .val (.ref r273), .val (.int (1 : Int32)), .unset, .unset, .unset] [(.int (2 : Int32))])) _
        refine XS.ifNo X272.here hx rfl (hb hby at_153) rfl ((if0 _ _).trans (tlt (by decide : (0 : Int32) < (2 : Int32))).2.2.2) ?_
        exact kt
      obtain ⟨cl284, Ar284, S284, H284⟩ := id f277
      have hin284 : ¬ ((0 : Int32) < 0 ∨ cl284.slots.size ≤ ((0 : Int32)).toNatClampNeg) := own_inb S284 (by decide) (by decide)
      have hat284 : cl284.slots[((0 : Int32)).toNatClampNeg]? = some (.int (own_e0 p1)) := H284 _ (by decide)
      have pre285 : ∀ t, Steps p.tables e below (T272.setTop (mkF m 180 #[.val (.int p0), .val (.int p1), .val (.int p2), .val (.int p3), .val (.int (2 : Int32)), .val (.int (own_e0 p1)), .val (.int (own_e1 p1 p2)), .val (.int (own_e2 p1 p2 p3)), .val (.ref b176), .val (.ref b202), .val (.ref r273), .val (.int (1 : Int32)), .unset, .unset, .unset] [(.int (1 : Int32)), (.int (2 : Int32))])) t → Steps p.tables e below (s₁.setTop (entryFrame m #[(.int p0), (.int p1), (.int p2), (.int p3)] maxLocals)) t := by
        intro t kt
        refine pre283 t ?_
        show Steps p.tables e below (T272.setTop (mkF m 156 #[.val (.int p0), .val (.int p1), .val (.int p2), .val (.int p3), .val (.int (2 : Int32)), .val (.int (own_e0 p1)), .val (.int (own_e1 p1 p2)), .val (.int (own_e2 p1 p2 p3)), .val (.ref b176), .val (.ref b202), .val (.ref r273), .val (.int (1 : Int32)), .unset, .unset, .unset] [])) _
        refine XS.iload X272.here hx rfl (hb hby at_156) rfl ?_
        show Steps p.tables e below (T272.setTop (mkF m 158 #[.val (.int p0), .val (.int p1), .val (.int p2), .val (.int p3), .val (.int (2 : Int32)), .val (.int (own_e0 p1)), .val (.int (own_e1 p1 p2)), .val (.int (own_e2 p1 p2 p3)), .val (.ref b176), .val (.ref b202), .val (.ref r273), .val (.int (1 : Int32)), .unset, .unset, .unset] [(.int (1 : Int32))])) _
        refine XS.ifNo X272.here hx rfl (hb hby at_158) rfl ((if0 _ _).trans (feq (by decide : ¬ ((1 : Int32) = (0 : Int32)))).1) ?_
        show Steps p.tables e below (T272.setTop (mkF m 161 #[.val (.int p0), .val (.int p1), .val (.int p2), .val (.int p3), .val (.int (2 : Int32)), .val (.int (own_e0 p1)), .val (.int (own_e1 p1 p2)), .val (.int (own_e2 p1 p2 p3)), .val (.ref b176), .val (.ref b202), .val (.ref r273), .val (.int (1 : Int32)), .unset, .unset, .unset] [])) _
        refine XS.aload X272.here hx rfl (hb hby at_161) rfl rfl ?_
        show Steps p.tables e below (T272.setTop (mkF m 163 #[.val (.int p0), .val (.int p1), .val (.int p2), .val (.int p3), .val (.int (2 : Int32)), .val (.int (own_e0 p1)), .val (.int (own_e1 p1 p2)), .val (.int (own_e2 p1 p2 p3)), .val (.ref b176), .val (.ref b202), .val (.ref r273), .val (.int (1 : Int32)), .unset, .unset, .unset] [(.ref b176)])) _
        refine XS.iconst X272.here hx rfl (hb hby at_163) ?_
        show Steps p.tables e below (T272.setTop (mkF m 164 #[.val (.int p0), .val (.int p1), .val (.int p2), .val (.int p3), .val (.int (2 : Int32)), .val (.int (own_e0 p1)), .val (.int (own_e1 p1 p2)), .val (.int (own_e2 p1 p2 p3)), .val (.ref b176), .val (.ref b202), .val (.ref r273), .val (.int (1 : Int32)), .unset, .unset, .unset] [(.int (0 : Int32)), (.ref b176)])) _
        refine X272.iaload hx (j := (0 : Int32)) (v := (.int (own_e0 p1))) Ar284.1 (State.isArrayOf_alike hZ.alike Ar284.2.1) Ar284.2.2 hin284 hat284 (g := (mkF m 164 #[.val (.int p0), .val (.int p1), .val (.int p2), .val (.int p3), .val (.int (2 : Int32)), .val (.int (own_e0 p1)), .val (.int (own_e1 p1 p2)), .val (.int (own_e2 p1 p2 p3)), .val (.ref b176), .val (.ref b202), .val (.ref r273), .val (.int (1 : Int32)), .unset, .unset, .unset] [(.int (0 : Int32)), (.ref b176)])) rfl rfl (hb hby at_164) _ ?_
        show Steps p.tables e below (T272.setTop (mkF m 165 #[.val (.int p0), .val (.int p1), .val (.int p2), .val (.int p3), .val (.int (2 : Int32)), .val (.int (own_e0 p1)), .val (.int (own_e1 p1 p2)), .val (.int (own_e2 p1 p2 p3)), .val (.ref b176), .val (.ref b202), .val (.ref r273), .val (.int (1 : Int32)), .unset, .unset, .unset] [(.int (own_e0 p1))])) _
        refine XS.iload X272.here hx rfl (hb hby at_165) rfl ?_
        show Steps p.tables e below (T272.setTop (mkF m 167 #[.val (.int p0), .val (.int p1), .val (.int p2), .val (.int p3), .val (.int (2 : Int32)), .val (.int (own_e0 p1)), .val (.int (own_e1 p1 p2)), .val (.int (own_e2 p1 p2 p3)), .val (.ref b176), .val (.ref b202), .val (.ref r273), .val (.int (1 : Int32)), .unset, .unset, .unset] [(.int (own_e0 p1)), (.int (own_e0 p1))])) _
        refine XS.icmpNo X272.here hx rfl (hb hby at_167) rfl (teq (rfl : (own_e0 p1) = (own_e0 p1))).2 ?_
        show Steps p.tables e below (T272.setTop (mkF m 170 #[.val (.int p0), .val (.int p1), .val (.int p2), .val (.int p3), .val (.int (2 : Int32)), .val (.int (own_e0 p1)), .val (.int (own_e1 p1 p2)), .val (.int (own_e2 p1 p2 p3)), .val (.ref b176), .val (.ref b202), .val (.ref r273), .val (.int (1 : Int32)), .unset, .unset, .unset] [])) _
        refine XS.iconst X272.here hx rfl (hb hby at_170) ?_
        show Steps p.tables e below (T272.setTop (mkF m 171 #[.val (.int p0), .val (.int p1), .val (.int p2), .val (.int p3), .val (.int (2 : Int32)), .val (.int (own_e0 p1)), .val (.int (own_e1 p1 p2)), .val (.int (own_e2 p1 p2 p3)), .val (.ref b176), .val (.ref b202), .val (.ref r273), .val (.int (1 : Int32)), .unset, .unset, .unset] [(.int (1 : Int32))])) _
        refine XS.goto X272.here hx rfl (pc0 := 171) (pc' := 175) rfl (hb hby at_171) (by decide) (by decide) ?_
        show Steps p.tables e below (T272.setTop (mkF m 175 #[.val (.int p0), .val (.int p1), .val (.int p2), .val (.int p3), .val (.int (2 : Int32)), .val (.int (own_e0 p1)), .val (.int (own_e1 p1 p2)), .val (.int (own_e2 p1 p2 p3)), .val (.ref b176), .val (.ref b202), .val (.ref r273), .val (.int (1 : Int32)), .unset, .unset, .unset] [(.int (1 : Int32))])) _
        refine XS.istore X272.here hx rfl (hb hby at_175) rfl (l' := #[.val (.int p0), .val (.int p1), .val (.int p2), .val (.int p3), .val (.int (2 : Int32)), .val (.int (own_e0 p1)), .val (.int (own_e1 p1 p2)), .val (.int (own_e2 p1 p2 p3)), .val (.ref b176), .val (.ref b202), .val (.ref r273), .val (.int (1 : Int32)), .unset, .unset, .unset]) rfl ?_
        show Steps p.tables e below (T272.setTop (mkF m 177 #[.val (.int p0), .val (.int p1), .val (.int p2), .val (.int p3), .val (.int (2 : Int32)), .val (.int (own_e0 p1)), .val (.int (own_e1 p1 p2)), .val (.int (own_e2 p1 p2 p3)), .val (.ref b176), .val (.ref b202), .val (.ref r273), .val (.int (1 : Int32)), .unset, .unset, .unset] [])) _
        refine XS.iload X272.here hx rfl (hb hby at_177) rfl ?_
        show Steps p.tables e below (T272.setTop (mkF m 179 #[.val (.int p0), .val (.int p1), .val (.int p2), .val (.int p3), .val (.int (2 : Int32)), .val (.int (own_e0 p1)), .val (.int (own_e1 p1 p2)), .val (.int (own_e2 p1 p2 p3)), .val (.ref b176), .val (.ref b202), .val (.ref r273), .val (.int (1 : Int32)), .unset, .unset, .unset] [(.int (2 : Int32))])) _
        refine XS.iconst X272.here hx rfl (hb hby at_179) ?_
        exact kt
      obtain ⟨cl286, Ar286, S286, H286⟩ := id f277
      have hin286 : ¬ ((1 : Int32) < 0 ∨ cl286.slots.size ≤ ((1 : Int32)).toNatClampNeg) := own_inb S286 (by decide) (by decide)
      have hat286 : cl286.slots[((1 : Int32)).toNatClampNeg]? = some (.int (own_e1 p1 p2)) := H286 _ (by decide)
      have pre287 : ∀ t, Steps p.tables e below (T272.setTop (mkF m 206 #[.val (.int p0), .val (.int p1), .val (.int p2), .val (.int p3), .val (.int (2 : Int32)), .val (.int (own_e0 p1)), .val (.int (own_e1 p1 p2)), .val (.int (own_e2 p1 p2 p3)), .val (.ref b176), .val (.ref b202), .val (.ref r273), .val (.int (1 : Int32)), .unset, .unset, .unset] [(.int (2 : Int32))])) t → Steps p.tables e below (s₁.setTop (entryFrame m #[(.int p0), (.int p1), (.int p2), (.int p3)] maxLocals)) t := by
        intro t kt
        refine pre285 t ?_
        show Steps p.tables e below (T272.setTop (mkF m 180 #[.val (.int p0), .val (.int p1), .val (.int p2), .val (.int p3), .val (.int (2 : Int32)), .val (.int (own_e0 p1)), .val (.int (own_e1 p1 p2)), .val (.int (own_e2 p1 p2 p3)), .val (.ref b176), .val (.ref b202), .val (.ref r273), .val (.int (1 : Int32)), .unset, .unset, .unset] [(.int (1 : Int32)), (.int (2 : Int32))])) _
        refine XS.icmpNo X272.here hx rfl (hb hby at_180) rfl (tlt (by decide : (1 : Int32) < (2 : Int32))).2.2.2 ?_
        show Steps p.tables e below (T272.setTop (mkF m 183 #[.val (.int p0), .val (.int p1), .val (.int p2), .val (.int p3), .val (.int (2 : Int32)), .val (.int (own_e0 p1)), .val (.int (own_e1 p1 p2)), .val (.int (own_e2 p1 p2 p3)), .val (.ref b176), .val (.ref b202), .val (.ref r273), .val (.int (1 : Int32)), .unset, .unset, .unset] [])) _
        refine XS.iload X272.here hx rfl (hb hby at_183) rfl ?_
        show Steps p.tables e below (T272.setTop (mkF m 185 #[.val (.int p0), .val (.int p1), .val (.int p2), .val (.int p3), .val (.int (2 : Int32)), .val (.int (own_e0 p1)), .val (.int (own_e1 p1 p2)), .val (.int (own_e2 p1 p2 p3)), .val (.ref b176), .val (.ref b202), .val (.ref r273), .val (.int (1 : Int32)), .unset, .unset, .unset] [(.int (1 : Int32))])) _
        refine XS.ifNo X272.here hx rfl (hb hby at_185) rfl ((if0 _ _).trans (feq (by decide : ¬ ((1 : Int32) = (0 : Int32)))).1) ?_
        show Steps p.tables e below (T272.setTop (mkF m 188 #[.val (.int p0), .val (.int p1), .val (.int p2), .val (.int p3), .val (.int (2 : Int32)), .val (.int (own_e0 p1)), .val (.int (own_e1 p1 p2)), .val (.int (own_e2 p1 p2 p3)), .val (.ref b176), .val (.ref b202), .val (.ref r273), .val (.int (1 : Int32)), .unset, .unset, .unset] [])) _
        refine XS.aload X272.here hx rfl (hb hby at_188) rfl rfl ?_
        show Steps p.tables e below (T272.setTop (mkF m 190 #[.val (.int p0), .val (.int p1), .val (.int p2), .val (.int p3), .val (.int (2 : Int32)), .val (.int (own_e0 p1)), .val (.int (own_e1 p1 p2)), .val (.int (own_e2 p1 p2 p3)), .val (.ref b176), .val (.ref b202), .val (.ref r273), .val (.int (1 : Int32)), .unset, .unset, .unset] [(.ref b176)])) _
        refine XS.iconst X272.here hx rfl (hb hby at_190) ?_
        show Steps p.tables e below (T272.setTop (mkF m 191 #[.val (.int p0), .val (.int p1), .val (.int p2), .val (.int p3), .val (.int (2 : Int32)), .val (.int (own_e0 p1)), .val (.int (own_e1 p1 p2)), .val (.int (own_e2 p1 p2 p3)), .val (.ref b176), .val (.ref b202), .val (.ref r273), .val (.int (1 : Int32)), .unset, .unset, .unset] [(.int (1 : Int32)), (.ref b176)])) _
        refine X272.iaload hx (j := (1 : Int32)) (v := (.int (own_e1 p1 p2))) Ar286.1 (State.isArrayOf_alike hZ.alike Ar286.2.1) Ar286.2.2 hin286 hat286 (g := (mkF m 191 #[.val (.int p0), .val (.int p1), .val (.int p2), .val (.int p3), .val (.int (2 : Int32)), .val (.int (own_e0 p1)), .val (.int (own_e1 p1 p2)), .val (.int (own_e2 p1 p2 p3)), .val (.ref b176), .val (.ref b202), .val (.ref r273), .val (.int (1 : Int32)), .unset, .unset, .unset] [(.int (1 : Int32)), (.ref b176)])) rfl rfl (hb hby at_191) _ ?_
        show Steps p.tables e below (T272.setTop (mkF m 192 #[.val (.int p0), .val (.int p1), .val (.int p2), .val (.int p3), .val (.int (2 : Int32)), .val (.int (own_e0 p1)), .val (.int (own_e1 p1 p2)), .val (.int (own_e2 p1 p2 p3)), .val (.ref b176), .val (.ref b202), .val (.ref r273), .val (.int (1 : Int32)), .unset, .unset, .unset] [(.int (own_e1 p1 p2))])) _
        refine XS.iload X272.here hx rfl (hb hby at_192) rfl ?_
        show Steps p.tables e below (T272.setTop (mkF m 194 #[.val (.int p0), .val (.int p1), .val (.int p2), .val (.int p3), .val (.int (2 : Int32)), .val (.int (own_e0 p1)), .val (.int (own_e1 p1 p2)), .val (.int (own_e2 p1 p2 p3)), .val (.ref b176), .val (.ref b202), .val (.ref r273), .val (.int (1 : Int32)), .unset, .unset, .unset] [(.int (own_e1 p1 p2)), (.int (own_e1 p1 p2))])) _
        refine XS.icmpNo X272.here hx rfl (hb hby at_194) rfl (teq (rfl : (own_e1 p1 p2) = (own_e1 p1 p2))).2 ?_
        show Steps p.tables e below (T272.setTop (mkF m 197 #[.val (.int p0), .val (.int p1), .val (.int p2), .val (.int p3), .val (.int (2 : Int32)), .val (.int (own_e0 p1)), .val (.int (own_e1 p1 p2)), .val (.int (own_e2 p1 p2 p3)), .val (.ref b176), .val (.ref b202), .val (.ref r273), .val (.int (1 : Int32)), .unset, .unset, .unset] [])) _
        refine XS.iconst X272.here hx rfl (hb hby at_197) ?_
        show Steps p.tables e below (T272.setTop (mkF m 198 #[.val (.int p0), .val (.int p1), .val (.int p2), .val (.int p3), .val (.int (2 : Int32)), .val (.int (own_e0 p1)), .val (.int (own_e1 p1 p2)), .val (.int (own_e2 p1 p2 p3)), .val (.ref b176), .val (.ref b202), .val (.ref r273), .val (.int (1 : Int32)), .unset, .unset, .unset] [(.int (1 : Int32))])) _
        refine XS.goto X272.here hx rfl (pc0 := 198) (pc' := 202) rfl (hb hby at_198) (by decide) (by decide) ?_
        show Steps p.tables e below (T272.setTop (mkF m 202 #[.val (.int p0), .val (.int p1), .val (.int p2), .val (.int p3), .val (.int (2 : Int32)), .val (.int (own_e0 p1)), .val (.int (own_e1 p1 p2)), .val (.int (own_e2 p1 p2 p3)), .val (.ref b176), .val (.ref b202), .val (.ref r273), .val (.int (1 : Int32)), .unset, .unset, .unset] [(.int (1 : Int32))])) _
        refine XS.istore X272.here hx rfl (hb hby at_202) rfl (l' := #[.val (.int p0), .val (.int p1), .val (.int p2), .val (.int p3), .val (.int (2 : Int32)), .val (.int (own_e0 p1)), .val (.int (own_e1 p1 p2)), .val (.int (own_e2 p1 p2 p3)), .val (.ref b176), .val (.ref b202), .val (.ref r273), .val (.int (1 : Int32)), .unset, .unset, .unset]) rfl ?_
        show Steps p.tables e below (T272.setTop (mkF m 204 #[.val (.int p0), .val (.int p1), .val (.int p2), .val (.int p3), .val (.int (2 : Int32)), .val (.int (own_e0 p1)), .val (.int (own_e1 p1 p2)), .val (.int (own_e2 p1 p2 p3)), .val (.ref b176), .val (.ref b202), .val (.ref r273), .val (.int (1 : Int32)), .unset, .unset, .unset] [])) _
        refine XS.iload X272.here hx rfl (hb hby at_204) rfl ?_
        exact kt
      have pre288 : ∀ t, Steps p.tables e below (T272.setTop (mkF m 260 #[.val (.int p0), .val (.int p1), .val (.int p2), .val (.int p3), .val (.int (2 : Int32)), .val (.int (own_e0 p1)), .val (.int (own_e1 p1 p2)), .val (.int (own_e2 p1 p2 p3)), .val (.ref b176), .val (.ref b202), .val (.ref r273), .val (.int (1 : Int32)), .val (.int (0 : Int32)), .val (.int (0 : Int32)), .unset] [])) t → Steps p.tables e below (s₁.setTop (entryFrame m #[(.int p0), (.int p1), (.int p2), (.int p3)] maxLocals)) t := by
        intro t kt
        refine pre287 t ?_
        show Steps p.tables e below (T272.setTop (mkF m 206 #[.val (.int p0), .val (.int p1), .val (.int p2), .val (.int p3), .val (.int (2 : Int32)), .val (.int (own_e0 p1)), .val (.int (own_e1 p1 p2)), .val (.int (own_e2 p1 p2 p3)), .val (.ref b176), .val (.ref b202), .val (.ref r273), .val (.int (1 : Int32)), .unset, .unset, .unset] [(.int (2 : Int32))])) _
        refine XS.iconst X272.here hx rfl (hb hby at_206) ?_
        show Steps p.tables e below (T272.setTop (mkF m 207 #[.val (.int p0), .val (.int p1), .val (.int p2), .val (.int p3), .val (.int (2 : Int32)), .val (.int (own_e0 p1)), .val (.int (own_e1 p1 p2)), .val (.int (own_e2 p1 p2 p3)), .val (.ref b176), .val (.ref b202), .val (.ref r273), .val (.int (1 : Int32)), .unset, .unset, .unset] [(.int (2 : Int32)), (.int (2 : Int32))])) _
        refine XS.icmpYes X272.here hx rfl (pc0 := 207) (pc' := 231) rfl (hb hby at_207) rfl (flt (by decide : ¬ ((2 : Int32) < (2 : Int32)))).2.2.2 (by decide) (by decide) ?_
        show Steps p.tables e below (T272.setTop (mkF m 231 #[.val (.int p0), .val (.int p1), .val (.int p2), .val (.int p3), .val (.int (2 : Int32)), .val (.int (own_e0 p1)), .val (.int (own_e1 p1 p2)), .val (.int (own_e2 p1 p2 p3)), .val (.ref b176), .val (.ref b202), .val (.ref r273), .val (.int (1 : Int32)), .unset, .unset, .unset] [])) _
        refine XS.iload X272.here hx rfl (hb hby at_231) rfl ?_
        show Steps p.tables e below (T272.setTop (mkF m 233 #[.val (.int p0), .val (.int p1), .val (.int p2), .val (.int p3), .val (.int (2 : Int32)), .val (.int (own_e0 p1)), .val (.int (own_e1 p1 p2)), .val (.int (own_e2 p1 p2 p3)), .val (.ref b176), .val (.ref b202), .val (.ref r273), .val (.int (1 : Int32)), .unset, .unset, .unset] [(.int (2 : Int32))])) _
        refine XS.ifNo X272.here hx rfl (hb hby at_233) rfl ((if0 _ _).trans (tlt (by decide : (0 : Int32) < (2 : Int32))).2.2.2) ?_
        show Steps p.tables e below (T272.setTop (mkF m 236 #[.val (.int p0), .val (.int p1), .val (.int p2), .val (.int p3), .val (.int (2 : Int32)), .val (.int (own_e0 p1)), .val (.int (own_e1 p1 p2)), .val (.int (own_e2 p1 p2 p3)), .val (.ref b176), .val (.ref b202), .val (.ref r273), .val (.int (1 : Int32)), .unset, .unset, .unset] [])) _
        refine XS.iload X272.here hx rfl (hb hby at_236) rfl ?_
        show Steps p.tables e below (T272.setTop (mkF m 238 #[.val (.int p0), .val (.int p1), .val (.int p2), .val (.int p3), .val (.int (2 : Int32)), .val (.int (own_e0 p1)), .val (.int (own_e1 p1 p2)), .val (.int (own_e2 p1 p2 p3)), .val (.ref b176), .val (.ref b202), .val (.ref r273), .val (.int (1 : Int32)), .unset, .unset, .unset] [(.int (own_e0 p1))])) _
        refine XS.ifYes X272.here hx rfl (pc0 := 238) (pc' := 245) rfl (hb hby at_238) rfl ((if0 _ _).trans (feq hz0).2) (by decide) (by decide) ?_
        show Steps p.tables e below (T272.setTop (mkF m 245 #[.val (.int p0), .val (.int p1), .val (.int p2), .val (.int p3), .val (.int (2 : Int32)), .val (.int (own_e0 p1)), .val (.int (own_e1 p1 p2)), .val (.int (own_e2 p1 p2 p3)), .val (.ref b176), .val (.ref b202), .val (.ref r273), .val (.int (1 : Int32)), .unset, .unset, .unset] [])) _
        refine XS.iconst X272.here hx rfl (hb hby at_245) ?_
        show Steps p.tables e below (T272.setTop (mkF m 246 #[.val (.int p0), .val (.int p1), .val (.int p2), .val (.int p3), .val (.int (2 : Int32)), .val (.int (own_e0 p1)), .val (.int (own_e1 p1 p2)), .val (.int (own_e2 p1 p2 p3)), .val (.ref b176), .val (.ref b202), .val (.ref r273), .val (.int (1 : Int32)), .unset, .unset, .unset] [(.int (0 : Int32))])) _
        refine XS.istore X272.here hx rfl (hb hby at_246) rfl (l' := #[.val (.int p0), .val (.int p1), .val (.int p2), .val (.int p3), .val (.int (2 : Int32)), .val (.int (own_e0 p1)), .val (.int (own_e1 p1 p2)), .val (.int (own_e2 p1 p2 p3)), .val (.ref b176), .val (.ref b202), .val (.ref r273), .val (.int (1 : Int32)), .val (.int (0 : Int32)), .unset, .unset]) rfl ?_
        show Steps p.tables e below (T272.setTop (mkF m 248 #[.val (.int p0), .val (.int p1), .val (.int p2), .val (.int p3), .val (.int (2 : Int32)), .val (.int (own_e0 p1)), .val (.int (own_e1 p1 p2)), .val (.int (own_e2 p1 p2 p3)), .val (.ref b176), .val (.ref b202), .val (.ref r273), .val (.int (1 : Int32)), .val (.int (0 : Int32)), .unset, .unset] [])) _
        refine XS.iload X272.here hx rfl (hb hby at_248) rfl ?_
        show Steps p.tables e below (T272.setTop (mkF m 250 #[.val (.int p0), .val (.int p1), .val (.int p2), .val (.int p3), .val (.int (2 : Int32)), .val (.int (own_e0 p1)), .val (.int (own_e1 p1 p2)), .val (.int (own_e2 p1 p2 p3)), .val (.ref b176), .val (.ref b202), .val (.ref r273), .val (.int (1 : Int32)), .val (.int (0 : Int32)), .unset, .unset] [(.int (0 : Int32))])) _
        refine XS.ifYes X272.here hx rfl (pc0 := 250) (pc' := 257) rfl (hb hby at_250) rfl ((if0 _ _).trans (teq (rfl : (0 : Int32) = (0 : Int32))).1) (by decide) (by decide) ?_
        show Steps p.tables e below (T272.setTop (mkF m 257 #[.val (.int p0), .val (.int p1), .val (.int p2), .val (.int p3), .val (.int (2 : Int32)), .val (.int (own_e0 p1)), .val (.int (own_e1 p1 p2)), .val (.int (own_e2 p1 p2 p3)), .val (.ref b176), .val (.ref b202), .val (.ref r273), .val (.int (1 : Int32)), .val (.int (0 : Int32)), .unset, .unset] [])) _
        refine XS.iconst X272.here hx rfl (hb hby at_257) ?_
        show Steps p.tables e below (T272.setTop (mkF m 258 #[.val (.int p0), .val (.int p1), .val (.int p2), .val (.int p3), .val (.int (2 : Int32)), .val (.int (own_e0 p1)), .val (.int (own_e1 p1 p2)), .val (.int (own_e2 p1 p2 p3)), .val (.ref b176), .val (.ref b202), .val (.ref r273), .val (.int (1 : Int32)), .val (.int (0 : Int32)), .unset, .unset] [(.int (0 : Int32))])) _
        refine XS.istore X272.here hx rfl (hb hby at_258) rfl (l' := #[.val (.int p0), .val (.int p1), .val (.int p2), .val (.int p3), .val (.int (2 : Int32)), .val (.int (own_e0 p1)), .val (.int (own_e1 p1 p2)), .val (.int (own_e2 p1 p2 p3)), .val (.ref b176), .val (.ref b202), .val (.ref r273), .val (.int (1 : Int32)), .val (.int (0 : Int32)), .val (.int (0 : Int32)), .unset]) rfl ?_
        exact kt
      obtain ⟨cl289, Ar289, S289, -⟩ := id c273_1
      have pre290 : ∀ t, Steps p.tables e below (T272.setTop (mkF m 287 #[.val (.int p0), .val (.int p1), .val (.int p2), .val (.int p3), .val (.int (2 : Int32)), .val (.int (own_e0 p1)), .val (.int (own_e1 p1 p2)), .val (.int (own_e2 p1 p2 p3)), .val (.ref b176), .val (.ref b202), .val (.ref r273), .val (.int (1 : Int32)), .val (.int (0 : Int32)), .val (.int (0 : Int32)), .val (.int (2 : Int32))] [])) t → Steps p.tables e below (s₁.setTop (entryFrame m #[(.int p0), (.int p1), (.int p2), (.int p3)] maxLocals)) t := by
        intro t kt
        refine pre288 t ?_
        show Steps p.tables e below (T272.setTop (mkF m 260 #[.val (.int p0), .val (.int p1), .val (.int p2), .val (.int p3), .val (.int (2 : Int32)), .val (.int (own_e0 p1)), .val (.int (own_e1 p1 p2)), .val (.int (own_e2 p1 p2 p3)), .val (.ref b176), .val (.ref b202), .val (.ref r273), .val (.int (1 : Int32)), .val (.int (0 : Int32)), .val (.int (0 : Int32)), .unset] [])) _
        refine XS.iload X272.here hx rfl (hb hby at_260) rfl ?_
        show Steps p.tables e below (T272.setTop (mkF m 262 #[.val (.int p0), .val (.int p1), .val (.int p2), .val (.int p3), .val (.int (2 : Int32)), .val (.int (own_e0 p1)), .val (.int (own_e1 p1 p2)), .val (.int (own_e2 p1 p2 p3)), .val (.ref b176), .val (.ref b202), .val (.ref r273), .val (.int (1 : Int32)), .val (.int (0 : Int32)), .val (.int (0 : Int32)), .unset] [(.int (2 : Int32))])) _
        refine XS.iload X272.here hx rfl (hb hby at_262) rfl ?_
        show Steps p.tables e below (T272.setTop (mkF m 264 #[.val (.int p0), .val (.int p1), .val (.int p2), .val (.int p3), .val (.int (2 : Int32)), .val (.int (own_e0 p1)), .val (.int (own_e1 p1 p2)), .val (.int (own_e2 p1 p2 p3)), .val (.ref b176), .val (.ref b202), .val (.ref r273), .val (.int (1 : Int32)), .val (.int (0 : Int32)), .val (.int (0 : Int32)), .unset] [(.int (0 : Int32)), (.int (2 : Int32))])) _
        refine XS.isub X272.here hx rfl (hb hby at_264) rfl ?_
        show Steps p.tables e below (T272.setTop (mkF m 265 #[.val (.int p0), .val (.int p1), .val (.int p2), .val (.int p3), .val (.int (2 : Int32)), .val (.int (own_e0 p1)), .val (.int (own_e1 p1 p2)), .val (.int (own_e2 p1 p2 p3)), .val (.ref b176), .val (.ref b202), .val (.ref r273), .val (.int (1 : Int32)), .val (.int (0 : Int32)), .val (.int (0 : Int32)), .unset] [(.int (2 : Int32))])) _
        refine XS.istore X272.here hx rfl (hb hby at_265) rfl (l' := #[.val (.int p0), .val (.int p1), .val (.int p2), .val (.int p3), .val (.int (2 : Int32)), .val (.int (own_e0 p1)), .val (.int (own_e1 p1 p2)), .val (.int (own_e2 p1 p2 p3)), .val (.ref b176), .val (.ref b202), .val (.ref r273), .val (.int (1 : Int32)), .val (.int (0 : Int32)), .val (.int (0 : Int32)), .val (.int (2 : Int32))]) rfl ?_
        show Steps p.tables e below (T272.setTop (mkF m 267 #[.val (.int p0), .val (.int p1), .val (.int p2), .val (.int p3), .val (.int (2 : Int32)), .val (.int (own_e0 p1)), .val (.int (own_e1 p1 p2)), .val (.int (own_e2 p1 p2 p3)), .val (.ref b176), .val (.ref b202), .val (.ref r273), .val (.int (1 : Int32)), .val (.int (0 : Int32)), .val (.int (0 : Int32)), .val (.int (2 : Int32))] [])) _
        refine XS.aload X272.here hx rfl (hb hby at_267) rfl rfl ?_
        show Steps p.tables e below (T272.setTop (mkF m 269 #[.val (.int p0), .val (.int p1), .val (.int p2), .val (.int p3), .val (.int (2 : Int32)), .val (.int (own_e0 p1)), .val (.int (own_e1 p1 p2)), .val (.int (own_e2 p1 p2 p3)), .val (.ref b176), .val (.ref b202), .val (.ref r273), .val (.int (1 : Int32)), .val (.int (0 : Int32)), .val (.int (0 : Int32)), .val (.int (2 : Int32))] [(.ref r273)])) _
        refine XS.ifnullNo X272.here hx rfl (hb hby at_269) rfl ?_
        show Steps p.tables e below (T272.setTop (mkF m 272 #[.val (.int p0), .val (.int p1), .val (.int p2), .val (.int p3), .val (.int (2 : Int32)), .val (.int (own_e0 p1)), .val (.int (own_e1 p1 p2)), .val (.int (own_e2 p1 p2 p3)), .val (.ref b176), .val (.ref b202), .val (.ref r273), .val (.int (1 : Int32)), .val (.int (0 : Int32)), .val (.int (0 : Int32)), .val (.int (2 : Int32))] [])) _
        refine XS.aload X272.here hx rfl (hb hby at_272) rfl rfl ?_
        show Steps p.tables e below (T272.setTop (mkF m 274 #[.val (.int p0), .val (.int p1), .val (.int p2), .val (.int p3), .val (.int (2 : Int32)), .val (.int (own_e0 p1)), .val (.int (own_e1 p1 p2)), .val (.int (own_e2 p1 p2 p3)), .val (.ref b176), .val (.ref b202), .val (.ref r273), .val (.int (1 : Int32)), .val (.int (0 : Int32)), .val (.int (0 : Int32)), .val (.int (2 : Int32))] [(.ref r273)])) _
        refine X272.arraylength hx Ar289.1 (State.isArrayOf_alike hZ.alike Ar289.2.1) (g := (mkF m 274 #[.val (.int p0), .val (.int p1), .val (.int p2), .val (.int p3), .val (.int (2 : Int32)), .val (.int (own_e0 p1)), .val (.int (own_e1 p1 p2)), .val (.int (own_e2 p1 p2 p3)), .val (.ref b176), .val (.ref b202), .val (.ref r273), .val (.int (1 : Int32)), .val (.int (0 : Int32)), .val (.int (0 : Int32)), .val (.int (2 : Int32))] [(.ref r273)])) rfl rfl (hb hby at_274) _ ?_
        rw [own_len (z := (2 : Int32)) S289 rfl]
        show Steps p.tables e below (T272.setTop (mkF m 275 #[.val (.int p0), .val (.int p1), .val (.int p2), .val (.int p3), .val (.int (2 : Int32)), .val (.int (own_e0 p1)), .val (.int (own_e1 p1 p2)), .val (.int (own_e2 p1 p2 p3)), .val (.ref b176), .val (.ref b202), .val (.ref r273), .val (.int (1 : Int32)), .val (.int (0 : Int32)), .val (.int (0 : Int32)), .val (.int (2 : Int32))] [(.int (2 : Int32))])) _
        refine XS.iload X272.here hx rfl (hb hby at_275) rfl ?_
        show Steps p.tables e below (T272.setTop (mkF m 277 #[.val (.int p0), .val (.int p1), .val (.int p2), .val (.int p3), .val (.int (2 : Int32)), .val (.int (own_e0 p1)), .val (.int (own_e1 p1 p2)), .val (.int (own_e2 p1 p2 p3)), .val (.ref b176), .val (.ref b202), .val (.ref r273), .val (.int (1 : Int32)), .val (.int (0 : Int32)), .val (.int (0 : Int32)), .val (.int (2 : Int32))] [(.int (2 : Int32)), (.int (2 : Int32))])) _
        refine XS.icmpYes X272.here hx rfl (pc0 := 277) (pc' := 282) rfl (hb hby at_277) rfl (teq (rfl : (2 : Int32) = (2 : Int32))).1 (by decide) (by decide) ?_
        show Steps p.tables e below (T272.setTop (mkF m 282 #[.val (.int p0), .val (.int p1), .val (.int p2), .val (.int p3), .val (.int (2 : Int32)), .val (.int (own_e0 p1)), .val (.int (own_e1 p1 p2)), .val (.int (own_e2 p1 p2 p3)), .val (.ref b176), .val (.ref b202), .val (.ref r273), .val (.int (1 : Int32)), .val (.int (0 : Int32)), .val (.int (0 : Int32)), .val (.int (2 : Int32))] [])) _
        refine XS.iload X272.here hx rfl (hb hby at_282) rfl ?_
        show Steps p.tables e below (T272.setTop (mkF m 284 #[.val (.int p0), .val (.int p1), .val (.int p2), .val (.int p3), .val (.int (2 : Int32)), .val (.int (own_e0 p1)), .val (.int (own_e1 p1 p2)), .val (.int (own_e2 p1 p2 p3)), .val (.ref b176), .val (.ref b202), .val (.ref r273), .val (.int (1 : Int32)), .val (.int (0 : Int32)), .val (.int (0 : Int32)), .val (.int (2 : Int32))] [(.int (2 : Int32))])) _
        refine XS.ifNo X272.here hx rfl (hb hby at_284) rfl ((if0 _ _).trans (tlt (by decide : (0 : Int32) < (2 : Int32))).2.2.2) ?_
        exact kt
      obtain ⟨cl291, Ar291, S291, H291⟩ := id c273_1
      have hin291 : ¬ ((0 : Int32) < 0 ∨ cl291.slots.size ≤ ((0 : Int32)).toNatClampNeg) := own_inb S291 (by decide) (by decide)
      have hat291 : cl291.slots[((0 : Int32)).toNatClampNeg]? = some (.int ((own_e0 p1) - (1 : Int32))) := H291 _ (by decide)
      obtain ⟨cl292, Ar292, S292, H292⟩ := id f279
      have hin292 : ¬ ((0 : Int32) < 0 ∨ cl292.slots.size ≤ ((0 : Int32)).toNatClampNeg) := own_inb S292 (by decide) (by decide)
      have hat292 : cl292.slots[((0 : Int32)).toNatClampNeg]? = some (.int (own_e0 p1)) := H292 _ (by decide)
      have pre293 : ∀ t, Steps p.tables e below (T272.setTop (mkF m 307 #[.val (.int p0), .val (.int p1), .val (.int p2), .val (.int p3), .val (.int (2 : Int32)), .val (.int (own_e0 p1)), .val (.int (own_e1 p1 p2)), .val (.int (own_e2 p1 p2 p3)), .val (.ref b176), .val (.ref b202), .val (.ref r273), .val (.int (1 : Int32)), .val (.int (0 : Int32)), .val (.int (0 : Int32)), .val (.int (2 : Int32))] [(.int (1 : Int32))])) t → Steps p.tables e below (s₁.setTop (entryFrame m #[(.int p0), (.int p1), (.int p2), (.int p3)] maxLocals)) t := by
        intro t kt
        refine pre290 t ?_
        show Steps p.tables e below (T272.setTop (mkF m 287 #[.val (.int p0), .val (.int p1), .val (.int p2), .val (.int p3), .val (.int (2 : Int32)), .val (.int (own_e0 p1)), .val (.int (own_e1 p1 p2)), .val (.int (own_e2 p1 p2 p3)), .val (.ref b176), .val (.ref b202), .val (.ref r273), .val (.int (1 : Int32)), .val (.int (0 : Int32)), .val (.int (0 : Int32)), .val (.int (2 : Int32))] [])) _
        refine XS.iload X272.here hx rfl (hb hby at_287) rfl ?_
        show Steps p.tables e below (T272.setTop (mkF m 289 #[.val (.int p0), .val (.int p1), .val (.int p2), .val (.int p3), .val (.int (2 : Int32)), .val (.int (own_e0 p1)), .val (.int (own_e1 p1 p2)), .val (.int (own_e2 p1 p2 p3)), .val (.ref b176), .val (.ref b202), .val (.ref r273), .val (.int (1 : Int32)), .val (.int (0 : Int32)), .val (.int (0 : Int32)), .val (.int (2 : Int32))] [(.int (1 : Int32))])) _
        refine XS.ifNo X272.here hx rfl (hb hby at_289) rfl ((if0 _ _).trans (feq (by decide : ¬ ((1 : Int32) = (0 : Int32)))).1) ?_
        show Steps p.tables e below (T272.setTop (mkF m 292 #[.val (.int p0), .val (.int p1), .val (.int p2), .val (.int p3), .val (.int (2 : Int32)), .val (.int (own_e0 p1)), .val (.int (own_e1 p1 p2)), .val (.int (own_e2 p1 p2 p3)), .val (.ref b176), .val (.ref b202), .val (.ref r273), .val (.int (1 : Int32)), .val (.int (0 : Int32)), .val (.int (0 : Int32)), .val (.int (2 : Int32))] [])) _
        refine XS.aload X272.here hx rfl (hb hby at_292) rfl rfl ?_
        show Steps p.tables e below (T272.setTop (mkF m 294 #[.val (.int p0), .val (.int p1), .val (.int p2), .val (.int p3), .val (.int (2 : Int32)), .val (.int (own_e0 p1)), .val (.int (own_e1 p1 p2)), .val (.int (own_e2 p1 p2 p3)), .val (.ref b176), .val (.ref b202), .val (.ref r273), .val (.int (1 : Int32)), .val (.int (0 : Int32)), .val (.int (0 : Int32)), .val (.int (2 : Int32))] [(.ref r273)])) _
        refine XS.iconst X272.here hx rfl (hb hby at_294) ?_
        show Steps p.tables e below (T272.setTop (mkF m 295 #[.val (.int p0), .val (.int p1), .val (.int p2), .val (.int p3), .val (.int (2 : Int32)), .val (.int (own_e0 p1)), .val (.int (own_e1 p1 p2)), .val (.int (own_e2 p1 p2 p3)), .val (.ref b176), .val (.ref b202), .val (.ref r273), .val (.int (1 : Int32)), .val (.int (0 : Int32)), .val (.int (0 : Int32)), .val (.int (2 : Int32))] [(.int (0 : Int32)), (.ref r273)])) _
        refine X272.iaload hx (j := (0 : Int32)) (v := (.int ((own_e0 p1) - (1 : Int32)))) Ar291.1 (State.isArrayOf_alike hZ.alike Ar291.2.1) Ar291.2.2 hin291 hat291 (g := (mkF m 295 #[.val (.int p0), .val (.int p1), .val (.int p2), .val (.int p3), .val (.int (2 : Int32)), .val (.int (own_e0 p1)), .val (.int (own_e1 p1 p2)), .val (.int (own_e2 p1 p2 p3)), .val (.ref b176), .val (.ref b202), .val (.ref r273), .val (.int (1 : Int32)), .val (.int (0 : Int32)), .val (.int (0 : Int32)), .val (.int (2 : Int32))] [(.int (0 : Int32)), (.ref r273)])) rfl rfl (hb hby at_295) _ ?_
        show Steps p.tables e below (T272.setTop (mkF m 296 #[.val (.int p0), .val (.int p1), .val (.int p2), .val (.int p3), .val (.int (2 : Int32)), .val (.int (own_e0 p1)), .val (.int (own_e1 p1 p2)), .val (.int (own_e2 p1 p2 p3)), .val (.ref b176), .val (.ref b202), .val (.ref r273), .val (.int (1 : Int32)), .val (.int (0 : Int32)), .val (.int (0 : Int32)), .val (.int (2 : Int32))] [(.int ((own_e0 p1) - (1 : Int32)))])) _
        refine XS.aload X272.here hx rfl (hb hby at_296) rfl rfl ?_
        show Steps p.tables e below (T272.setTop (mkF m 298 #[.val (.int p0), .val (.int p1), .val (.int p2), .val (.int p3), .val (.int (2 : Int32)), .val (.int (own_e0 p1)), .val (.int (own_e1 p1 p2)), .val (.int (own_e2 p1 p2 p3)), .val (.ref b176), .val (.ref b202), .val (.ref r273), .val (.int (1 : Int32)), .val (.int (0 : Int32)), .val (.int (0 : Int32)), .val (.int (2 : Int32))] [(.ref b202), (.int ((own_e0 p1) - (1 : Int32)))])) _
        refine XS.iload X272.here hx rfl (hb hby at_298) rfl ?_
        show Steps p.tables e below (T272.setTop (mkF m 300 #[.val (.int p0), .val (.int p1), .val (.int p2), .val (.int p3), .val (.int (2 : Int32)), .val (.int (own_e0 p1)), .val (.int (own_e1 p1 p2)), .val (.int (own_e2 p1 p2 p3)), .val (.ref b176), .val (.ref b202), .val (.ref r273), .val (.int (1 : Int32)), .val (.int (0 : Int32)), .val (.int (0 : Int32)), .val (.int (2 : Int32))] [(.int (0 : Int32)), (.ref b202), (.int ((own_e0 p1) - (1 : Int32)))])) _
        refine X272.iaload hx (j := (0 : Int32)) (v := (.int (own_e0 p1))) Ar292.1 (State.isArrayOf_alike hZ.alike Ar292.2.1) Ar292.2.2 hin292 hat292 (g := (mkF m 300 #[.val (.int p0), .val (.int p1), .val (.int p2), .val (.int p3), .val (.int (2 : Int32)), .val (.int (own_e0 p1)), .val (.int (own_e1 p1 p2)), .val (.int (own_e2 p1 p2 p3)), .val (.ref b176), .val (.ref b202), .val (.ref r273), .val (.int (1 : Int32)), .val (.int (0 : Int32)), .val (.int (0 : Int32)), .val (.int (2 : Int32))] [(.int (0 : Int32)), (.ref b202), (.int ((own_e0 p1) - (1 : Int32)))])) rfl rfl (hb hby at_300) _ ?_
        show Steps p.tables e below (T272.setTop (mkF m 301 #[.val (.int p0), .val (.int p1), .val (.int p2), .val (.int p3), .val (.int (2 : Int32)), .val (.int (own_e0 p1)), .val (.int (own_e1 p1 p2)), .val (.int (own_e2 p1 p2 p3)), .val (.ref b176), .val (.ref b202), .val (.ref r273), .val (.int (1 : Int32)), .val (.int (0 : Int32)), .val (.int (0 : Int32)), .val (.int (2 : Int32))] [(.int (own_e0 p1)), (.int ((own_e0 p1) - (1 : Int32)))])) _
        refine XS.iconst X272.here hx rfl (hb hby at_301) ?_
        show Steps p.tables e below (T272.setTop (mkF m 302 #[.val (.int p0), .val (.int p1), .val (.int p2), .val (.int p3), .val (.int (2 : Int32)), .val (.int (own_e0 p1)), .val (.int (own_e1 p1 p2)), .val (.int (own_e2 p1 p2 p3)), .val (.ref b176), .val (.ref b202), .val (.ref r273), .val (.int (1 : Int32)), .val (.int (0 : Int32)), .val (.int (0 : Int32)), .val (.int (2 : Int32))] [(.int (1 : Int32)), (.int (own_e0 p1)), (.int ((own_e0 p1) - (1 : Int32)))])) _
        refine XS.isub X272.here hx rfl (hb hby at_302) rfl ?_
        show Steps p.tables e below (T272.setTop (mkF m 303 #[.val (.int p0), .val (.int p1), .val (.int p2), .val (.int p3), .val (.int (2 : Int32)), .val (.int (own_e0 p1)), .val (.int (own_e1 p1 p2)), .val (.int (own_e2 p1 p2 p3)), .val (.ref b176), .val (.ref b202), .val (.ref r273), .val (.int (1 : Int32)), .val (.int (0 : Int32)), .val (.int (0 : Int32)), .val (.int (2 : Int32))] [(.int ((own_e0 p1) - (1 : Int32))), (.int ((own_e0 p1) - (1 : Int32)))])) _
        refine XS.icmpNo X272.here hx rfl (hb hby at_303) rfl (teq (rfl : ((own_e0 p1) - (1 : Int32)) = ((own_e0 p1) - (1 : Int32)))).2 ?_
        show Steps p.tables e below (T272.setTop (mkF m 306 #[.val (.int p0), .val (.int p1), .val (.int p2), .val (.int p3), .val (.int (2 : Int32)), .val (.int (own_e0 p1)), .val (.int (own_e1 p1 p2)), .val (.int (own_e2 p1 p2 p3)), .val (.ref b176), .val (.ref b202), .val (.ref r273), .val (.int (1 : Int32)), .val (.int (0 : Int32)), .val (.int (0 : Int32)), .val (.int (2 : Int32))] [])) _
        refine XS.iconst X272.here hx rfl (hb hby at_306) ?_
        exact kt
      obtain ⟨cl294, Ar294, S294, H294⟩ := id c273_1
      have hin294 : ¬ ((1 : Int32) < 0 ∨ cl294.slots.size ≤ ((1 : Int32)).toNatClampNeg) := own_inb S294 (by decide) (by decide)
      have hat294 : cl294.slots[((1 : Int32)).toNatClampNeg]? = some (.int ((own_e1 p1 p2) - (1 : Int32))) := H294 _ (by decide)
      have pre295 : ∀ t, Steps p.tables e below (T272.setTop (mkF m 332 #[.val (.int p0), .val (.int p1), .val (.int p2), .val (.int p3), .val (.int (2 : Int32)), .val (.int (own_e0 p1)), .val (.int (own_e1 p1 p2)), .val (.int (own_e2 p1 p2 p3)), .val (.ref b176), .val (.ref b202), .val (.ref r273), .val (.int (1 : Int32)), .val (.int (0 : Int32)), .val (.int (0 : Int32)), .val (.int (2 : Int32))] [(.int (0 : Int32)), (.ref b202), (.int ((own_e1 p1 p2) - (1 : Int32)))])) t → Steps p.tables e below (s₁.setTop (entryFrame m #[(.int p0), (.int p1), (.int p2), (.int p3)] maxLocals)) t := by
        intro t kt
        refine pre293 t ?_
        show Steps p.tables e below (T272.setTop (mkF m 307 #[.val (.int p0), .val (.int p1), .val (.int p2), .val (.int p3), .val (.int (2 : Int32)), .val (.int (own_e0 p1)), .val (.int (own_e1 p1 p2)), .val (.int (own_e2 p1 p2 p3)), .val (.ref b176), .val (.ref b202), .val (.ref r273), .val (.int (1 : Int32)), .val (.int (0 : Int32)), .val (.int (0 : Int32)), .val (.int (2 : Int32))] [(.int (1 : Int32))])) _
        refine XS.goto X272.here hx rfl (pc0 := 307) (pc' := 311) rfl (hb hby at_307) (by decide) (by decide) ?_
        show Steps p.tables e below (T272.setTop (mkF m 311 #[.val (.int p0), .val (.int p1), .val (.int p2), .val (.int p3), .val (.int (2 : Int32)), .val (.int (own_e0 p1)), .val (.int (own_e1 p1 p2)), .val (.int (own_e2 p1 p2 p3)), .val (.ref b176), .val (.ref b202), .val (.ref r273), .val (.int (1 : Int32)), .val (.int (0 : Int32)), .val (.int (0 : Int32)), .val (.int (2 : Int32))] [(.int (1 : Int32))])) _
        refine XS.istore X272.here hx rfl (hb hby at_311) rfl (l' := #[.val (.int p0), .val (.int p1), .val (.int p2), .val (.int p3), .val (.int (2 : Int32)), .val (.int (own_e0 p1)), .val (.int (own_e1 p1 p2)), .val (.int (own_e2 p1 p2 p3)), .val (.ref b176), .val (.ref b202), .val (.ref r273), .val (.int (1 : Int32)), .val (.int (0 : Int32)), .val (.int (0 : Int32)), .val (.int (2 : Int32))]) rfl ?_
        show Steps p.tables e below (T272.setTop (mkF m 313 #[.val (.int p0), .val (.int p1), .val (.int p2), .val (.int p3), .val (.int (2 : Int32)), .val (.int (own_e0 p1)), .val (.int (own_e1 p1 p2)), .val (.int (own_e2 p1 p2 p3)), .val (.ref b176), .val (.ref b202), .val (.ref r273), .val (.int (1 : Int32)), .val (.int (0 : Int32)), .val (.int (0 : Int32)), .val (.int (2 : Int32))] [])) _
        refine XS.iload X272.here hx rfl (hb hby at_313) rfl ?_
        show Steps p.tables e below (T272.setTop (mkF m 315 #[.val (.int p0), .val (.int p1), .val (.int p2), .val (.int p3), .val (.int (2 : Int32)), .val (.int (own_e0 p1)), .val (.int (own_e1 p1 p2)), .val (.int (own_e2 p1 p2 p3)), .val (.ref b176), .val (.ref b202), .val (.ref r273), .val (.int (1 : Int32)), .val (.int (0 : Int32)), .val (.int (0 : Int32)), .val (.int (2 : Int32))] [(.int (2 : Int32))])) _
        refine XS.iconst X272.here hx rfl (hb hby at_315) ?_
        show Steps p.tables e below (T272.setTop (mkF m 316 #[.val (.int p0), .val (.int p1), .val (.int p2), .val (.int p3), .val (.int (2 : Int32)), .val (.int (own_e0 p1)), .val (.int (own_e1 p1 p2)), .val (.int (own_e2 p1 p2 p3)), .val (.ref b176), .val (.ref b202), .val (.ref r273), .val (.int (1 : Int32)), .val (.int (0 : Int32)), .val (.int (0 : Int32)), .val (.int (2 : Int32))] [(.int (1 : Int32)), (.int (2 : Int32))])) _
        refine XS.icmpNo X272.here hx rfl (hb hby at_316) rfl (tlt (by decide : (1 : Int32) < (2 : Int32))).2.2.2 ?_
        show Steps p.tables e below (T272.setTop (mkF m 319 #[.val (.int p0), .val (.int p1), .val (.int p2), .val (.int p3), .val (.int (2 : Int32)), .val (.int (own_e0 p1)), .val (.int (own_e1 p1 p2)), .val (.int (own_e2 p1 p2 p3)), .val (.ref b176), .val (.ref b202), .val (.ref r273), .val (.int (1 : Int32)), .val (.int (0 : Int32)), .val (.int (0 : Int32)), .val (.int (2 : Int32))] [])) _
        refine XS.iload X272.here hx rfl (hb hby at_319) rfl ?_
        show Steps p.tables e below (T272.setTop (mkF m 321 #[.val (.int p0), .val (.int p1), .val (.int p2), .val (.int p3), .val (.int (2 : Int32)), .val (.int (own_e0 p1)), .val (.int (own_e1 p1 p2)), .val (.int (own_e2 p1 p2 p3)), .val (.ref b176), .val (.ref b202), .val (.ref r273), .val (.int (1 : Int32)), .val (.int (0 : Int32)), .val (.int (0 : Int32)), .val (.int (2 : Int32))] [(.int (1 : Int32))])) _
        refine XS.ifNo X272.here hx rfl (hb hby at_321) rfl ((if0 _ _).trans (feq (by decide : ¬ ((1 : Int32) = (0 : Int32)))).1) ?_
        show Steps p.tables e below (T272.setTop (mkF m 324 #[.val (.int p0), .val (.int p1), .val (.int p2), .val (.int p3), .val (.int (2 : Int32)), .val (.int (own_e0 p1)), .val (.int (own_e1 p1 p2)), .val (.int (own_e2 p1 p2 p3)), .val (.ref b176), .val (.ref b202), .val (.ref r273), .val (.int (1 : Int32)), .val (.int (0 : Int32)), .val (.int (0 : Int32)), .val (.int (2 : Int32))] [])) _
        refine XS.aload X272.here hx rfl (hb hby at_324) rfl rfl ?_
        show Steps p.tables e below (T272.setTop (mkF m 326 #[.val (.int p0), .val (.int p1), .val (.int p2), .val (.int p3), .val (.int (2 : Int32)), .val (.int (own_e0 p1)), .val (.int (own_e1 p1 p2)), .val (.int (own_e2 p1 p2 p3)), .val (.ref b176), .val (.ref b202), .val (.ref r273), .val (.int (1 : Int32)), .val (.int (0 : Int32)), .val (.int (0 : Int32)), .val (.int (2 : Int32))] [(.ref r273)])) _
        refine XS.iconst X272.here hx rfl (hb hby at_326) ?_
        show Steps p.tables e below (T272.setTop (mkF m 327 #[.val (.int p0), .val (.int p1), .val (.int p2), .val (.int p3), .val (.int (2 : Int32)), .val (.int (own_e0 p1)), .val (.int (own_e1 p1 p2)), .val (.int (own_e2 p1 p2 p3)), .val (.ref b176), .val (.ref b202), .val (.ref r273), .val (.int (1 : Int32)), .val (.int (0 : Int32)), .val (.int (0 : Int32)), .val (.int (2 : Int32))] [(.int (1 : Int32)), (.ref r273)])) _
        refine X272.iaload hx (j := (1 : Int32)) (v := (.int ((own_e1 p1 p2) - (1 : Int32)))) Ar294.1 (State.isArrayOf_alike hZ.alike Ar294.2.1) Ar294.2.2 hin294 hat294 (g := (mkF m 327 #[.val (.int p0), .val (.int p1), .val (.int p2), .val (.int p3), .val (.int (2 : Int32)), .val (.int (own_e0 p1)), .val (.int (own_e1 p1 p2)), .val (.int (own_e2 p1 p2 p3)), .val (.ref b176), .val (.ref b202), .val (.ref r273), .val (.int (1 : Int32)), .val (.int (0 : Int32)), .val (.int (0 : Int32)), .val (.int (2 : Int32))] [(.int (1 : Int32)), (.ref r273)])) rfl rfl (hb hby at_327) _ ?_
        show Steps p.tables e below (T272.setTop (mkF m 328 #[.val (.int p0), .val (.int p1), .val (.int p2), .val (.int p3), .val (.int (2 : Int32)), .val (.int (own_e0 p1)), .val (.int (own_e1 p1 p2)), .val (.int (own_e2 p1 p2 p3)), .val (.ref b176), .val (.ref b202), .val (.ref r273), .val (.int (1 : Int32)), .val (.int (0 : Int32)), .val (.int (0 : Int32)), .val (.int (2 : Int32))] [(.int ((own_e1 p1 p2) - (1 : Int32)))])) _
        refine XS.aload X272.here hx rfl (hb hby at_328) rfl rfl ?_
        show Steps p.tables e below (T272.setTop (mkF m 330 #[.val (.int p0), .val (.int p1), .val (.int p2), .val (.int p3), .val (.int (2 : Int32)), .val (.int (own_e0 p1)), .val (.int (own_e1 p1 p2)), .val (.int (own_e2 p1 p2 p3)), .val (.ref b176), .val (.ref b202), .val (.ref r273), .val (.int (1 : Int32)), .val (.int (0 : Int32)), .val (.int (0 : Int32)), .val (.int (2 : Int32))] [(.ref b202), (.int ((own_e1 p1 p2) - (1 : Int32)))])) _
        refine XS.iload X272.here hx rfl (hb hby at_330) rfl ?_
        exact kt
      obtain ⟨cl296, Ar296, S296, H296⟩ := id f279
      have hin296 : ¬ ((1 : Int32) < 0 ∨ cl296.slots.size ≤ ((1 : Int32)).toNatClampNeg) := own_inb S296 (by decide) (by decide)
      have hat296 : cl296.slots[((1 : Int32)).toNatClampNeg]? = some (.int (own_e1 p1 p2)) := H296 _ (by decide)
      have pre297 : ∀ t, Steps p.tables e below (T272.setTop (mkF m 381 #[.val (.int p0), .val (.int p1), .val (.int p2), .val (.int p3), .val (.int (2 : Int32)), .val (.int (own_e0 p1)), .val (.int (own_e1 p1 p2)), .val (.int (own_e2 p1 p2 p3)), .val (.ref b176), .val (.ref b202), .val (.ref r273), .val (.int (1 : Int32)), .val (.int (0 : Int32)), .val (.int (0 : Int32)), .val (.int (2 : Int32))] [])) t → Steps p.tables e below (s₁.setTop (entryFrame m #[(.int p0), (.int p1), (.int p2), (.int p3)] maxLocals)) t := by
        intro t kt
        refine pre295 t ?_
        show Steps p.tables e below (T272.setTop (mkF m 332 #[.val (.int p0), .val (.int p1), .val (.int p2), .val (.int p3), .val (.int (2 : Int32)), .val (.int (own_e0 p1)), .val (.int (own_e1 p1 p2)), .val (.int (own_e2 p1 p2 p3)), .val (.ref b176), .val (.ref b202), .val (.ref r273), .val (.int (1 : Int32)), .val (.int (0 : Int32)), .val (.int (0 : Int32)), .val (.int (2 : Int32))] [(.int (0 : Int32)), (.ref b202), (.int ((own_e1 p1 p2) - (1 : Int32)))])) _
        refine XS.iconst X272.here hx rfl (hb hby at_332) ?_
        show Steps p.tables e below (T272.setTop (mkF m 333 #[.val (.int p0), .val (.int p1), .val (.int p2), .val (.int p3), .val (.int (2 : Int32)), .val (.int (own_e0 p1)), .val (.int (own_e1 p1 p2)), .val (.int (own_e2 p1 p2 p3)), .val (.ref b176), .val (.ref b202), .val (.ref r273), .val (.int (1 : Int32)), .val (.int (0 : Int32)), .val (.int (0 : Int32)), .val (.int (2 : Int32))] [(.int (1 : Int32)), (.int (0 : Int32)), (.ref b202), (.int ((own_e1 p1 p2) - (1 : Int32)))])) _
        refine XS.iadd X272.here hx rfl (hb hby at_333) rfl ?_
        show Steps p.tables e below (T272.setTop (mkF m 334 #[.val (.int p0), .val (.int p1), .val (.int p2), .val (.int p3), .val (.int (2 : Int32)), .val (.int (own_e0 p1)), .val (.int (own_e1 p1 p2)), .val (.int (own_e2 p1 p2 p3)), .val (.ref b176), .val (.ref b202), .val (.ref r273), .val (.int (1 : Int32)), .val (.int (0 : Int32)), .val (.int (0 : Int32)), .val (.int (2 : Int32))] [(.int (1 : Int32)), (.ref b202), (.int ((own_e1 p1 p2) - (1 : Int32)))])) _
        refine X272.iaload hx (j := (1 : Int32)) (v := (.int (own_e1 p1 p2))) Ar296.1 (State.isArrayOf_alike hZ.alike Ar296.2.1) Ar296.2.2 hin296 hat296 (g := (mkF m 334 #[.val (.int p0), .val (.int p1), .val (.int p2), .val (.int p3), .val (.int (2 : Int32)), .val (.int (own_e0 p1)), .val (.int (own_e1 p1 p2)), .val (.int (own_e2 p1 p2 p3)), .val (.ref b176), .val (.ref b202), .val (.ref r273), .val (.int (1 : Int32)), .val (.int (0 : Int32)), .val (.int (0 : Int32)), .val (.int (2 : Int32))] [(.int (1 : Int32)), (.ref b202), (.int ((own_e1 p1 p2) - (1 : Int32)))])) rfl rfl (hb hby at_334) _ ?_
        show Steps p.tables e below (T272.setTop (mkF m 335 #[.val (.int p0), .val (.int p1), .val (.int p2), .val (.int p3), .val (.int (2 : Int32)), .val (.int (own_e0 p1)), .val (.int (own_e1 p1 p2)), .val (.int (own_e2 p1 p2 p3)), .val (.ref b176), .val (.ref b202), .val (.ref r273), .val (.int (1 : Int32)), .val (.int (0 : Int32)), .val (.int (0 : Int32)), .val (.int (2 : Int32))] [(.int (own_e1 p1 p2)), (.int ((own_e1 p1 p2) - (1 : Int32)))])) _
        refine XS.iconst X272.here hx rfl (hb hby at_335) ?_
        show Steps p.tables e below (T272.setTop (mkF m 336 #[.val (.int p0), .val (.int p1), .val (.int p2), .val (.int p3), .val (.int (2 : Int32)), .val (.int (own_e0 p1)), .val (.int (own_e1 p1 p2)), .val (.int (own_e2 p1 p2 p3)), .val (.ref b176), .val (.ref b202), .val (.ref r273), .val (.int (1 : Int32)), .val (.int (0 : Int32)), .val (.int (0 : Int32)), .val (.int (2 : Int32))] [(.int (1 : Int32)), (.int (own_e1 p1 p2)), (.int ((own_e1 p1 p2) - (1 : Int32)))])) _
        refine XS.isub X272.here hx rfl (hb hby at_336) rfl ?_
        show Steps p.tables e below (T272.setTop (mkF m 337 #[.val (.int p0), .val (.int p1), .val (.int p2), .val (.int p3), .val (.int (2 : Int32)), .val (.int (own_e0 p1)), .val (.int (own_e1 p1 p2)), .val (.int (own_e2 p1 p2 p3)), .val (.ref b176), .val (.ref b202), .val (.ref r273), .val (.int (1 : Int32)), .val (.int (0 : Int32)), .val (.int (0 : Int32)), .val (.int (2 : Int32))] [(.int ((own_e1 p1 p2) - (1 : Int32))), (.int ((own_e1 p1 p2) - (1 : Int32)))])) _
        refine XS.icmpNo X272.here hx rfl (hb hby at_337) rfl (teq (rfl : ((own_e1 p1 p2) - (1 : Int32)) = ((own_e1 p1 p2) - (1 : Int32)))).2 ?_
        show Steps p.tables e below (T272.setTop (mkF m 340 #[.val (.int p0), .val (.int p1), .val (.int p2), .val (.int p3), .val (.int (2 : Int32)), .val (.int (own_e0 p1)), .val (.int (own_e1 p1 p2)), .val (.int (own_e2 p1 p2 p3)), .val (.ref b176), .val (.ref b202), .val (.ref r273), .val (.int (1 : Int32)), .val (.int (0 : Int32)), .val (.int (0 : Int32)), .val (.int (2 : Int32))] [])) _
        refine XS.iconst X272.here hx rfl (hb hby at_340) ?_
        show Steps p.tables e below (T272.setTop (mkF m 341 #[.val (.int p0), .val (.int p1), .val (.int p2), .val (.int p3), .val (.int (2 : Int32)), .val (.int (own_e0 p1)), .val (.int (own_e1 p1 p2)), .val (.int (own_e2 p1 p2 p3)), .val (.ref b176), .val (.ref b202), .val (.ref r273), .val (.int (1 : Int32)), .val (.int (0 : Int32)), .val (.int (0 : Int32)), .val (.int (2 : Int32))] [(.int (1 : Int32))])) _
        refine XS.goto X272.here hx rfl (pc0 := 341) (pc' := 345) rfl (hb hby at_341) (by decide) (by decide) ?_
        show Steps p.tables e below (T272.setTop (mkF m 345 #[.val (.int p0), .val (.int p1), .val (.int p2), .val (.int p3), .val (.int (2 : Int32)), .val (.int (own_e0 p1)), .val (.int (own_e1 p1 p2)), .val (.int (own_e2 p1 p2 p3)), .val (.ref b176), .val (.ref b202), .val (.ref r273), .val (.int (1 : Int32)), .val (.int (0 : Int32)), .val (.int (0 : Int32)), .val (.int (2 : Int32))] [(.int (1 : Int32))])) _
        refine XS.istore X272.here hx rfl (hb hby at_345) rfl (l' := #[.val (.int p0), .val (.int p1), .val (.int p2), .val (.int p3), .val (.int (2 : Int32)), .val (.int (own_e0 p1)), .val (.int (own_e1 p1 p2)), .val (.int (own_e2 p1 p2 p3)), .val (.ref b176), .val (.ref b202), .val (.ref r273), .val (.int (1 : Int32)), .val (.int (0 : Int32)), .val (.int (0 : Int32)), .val (.int (2 : Int32))]) rfl ?_
        show Steps p.tables e below (T272.setTop (mkF m 347 #[.val (.int p0), .val (.int p1), .val (.int p2), .val (.int p3), .val (.int (2 : Int32)), .val (.int (own_e0 p1)), .val (.int (own_e1 p1 p2)), .val (.int (own_e2 p1 p2 p3)), .val (.ref b176), .val (.ref b202), .val (.ref r273), .val (.int (1 : Int32)), .val (.int (0 : Int32)), .val (.int (0 : Int32)), .val (.int (2 : Int32))] [])) _
        refine XS.iload X272.here hx rfl (hb hby at_347) rfl ?_
        show Steps p.tables e below (T272.setTop (mkF m 349 #[.val (.int p0), .val (.int p1), .val (.int p2), .val (.int p3), .val (.int (2 : Int32)), .val (.int (own_e0 p1)), .val (.int (own_e1 p1 p2)), .val (.int (own_e2 p1 p2 p3)), .val (.ref b176), .val (.ref b202), .val (.ref r273), .val (.int (1 : Int32)), .val (.int (0 : Int32)), .val (.int (0 : Int32)), .val (.int (2 : Int32))] [(.int (2 : Int32))])) _
        refine XS.iconst X272.here hx rfl (hb hby at_349) ?_
        show Steps p.tables e below (T272.setTop (mkF m 350 #[.val (.int p0), .val (.int p1), .val (.int p2), .val (.int p3), .val (.int (2 : Int32)), .val (.int (own_e0 p1)), .val (.int (own_e1 p1 p2)), .val (.int (own_e2 p1 p2 p3)), .val (.ref b176), .val (.ref b202), .val (.ref r273), .val (.int (1 : Int32)), .val (.int (0 : Int32)), .val (.int (0 : Int32)), .val (.int (2 : Int32))] [(.int (2 : Int32)), (.int (2 : Int32))])) _
        refine XS.icmpYes X272.here hx rfl (pc0 := 350) (pc' := 381) rfl (hb hby at_350) rfl (flt (by decide : ¬ ((2 : Int32) < (2 : Int32)))).2.2.2 (by decide) (by decide) ?_
        exact kt
      have pre298 : ∀ t, Steps p.tables e below (T272.setTop (mkF m 383 #[.val (.int p0), .val (.int p1), .val (.int p2), .val (.int p3), .val (.int (2 : Int32)), .val (.int (own_e0 p1)), .val (.int (own_e1 p1 p2)), .val (.int (own_e2 p1 p2 p3)), .val (.ref b176), .val (.ref b202), .val (.ref r273), .val (.int (1 : Int32)), .val (.int (0 : Int32)), .val (.int (0 : Int32)), .val (.int (2 : Int32))] [(.int (1 : Int32))])) t → Steps p.tables e below (s₁.setTop (entryFrame m #[(.int p0), (.int p1), (.int p2), (.int p3)] maxLocals)) t := by
        intro t kt
        refine pre297 t ?_
        show Steps p.tables e below (T272.setTop (mkF m 381 #[.val (.int p0), .val (.int p1), .val (.int p2), .val (.int p3), .val (.int (2 : Int32)), .val (.int (own_e0 p1)), .val (.int (own_e1 p1 p2)), .val (.int (own_e2 p1 p2 p3)), .val (.ref b176), .val (.ref b202), .val (.ref r273), .val (.int (1 : Int32)), .val (.int (0 : Int32)), .val (.int (0 : Int32)), .val (.int (2 : Int32))] [])) _
        refine XS.iload X272.here hx rfl (hb hby at_381) rfl ?_
        exact kt
      obtain ⟨fs, hr, hrun, hended, hW, hsame⟩ := X272.leave (v := some (.int (1 : Int32))) (fun h => by rw [Bd.returns] at h; cases h)
      refine ⟨_, _, pre298 _ ?_, hrun, hended, _, _, rfl, ?_, ⟨_, rfl⟩, hW, hsame.mono (by decide) (by decide)⟩
      · show Steps p.tables e below (T272.setTop (mkF m 383 #[.val (.int p0), .val (.int p1), .val (.int p2), .val (.int p3), .val (.int (2 : Int32)), .val (.int (own_e0 p1)), .val (.int (own_e1 p1 p2)), .val (.int (own_e2 p1 p2 p3)), .val (.ref b176), .val (.ref b202), .val (.ref r273), .val (.int (1 : Int32)), .val (.int (0 : Int32)), .val (.int (0 : Int32)), .val (.int (2 : Int32))] [(.int (1 : Int32))])) _
        exact retN X272 hx (t := .boolean) Bd.returns (by simp) (hb hby at_383) hr
      · show own_Q_law Z p0 p1 p2 p3 aS h0 n0 (some (.int (1 : Int32))) T272.heap _
        skip
        exact ⟨rfl, nf281⟩
  · have pre299 : ∀ t, Steps p.tables e below (s₁.setTop (mkF m 33 #[.val (.int p0), .val (.int p1), .val (.int p2), .val (.int p3), .val (.int (3 : Int32)), .val (.int (own_e0 p1)), .val (.int (own_e1 p1 p2)), .val (.int (own_e2 p1 p2 p3)), .unset, .unset, .unset, .unset, .unset, .unset, .unset] [])) t → Steps p.tables e below (s₁.setTop (entryFrame m #[(.int p0), (.int p1), (.int p2), (.int p3)] maxLocals)) t := by
      intro t kt
      refine pre3 t ?_
      rw [hn3]
      exact kt
    obtain ⟨T300, h300, k300, X300, e300, E300, A300, I300, st300⟩ := newPE X0 hx hZ (hw _ (List.mem_of_getElem? (i := 2) rfl)) e0 (g := (mkF m 90 #[.val (.int p0), .val (.int p1), .val (.int p2), .val (.int p3), .val (.int (3 : Int32)), .val (.int (own_e0 p1)), .val (.int (own_e1 p1 p2)), .val (.int (own_e2 p1 p2 p3)), .unset, .unset, .unset, .unset, .unset, .unset, .unset] [(.int (3 : Int32))])) rfl (hb hby at_90) rfl (by decide) (cap := 3) (by decide) (by decide) (by decide) (by decide) (ad := "[I") rfl
    obtain ⟨b300, g300⟩ : ∃ z, z = h0.size := ⟨_, rfl⟩
    rw [← g300] at A300 I300 st300
    have sz_b300 : h0.size ≤ b300 := Nat.le_trans K0.1 (Nat.le_of_eq g300.symm)
    have gn_b300 : n0 ≤ b300 := Nat.le_trans Z0 sz_b300
    have ne_aS_b300 : aS ≠ b300 := Nat.ne_of_lt (Nat.lt_of_lt_of_le AS.lt (Nat.le_of_eq g300.symm))
    have f301 := S0.ext E300
    have f302 := AS.ext E300
    have k303 := K0.ext E300
    have f304 : own_A Z h300 b300 3 (own_v3 (0 : Int32) (0 : Int32) (0 : Int32)) := (own_A.new A300 rfl).congr (fun j hj => by rcases j with _ | _ | _ | j <;> first | rfl | (simp [own_upd]; done) | omega)
    have pre305 : ∀ t, Steps p.tables e below (T300.setTop (mkF m 94 #[.val (.int p0), .val (.int p1), .val (.int p2), .val (.int p3), .val (.int (3 : Int32)), .val (.int (own_e0 p1)), .val (.int (own_e1 p1 p2)), .val (.int (own_e2 p1 p2 p3)), .unset, .unset, .unset, .unset, .unset, .unset, .unset] [(.int (0 : Int32)), (.ref b300), (.ref b300)])) t → Steps p.tables e below (s₁.setTop (entryFrame m #[(.int p0), (.int p1), (.int p2), (.int p3)] maxLocals)) t := by
      intro t kt
      refine pre299 t ?_
      show Steps p.tables e below (s₁.setTop (mkF m 33 #[.val (.int p0), .val (.int p1), .val (.int p2), .val (.int p3), .val (.int (3 : Int32)), .val (.int (own_e0 p1)), .val (.int (own_e1 p1 p2)), .val (.int (own_e2 p1 p2 p3)), .unset, .unset, .unset, .unset, .unset, .unset, .unset] [])) _
      refine XS.iload X0.here hx rfl (hb hby at_33) rfl ?_
      show Steps p.tables e below (s₁.setTop (mkF m 35 #[.val (.int p0), .val (.int p1), .val (.int p2), .val (.int p3), .val (.int (3 : Int32)), .val (.int (own_e0 p1)), .val (.int (own_e1 p1 p2)), .val (.int (own_e2 p1 p2 p3)), .unset, .unset, .unset, .unset, .unset, .unset, .unset] [(.int (3 : Int32))])) _
      refine XS.ifYes X0.here hx rfl (pc0 := 35) (pc' := 46) rfl (hb hby at_35) rfl ((if0 _ _).trans (feq (by decide : ¬ ((3 : Int32) = (0 : Int32)))).2) (by decide) (by decide) ?_
      show Steps p.tables e below (s₁.setTop (mkF m 46 #[.val (.int p0), .val (.int p1), .val (.int p2), .val (.int p3), .val (.int (3 : Int32)), .val (.int (own_e0 p1)), .val (.int (own_e1 p1 p2)), .val (.int (own_e2 p1 p2 p3)), .unset, .unset, .unset, .unset, .unset, .unset, .unset] [])) _
      refine XS.iload X0.here hx rfl (hb hby at_46) rfl ?_
      show Steps p.tables e below (s₁.setTop (mkF m 48 #[.val (.int p0), .val (.int p1), .val (.int p2), .val (.int p3), .val (.int (3 : Int32)), .val (.int (own_e0 p1)), .val (.int (own_e1 p1 p2)), .val (.int (own_e2 p1 p2 p3)), .unset, .unset, .unset, .unset, .unset, .unset, .unset] [(.int (3 : Int32))])) _
      refine XS.iconst X0.here hx rfl (hb hby at_48) ?_
      show Steps p.tables e below (s₁.setTop (mkF m 49 #[.val (.int p0), .val (.int p1), .val (.int p2), .val (.int p3), .val (.int (3 : Int32)), .val (.int (own_e0 p1)), .val (.int (own_e1 p1 p2)), .val (.int (own_e2 p1 p2 p3)), .unset, .unset, .unset, .unset, .unset, .unset, .unset] [(.int (1 : Int32)), (.int (3 : Int32))])) _
      refine XS.icmpYes X0.here hx rfl (pc0 := 49) (pc' := 65) rfl (hb hby at_49) rfl (feq (by decide : ¬ ((3 : Int32) = (1 : Int32)))).2 (by decide) (by decide) ?_
      show Steps p.tables e below (s₁.setTop (mkF m 65 #[.val (.int p0), .val (.int p1), .val (.int p2), .val (.int p3), .val (.int (3 : Int32)), .val (.int (own_e0 p1)), .val (.int (own_e1 p1 p2)), .val (.int (own_e2 p1 p2 p3)), .unset, .unset, .unset, .unset, .unset, .unset, .unset] [])) _
      refine XS.iload X0.here hx rfl (hb hby at_65) rfl ?_
      show Steps p.tables e below (s₁.setTop (mkF m 67 #[.val (.int p0), .val (.int p1), .val (.int p2), .val (.int p3), .val (.int (3 : Int32)), .val (.int (own_e0 p1)), .val (.int (own_e1 p1 p2)), .val (.int (own_e2 p1 p2 p3)), .unset, .unset, .unset, .unset, .unset, .unset, .unset] [(.int (3 : Int32))])) _
      refine XS.iconst X0.here hx rfl (hb hby at_67) ?_
      show Steps p.tables e below (s₁.setTop (mkF m 68 #[.val (.int p0), .val (.int p1), .val (.int p2), .val (.int p3), .val (.int (3 : Int32)), .val (.int (own_e0 p1)), .val (.int (own_e1 p1 p2)), .val (.int (own_e2 p1 p2 p3)), .unset, .unset, .unset, .unset, .unset, .unset, .unset] [(.int (2 : Int32)), (.int (3 : Int32))])) _
      refine XS.icmpYes X0.here hx rfl (pc0 := 68) (pc' := 89) rfl (hb hby at_68) rfl (feq (by decide : ¬ ((3 : Int32) = (2 : Int32)))).2 (by decide) (by decide) ?_
      show Steps p.tables e below (s₁.setTop (mkF m 89 #[.val (.int p0), .val (.int p1), .val (.int p2), .val (.int p3), .val (.int (3 : Int32)), .val (.int (own_e0 p1)), .val (.int (own_e1 p1 p2)), .val (.int (own_e2 p1 p2 p3)), .unset, .unset, .unset, .unset, .unset, .unset, .unset] [])) _
      refine XS.iconst X0.here hx rfl (hb hby at_89) ?_
      show Steps p.tables e below (s₁.setTop (mkF m 90 #[.val (.int p0), .val (.int p1), .val (.int p2), .val (.int p3), .val (.int (3 : Int32)), .val (.int (own_e0 p1)), .val (.int (own_e1 p1 p2)), .val (.int (own_e2 p1 p2 p3)), .unset, .unset, .unset, .unset, .unset, .unset, .unset] [(.int (3 : Int32))])) _
      refine st300 _ ?_
      show Steps p.tables e below (T300.setTop (mkF m 92 #[.val (.int p0), .val (.int p1), .val (.int p2), .val (.int p3), .val (.int (3 : Int32)), .val (.int (own_e0 p1)), .val (.int (own_e1 p1 p2)), .val (.int (own_e2 p1 p2 p3)), .unset, .unset, .unset, .unset, .unset, .unset, .unset] [(.ref b300)])) _
      refine XS.dup X300.here hx rfl (hb hby at_92) rfl rfl ?_
      show Steps p.tables e below (T300.setTop (mkF m 93 #[.val (.int p0), .val (.int p1), .val (.int p2), .val (.int p3), .val (.int (3 : Int32)), .val (.int (own_e0 p1)), .val (.int (own_e1 p1 p2)), .val (.int (own_e2 p1 p2 p3)), .unset, .unset, .unset, .unset, .unset, .unset, .unset] [(.ref b300), (.ref b300)])) _
      refine XS.iconst X300.here hx rfl (hb hby at_93) ?_
      exact kt
    obtain ⟨cl306, Ar306, S306, H306⟩ := id f304
    have hin306 : ¬ ((0 : Int32) < 0 ∨ cl306.slots.size ≤ ((0 : Int32)).toNatClampNeg) := own_inb S306 (by decide) (by decide)
    obtain ⟨T307, h307, X307, e307, W307, st307⟩ := stI X300 hx hZ e300 Ar306 (j := (0 : Int32)) hin306 (g := (mkF m 96 #[.val (.int p0), .val (.int p1), .val (.int p2), .val (.int p3), .val (.int (3 : Int32)), .val (.int (own_e0 p1)), .val (.int (own_e1 p1 p2)), .val (.int (own_e2 p1 p2 p3)), .unset, .unset, .unset, .unset, .unset, .unset, .unset] [(.int (own_e0 p1)), (.int (0 : Int32)), (.ref b300), (.ref b300)])) rfl rfl (hb hby at_96)
    have f308 := f301.wr W307
    have f309 := f302.other W307 ne_aS_b300
    have f310 := I300.wr W307
    have k312 := k303.wr W307 (Or.inr sz_b300)
    have nf313 := Fr.snoc X307 N0 gn_b300
    have f314 := f304.set W307
    have f315 : own_A Z h307 b300 3 (own_v3 (own_e0 p1) (0 : Int32) (0 : Int32)) := f314.congr (fun j hj => by rcases j with _ | _ | _ | j <;> first | rfl | (simp [own_upd]; done) | omega)
    obtain ⟨cl316, Ar316, S316, H316⟩ := id f315
    have hin316 : ¬ ((1 : Int32) < 0 ∨ cl316.slots.size ≤ ((1 : Int32)).toNatClampNeg) := own_inb S316 (by decide) (by decide)
    obtain ⟨T317, h317, X317, e317, W317, st317⟩ := stI X307 hx hZ e307 Ar316 (j := (1 : Int32)) hin316 (g := (mkF m 101 #[.val (.int p0), .val (.int p1), .val (.int p2), .val (.int p3), .val (.int (3 : Int32)), .val (.int (own_e0 p1)), .val (.int (own_e1 p1 p2)), .val (.int (own_e2 p1 p2 p3)), .unset, .unset, .unset, .unset, .unset, .unset, .unset] [(.int (own_e1 p1 p2)), (.int (1 : Int32)), (.ref b300), (.ref b300)])) rfl rfl (hb hby at_101)
    have f318 := f308.wr W317
    have f319 := f309.other W317 ne_aS_b300
    have f320 := f310.wr W317
    have k322 := k312.wr W317 (Or.inr sz_b300)
    have nf323 := Fr.snoc X317 nf313 gn_b300
    have f324 := f315.set W317
    have f325 : own_A Z h317 b300 3 (own_v3 (own_e0 p1) (own_e1 p1 p2) (0 : Int32)) := f324.congr (fun j hj => by rcases j with _ | _ | _ | j <;> first | rfl | (simp [own_upd]; done) | omega)
    obtain ⟨cl326, Ar326, S326, H326⟩ := id f325
    have hin326 : ¬ ((2 : Int32) < 0 ∨ cl326.slots.size ≤ ((2 : Int32)).toNatClampNeg) := own_inb S326 (by decide) (by decide)
    obtain ⟨T327, h327, X327, e327, W327, st327⟩ := stI X317 hx hZ e317 Ar326 (j := (2 : Int32)) hin326 (g := (mkF m 106 #[.val (.int p0), .val (.int p1), .val (.int p2), .val (.int p3), .val (.int (3 : Int32)), .val (.int (own_e0 p1)), .val (.int (own_e1 p1 p2)), .val (.int (own_e2 p1 p2 p3)), .unset, .unset, .unset, .unset, .unset, .unset, .unset] [(.int (own_e2 p1 p2 p3)), (.int (2 : Int32)), (.ref b300), (.ref b300)])) rfl rfl (hb hby at_106)
    have f328 := f318.wr W327
    have f329 := f319.other W327 ne_aS_b300
    have f330 := f320.wr W327
    have k332 := k322.wr W327 (Or.inr sz_b300)
    have nf333 := Fr.snoc X327 nf323 gn_b300
    have f334 := f325.set W327
    have f335 : own_A Z h327 b300 3 (own_v3 (own_e0 p1) (own_e1 p1 p2) (own_e2 p1 p2 p3)) := f334.congr (fun j hj => by rcases j with _ | _ | _ | j <;> first | rfl | (simp [own_upd]; done) | omega)
    have pre336 : ∀ t, Steps p.tables e below (T327.setTop (mkF m 110 #[.val (.int p0), .val (.int p1), .val (.int p2), .val (.int p3), .val (.int (3 : Int32)), .val (.int (own_e0 p1)), .val (.int (own_e1 p1 p2)), .val (.int (own_e2 p1 p2 p3)), .val (.ref b300), .unset, .unset, .unset, .unset, .unset, .unset] [(.int (3 : Int32))])) t → Steps p.tables e below (s₁.setTop (entryFrame m #[(.int p0), (.int p1), (.int p2), (.int p3)] maxLocals)) t := by
      intro t kt
      refine pre305 t ?_
      show Steps p.tables e below (T300.setTop (mkF m 94 #[.val (.int p0), .val (.int p1), .val (.int p2), .val (.int p3), .val (.int (3 : Int32)), .val (.int (own_e0 p1)), .val (.int (own_e1 p1 p2)), .val (.int (own_e2 p1 p2 p3)), .unset, .unset, .unset, .unset, .unset, .unset, .unset] [(.int (0 : Int32)), (.ref b300), (.ref b300)])) _
      refine XS.iload X300.here hx rfl (hb hby at_94) rfl ?_
      show Steps p.tables e below (T300.setTop (mkF m 96 #[.val (.int p0), .val (.int p1), .val (.int p2), .val (.int p3), .val (.int (3 : Int32)), .val (.int (own_e0 p1)), .val (.int (own_e1 p1 p2)), .val (.int (own_e2 p1 p2 p3)), .unset, .unset, .unset, .unset, .unset, .unset, .unset] [(.int (own_e0 p1)), (.int (0 : Int32)), (.ref b300), (.ref b300)])) _
      refine st307 _ ?_
      show Steps p.tables e below (T307.setTop (mkF m 97 #[.val (.int p0), .val (.int p1), .val (.int p2), .val (.int p3), .val (.int (3 : Int32)), .val (.int (own_e0 p1)), .val (.int (own_e1 p1 p2)), .val (.int (own_e2 p1 p2 p3)), .unset, .unset, .unset, .unset, .unset, .unset, .unset] [(.ref b300)])) _
      refine XS.dup X307.here hx rfl (hb hby at_97) rfl rfl ?_
      show Steps p.tables e below (T307.setTop (mkF m 98 #[.val (.int p0), .val (.int p1), .val (.int p2), .val (.int p3), .val (.int (3 : Int32)), .val (.int (own_e0 p1)), .val (.int (own_e1 p1 p2)), .val (.int (own_e2 p1 p2 p3)), .unset, .unset, .unset, .unset, .unset, .unset, .unset] [(.ref b300), (.ref b300)])) _
      refine XS.iconst X307.here hx rfl (hb hby at_98) ?_
      show Steps p.tables e below (T307.setTop (mkF m 99 #[.val (.int p0), .val (.int p1), .val (.int p2), .val (.int p3), .val (.int (3 : Int32)), .val (.int (own_e0 p1)), .val (.int (own_e1 p1 p2)), .val (.int (own_e2 p1 p2 p3)), .unset, .unset, .unset, .unset, .unset, .unset, .unset] [(.int (1 : Int32)), (.ref b300), (.ref b300)])) _
      refine XS.iload X307.here hx rfl (hb hby at_99) rfl ?_
      show Steps p.tables e below (T307.setTop (mkF m 101 #[.val (.int p0), .val (.int p1), .val (.int p2), .val (.int p3), .val (.int (3 : Int32)), .val (.int (own_e0 p1)), .val (.int (own_e1 p1 p2)), .val (.int (own_e2 p1 p2 p3)), .unset, .unset, .unset, .unset, .unset, .unset, .unset] [(.int (own_e1 p1 p2)), (.int (1 : Int32)), (.ref b300), (.ref b300)])) _
      refine st317 _ ?_
      show Steps p.tables e below (T317.setTop (mkF m 102 #[.val (.int p0), .val (.int p1), .val (.int p2), .val (.int p3), .val (.int (3 : Int32)), .val (.int (own_e0 p1)), .val (.int (own_e1 p1 p2)), .val (.int (own_e2 p1 p2 p3)), .unset, .unset, .unset, .unset, .unset, .unset, .unset] [(.ref b300)])) _
      refine XS.dup X317.here hx rfl (hb hby at_102) rfl rfl ?_
      show Steps p.tables e below (T317.setTop (mkF m 103 #[.val (.int p0), .val (.int p1), .val (.int p2), .val (.int p3), .val (.int (3 : Int32)), .val (.int (own_e0 p1)), .val (.int (own_e1 p1 p2)), .val (.int (own_e2 p1 p2 p3)), .unset, .unset, .unset, .unset, .unset, .unset, .unset] [(.ref b300), (.ref b300)])) _
      refine XS.iconst X317.here hx rfl (hb hby at_103) ?_
      show Steps p.tables e below (T317.setTop (mkF m 104 #[.val (.int p0), .val (.int p1), .val (.int p2), .val (.int p3), .val (.int (3 : Int32)), .val (.int (own_e0 p1)), .val (.int (own_e1 p1 p2)), .val (.int (own_e2 p1 p2 p3)), .unset, .unset, .unset, .unset, .unset, .unset, .unset] [(.int (2 : Int32)), (.ref b300), (.ref b300)])) _
      refine XS.iload X317.here hx rfl (hb hby at_104) rfl ?_
      show Steps p.tables e below (T317.setTop (mkF m 106 #[.val (.int p0), .val (.int p1), .val (.int p2), .val (.int p3), .val (.int (3 : Int32)), .val (.int (own_e0 p1)), .val (.int (own_e1 p1 p2)), .val (.int (own_e2 p1 p2 p3)), .unset, .unset, .unset, .unset, .unset, .unset, .unset] [(.int (own_e2 p1 p2 p3)), (.int (2 : Int32)), (.ref b300), (.ref b300)])) _
      refine st327 _ ?_
      show Steps p.tables e below (T327.setTop (mkF m 107 #[.val (.int p0), .val (.int p1), .val (.int p2), .val (.int p3), .val (.int (3 : Int32)), .val (.int (own_e0 p1)), .val (.int (own_e1 p1 p2)), .val (.int (own_e2 p1 p2 p3)), .unset, .unset, .unset, .unset, .unset, .unset, .unset] [(.ref b300)])) _
      refine XS.astore X327.here hx rfl (hb hby at_107) rfl rfl (l' := #[.val (.int p0), .val (.int p1), .val (.int p2), .val (.int p3), .val (.int (3 : Int32)), .val (.int (own_e0 p1)), .val (.int (own_e1 p1 p2)), .val (.int (own_e2 p1 p2 p3)), .val (.ref b300), .unset, .unset, .unset, .unset, .unset, .unset]) rfl ?_
      show Steps p.tables e below (T327.setTop (mkF m 109 #[.val (.int p0), .val (.int p1), .val (.int p2), .val (.int p3), .val (.int (3 : Int32)), .val (.int (own_e0 p1)), .val (.int (own_e1 p1 p2)), .val (.int (own_e2 p1 p2 p3)), .val (.ref b300), .unset, .unset, .unset, .unset, .unset, .unset] [])) _
      refine XS.iconst X327.here hx rfl (hb hby at_109) ?_
      exact kt
    obtain ⟨T337, h337, k337, X337, e337, E337, A337, I337, st337⟩ := newPE X327 hx hZ (hw _ (List.mem_of_getElem? (i := 2) rfl)) e327 (g := (mkF m 110 #[.val (.int p0), .val (.int p1), .val (.int p2), .val (.int p3), .val (.int (3 : Int32)), .val (.int (own_e0 p1)), .val (.int (own_e1 p1 p2)), .val (.int (own_e2 p1 p2 p3)), .val (.ref b300), .unset, .unset, .unset, .unset, .unset, .unset] [(.int (3 : Int32))])) rfl (hb hby at_110) rfl (by decide) (cap := 3) (by decide) (by decide) (by decide) (by decide) (ad := "[I") rfl
    obtain ⟨b337, g337⟩ : ∃ z, z = h327.size := ⟨_, rfl⟩
    rw [← g337] at A337 I337 st337
    have sz_b337 : h0.size ≤ b337 := Nat.le_trans k332.1 (Nat.le_of_eq g337.symm)
    have gn_b337 : n0 ≤ b337 := Nat.le_trans Z0 sz_b337
    have ne_aS_b337 : aS ≠ b337 := Nat.ne_of_lt (Nat.lt_of_lt_of_le f329.lt (Nat.le_of_eq g337.symm))
    have ne_b300_b337 : b300 ≠ b337 := Nat.ne_of_lt (Nat.lt_of_lt_of_le f335.lt (Nat.le_of_eq g337.symm))
    have f338 := f328.ext E337
    have f339 := f329.ext E337
    have f340 := f330.ext E337
    have f341 := f335.ext E337
    have k342 := k332.ext E337
    have f343 : own_A Z h337 b337 3 (own_v3 (0 : Int32) (0 : Int32) (0 : Int32)) := (own_A.new A337 rfl).congr (fun j hj => by rcases j with _ | _ | _ | j <;> first | rfl | (simp [own_upd]; done) | omega)
    obtain ⟨cl344, Ar344, S344, H344⟩ := id f343
    have hin344 : ¬ ((0 : Int32) < 0 ∨ cl344.slots.size ≤ ((0 : Int32)).toNatClampNeg) := own_inb S344 (by decide) (by decide)
    obtain ⟨T345, h345, X345, e345, W345, st345⟩ := stI X337 hx hZ e337 Ar344 (j := (0 : Int32)) hin344 (g := (mkF m 116 #[.val (.int p0), .val (.int p1), .val (.int p2), .val (.int p3), .val (.int (3 : Int32)), .val (.int (own_e0 p1)), .val (.int (own_e1 p1 p2)), .val (.int (own_e2 p1 p2 p3)), .val (.ref b300), .unset, .unset, .unset, .unset, .unset, .unset] [(.int (own_e0 p1)), (.int (0 : Int32)), (.ref b337), (.ref b337)])) rfl rfl (hb hby at_116)
    have f346 := f338.wr W345
    have f347 := f339.other W345 ne_aS_b337
    have f348 := f340.wr W345
    have f349 := f341.other W345 ne_b300_b337
    have f350 := I337.wr W345
    have k352 := k342.wr W345 (Or.inr sz_b337)
    have nf353 := Fr.snoc X345 nf333 gn_b337
    have f354 := f343.set W345
    have f355 : own_A Z h345 b337 3 (own_v3 (own_e0 p1) (0 : Int32) (0 : Int32)) := f354.congr (fun j hj => by rcases j with _ | _ | _ | j <;> first | rfl | (simp [own_upd]; done) | omega)
    obtain ⟨cl356, Ar356, S356, H356⟩ := id f355
    have hin356 : ¬ ((1 : Int32) < 0 ∨ cl356.slots.size ≤ ((1 : Int32)).toNatClampNeg) := own_inb S356 (by decide) (by decide)
    obtain ⟨T357, h357, X357, e357, W357, st357⟩ := stI X345 hx hZ e345 Ar356 (j := (1 : Int32)) hin356 (g := (mkF m 121 #[.val (.int p0), .val (.int p1), .val (.int p2), .val (.int p3), .val (.int (3 : Int32)), .val (.int (own_e0 p1)), .val (.int (own_e1 p1 p2)), .val (.int (own_e2 p1 p2 p3)), .val (.ref b300), .unset, .unset, .unset, .unset, .unset, .unset] [(.int (own_e1 p1 p2)), (.int (1 : Int32)), (.ref b337), (.ref b337)])) rfl rfl (hb hby at_121)
    have f358 := f346.wr W357
    have f359 := f347.other W357 ne_aS_b337
    have f360 := f348.wr W357
    have f361 := f349.other W357 ne_b300_b337
    have f362 := f350.wr W357
    have k364 := k352.wr W357 (Or.inr sz_b337)
    have nf365 := Fr.snoc X357 nf353 gn_b337
    have f366 := f355.set W357
    have f367 : own_A Z h357 b337 3 (own_v3 (own_e0 p1) (own_e1 p1 p2) (0 : Int32)) := f366.congr (fun j hj => by rcases j with _ | _ | _ | j <;> first | rfl | (simp [own_upd]; done) | omega)
    have pre368 : ∀ t, Steps p.tables e below (T357.setTop (mkF m 126 #[.val (.int p0), .val (.int p1), .val (.int p2), .val (.int p3), .val (.int (3 : Int32)), .val (.int (own_e0 p1)), .val (.int (own_e1 p1 p2)), .val (.int (own_e2 p1 p2 p3)), .val (.ref b300), .unset, .unset, .unset, .unset, .unset, .unset] [(.int (own_e2 p1 p2 p3)), (.int (2 : Int32)), (.ref b337), (.ref b337)])) t → Steps p.tables e below (s₁.setTop (entryFrame m #[(.int p0), (.int p1), (.int p2), (.int p3)] maxLocals)) t := by
      intro t kt
      refine pre336 t ?_
      show Steps p.tables e below (T327.setTop (mkF m 110 #[.val (.int p0), .val (.int p1), .val (.int p2), .val (.int p3), .val (.int (3 : Int32)), .val (.int (own_e0 p1)), .val (.int (own_e1 p1 p2)), .val (.int (own_e2 p1 p2 p3)), .val (.ref b300), .unset, .unset, .unset, .unset, .unset, .unset] [(.int (3 : Int32))])) _
      refine st337 _ ?_
      show Steps p.tables e below (T337.setTop (mkF m 112 #[.val (.int p0), .val (.int p1), .val (.int p2), .val (.int p3), .val (.int (3 : Int32)), .val (.int (own_e0 p1)), .val (.int (own_e1 p1 p2)), .val (.int (own_e2 p1 p2 p3)), .val (.ref b300), .unset, .unset, .unset, .unset, .unset, .unset] [(.ref b337)])) _
      refine XS.dup X337.here hx rfl (hb hby at_112) rfl rfl ?_
      show Steps p.tables e below (T337.setTop (mkF m 113 #[.val (.int p0), .val (.int p1), .val (.int p2), .val (.int p3), .val (.int (3 : Int32)), .val (.int (own_e0 p1)), .val (.int (own_e1 p1 p2)), .val (.int (own_e2 p1 p2 p3)), .val (.ref b300), .unset, .unset, .unset, .unset, .unset, .unset] [(.ref b337), (.ref b337)])) _
      refine XS.iconst X337.here hx rfl (hb hby at_113) ?_
      show Steps p.tables e below (T337.setTop (mkF m 114 #[.val (.int p0), .val (.int p1), .val (.int p2), .val (.int p3), .val (.int (3 : Int32)), .val (.int (own_e0 p1)), .val (.int (own_e1 p1 p2)), .val (.int (own_e2 p1 p2 p3)), .val (.ref b300), .unset, .unset, .unset, .unset, .unset, .unset] [(.int (0 : Int32)), (.ref b337), (.ref b337)])) _
      refine XS.iload X337.here hx rfl (hb hby at_114) rfl ?_
      show Steps p.tables e below (T337.setTop (mkF m 116 #[.val (.int p0), .val (.int p1), .val (.int p2), .val (.int p3), .val (.int (3 : Int32)), .val (.int (own_e0 p1)), .val (.int (own_e1 p1 p2)), .val (.int (own_e2 p1 p2 p3)), .val (.ref b300), .unset, .unset, .unset, .unset, .unset, .unset] [(.int (own_e0 p1)), (.int (0 : Int32)), (.ref b337), (.ref b337)])) _
      refine st345 _ ?_
      show Steps p.tables e below (T345.setTop (mkF m 117 #[.val (.int p0), .val (.int p1), .val (.int p2), .val (.int p3), .val (.int (3 : Int32)), .val (.int (own_e0 p1)), .val (.int (own_e1 p1 p2)), .val (.int (own_e2 p1 p2 p3)), .val (.ref b300), .unset, .unset, .unset, .unset, .unset, .unset] [(.ref b337)])) _
      refine XS.dup X345.here hx rfl (hb hby at_117) rfl rfl ?_
      show Steps p.tables e below (T345.setTop (mkF m 118 #[.val (.int p0), .val (.int p1), .val (.int p2), .val (.int p3), .val (.int (3 : Int32)), .val (.int (own_e0 p1)), .val (.int (own_e1 p1 p2)), .val (.int (own_e2 p1 p2 p3)), .val (.ref b300), .unset, .unset, .unset, .unset, .unset, .unset] [(.ref b337), (.ref b337)])) _
      refine XS.iconst X345.here hx rfl (hb hby at_118) ?_
      show Steps p.tables e below (T345.setTop (mkF m 119 #[.val (.int p0), .val (.int p1), .val (.int p2), .val (.int p3), .val (.int (3 : Int32)), .val (.int (own_e0 p1)), .val (.int (own_e1 p1 p2)), .val (.int (own_e2 p1 p2 p3)), .val (.ref b300), .unset, .unset, .unset, .unset, .unset, .unset] [(.int (1 : Int32)), (.ref b337), (.ref b337)])) _
      refine XS.iload X345.here hx rfl (hb hby at_119) rfl ?_
      show Steps p.tables e below (T345.setTop (mkF m 121 #[.val (.int p0), .val (.int p1), .val (.int p2), .val (.int p3), .val (.int (3 : Int32)), .val (.int (own_e0 p1)), .val (.int (own_e1 p1 p2)), .val (.int (own_e2 p1 p2 p3)), .val (.ref b300), .unset, .unset, .unset, .unset, .unset, .unset] [(.int (own_e1 p1 p2)), (.int (1 : Int32)), (.ref b337), (.ref b337)])) _
      refine st357 _ ?_
      show Steps p.tables e below (T357.setTop (mkF m 122 #[.val (.int p0), .val (.int p1), .val (.int p2), .val (.int p3), .val (.int (3 : Int32)), .val (.int (own_e0 p1)), .val (.int (own_e1 p1 p2)), .val (.int (own_e2 p1 p2 p3)), .val (.ref b300), .unset, .unset, .unset, .unset, .unset, .unset] [(.ref b337)])) _
      refine XS.dup X357.here hx rfl (hb hby at_122) rfl rfl ?_
      show Steps p.tables e below (T357.setTop (mkF m 123 #[.val (.int p0), .val (.int p1), .val (.int p2), .val (.int p3), .val (.int (3 : Int32)), .val (.int (own_e0 p1)), .val (.int (own_e1 p1 p2)), .val (.int (own_e2 p1 p2 p3)), .val (.ref b300), .unset, .unset, .unset, .unset, .unset, .unset] [(.ref b337), (.ref b337)])) _
      refine XS.iconst X357.here hx rfl (hb hby at_123) ?_
      show Steps p.tables e below (T357.setTop (mkF m 124 #[.val (.int p0), .val (.int p1), .val (.int p2), .val (.int p3), .val (.int (3 : Int32)), .val (.int (own_e0 p1)), .val (.int (own_e1 p1 p2)), .val (.int (own_e2 p1 p2 p3)), .val (.ref b300), .unset, .unset, .unset, .unset, .unset, .unset] [(.int (2 : Int32)), (.ref b337), (.ref b337)])) _
      refine XS.iload X357.here hx rfl (hb hby at_124) rfl ?_
      exact kt
    obtain ⟨cl369, Ar369, S369, H369⟩ := id f367
    have hin369 : ¬ ((2 : Int32) < 0 ∨ cl369.slots.size ≤ ((2 : Int32)).toNatClampNeg) := own_inb S369 (by decide) (by decide)
    obtain ⟨T370, h370, X370, e370, W370, st370⟩ := stI X357 hx hZ e357 Ar369 (j := (2 : Int32)) hin369 (g := (mkF m 126 #[.val (.int p0), .val (.int p1), .val (.int p2), .val (.int p3), .val (.int (3 : Int32)), .val (.int (own_e0 p1)), .val (.int (own_e1 p1 p2)), .val (.int (own_e2 p1 p2 p3)), .val (.ref b300), .unset, .unset, .unset, .unset, .unset, .unset] [(.int (own_e2 p1 p2 p3)), (.int (2 : Int32)), (.ref b337), (.ref b337)])) rfl rfl (hb hby at_126)
    have f371 := f358.wr W370
    have f372 := f359.other W370 ne_aS_b337
    have f373 := f360.wr W370
    have f374 := f361.other W370 ne_b300_b337
    have f375 := f362.wr W370
    have k377 := k364.wr W370 (Or.inr sz_b337)
    have nf378 := Fr.snoc X370 nf365 gn_b337
    have f379 := f367.set W370
    have f380 : own_A Z h370 b337 3 (own_v3 (own_e0 p1) (own_e1 p1 p2) (own_e2 p1 p2 p3)) := f379.congr (fun j hj => by rcases j with _ | _ | _ | j <;> first | rfl | (simp [own_upd]; done) | omega)
    have pre381 : ∀ t, Steps p.tables e below (T370.setTop (mkF m 129 #[.val (.int p0), .val (.int p1), .val (.int p2), .val (.int p3), .val (.int (3 : Int32)), .val (.int (own_e0 p1)), .val (.int (own_e1 p1 p2)), .val (.int (own_e2 p1 p2 p3)), .val (.ref b300), .val (.ref b337), .unset, .unset, .unset, .unset, .unset] [])) t → Steps p.tables e below (s₁.setTop (entryFrame m #[(.int p0), (.int p1), (.int p2), (.int p3)] maxLocals)) t := by
      intro t kt
      refine pre368 t ?_
      show Steps p.tables e below (T357.setTop (mkF m 126 #[.val (.int p0), .val (.int p1), .val (.int p2), .val (.int p3), .val (.int (3 : Int32)), .val (.int (own_e0 p1)), .val (.int (own_e1 p1 p2)), .val (.int (own_e2 p1 p2 p3)), .val (.ref b300), .unset, .unset, .unset, .unset, .unset, .unset] [(.int (own_e2 p1 p2 p3)), (.int (2 : Int32)), (.ref b337), (.ref b337)])) _
      refine st370 _ ?_
      show Steps p.tables e below (T370.setTop (mkF m 127 #[.val (.int p0), .val (.int p1), .val (.int p2), .val (.int p3), .val (.int (3 : Int32)), .val (.int (own_e0 p1)), .val (.int (own_e1 p1 p2)), .val (.int (own_e2 p1 p2 p3)), .val (.ref b300), .unset, .unset, .unset, .unset, .unset, .unset] [(.ref b337)])) _
      refine XS.astore X370.here hx rfl (hb hby at_127) rfl rfl (l' := #[.val (.int p0), .val (.int p1), .val (.int p2), .val (.int p3), .val (.int (3 : Int32)), .val (.int (own_e0 p1)), .val (.int (own_e1 p1 p2)), .val (.int (own_e2 p1 p2 p3)), .val (.ref b300), .val (.ref b337), .unset, .unset, .unset, .unset, .unset]) rfl ?_
      exact kt
    by_cases hz0 : (own_e0 p1) = (0 : Int32)
    · skip
      have zs382 : n0 ≤ h370.size := Nat.le_trans Z0 k377.1
      obtain ⟨_, _, ⟨T383, L383, k383, n383⟩, -, X383, ⟨Lc383, hQ383, l383, y383, z383⟩, st383⟩ := Jvm.LawKit.callS X370 hx (y := (⟨"com/example/unfold/unfold/semantics/GateSets", "outsideHide", "([I)[I"⟩ : MethodName)) hown (mvT hZ (hw _ (List.mem_of_getElem? (i := 3) rfl))) (mvT hZ (hw _ (List.mem_of_getElem? (i := 4) rfl))) (mvT hZ (hw _ (List.mem_of_getElem? (i := 5) rfl))) (mvT hZ (hw _ (List.mem_of_getElem? (i := 6) rfl))) (by decide) (backOf (W := 0) (own_rm_oh3z l Z a0 hw [] b300 (own_e0 p1) (own_e1 p1 p2) (own_e2 p1 p2 p3) h370 n0 zs382 f374 hz0) hZ (hw _ (List.mem_of_getElem? (i := 6) rfl)) (hw _ (List.mem_of_getElem? (i := 5) rfl)) (by decide) (by decide)) (g := (mkF m 131 #[.val (.int p0), .val (.int p1), .val (.int p2), .val (.int p3), .val (.int (3 : Int32)), .val (.int (own_e0 p1)), .val (.int (own_e1 p1 p2)), .val (.int (own_e2 p1 p2 p3)), .val (.ref b300), .val (.ref b337), .unset, .unset, .unset, .unset, .unset] [(.ref b300)])) rfl (by rw [hml]; rfl) (argsL := [(.ref b300)]) (rest := []) (lenOf own_pd0 rfl) rfl (by show 2 * 0 + _ ≤ _; exact Nat.le_of_eq rfl) (hb hby at_131) (fun _ _ => ⟨rfl, e370, (by decide : 2 + 1 ≤ _), (by decide : 6 + 2 ≤ _)⟩)
      dsimp only [Pt.U, Pt.locs, Pt.cells, Pt.slots] at X383 l383 y383 z383 st383 hQ383
      rw [l383, (y383 : k383 = 3), (z383 : n383 = 8)] at X383
      clear l383 y383 z383
      obtain ⟨r384, rfl, N384, K384, c384_0, c384_1⟩ := hQ383
      have sz_r384 : h0.size ≤ r384 := Nat.le_trans k377.1 c384_0
      have gn_r384 : n0 ≤ r384 := Nat.le_trans Z0 sz_r384
      have ne_aS_r384 : aS ≠ r384 := Nat.ne_of_lt (Nat.lt_of_lt_of_le f372.lt c384_0)
      have ne_b300_r384 : b300 ≠ r384 := Nat.ne_of_lt (Nat.lt_of_lt_of_le f374.lt c384_0)
      have ne_b337_r384 : b337 ≠ r384 := Nat.ne_of_lt (Nat.lt_of_lt_of_le f380.lt c384_0)
      have f385 := own_sta_keep f371 K384 all0
      have f386 := f372.keep K384 nin0
      have f387 := f373.keep K384
      have f388 := f374.keep K384 nin0
      have f389 := f375.keep K384
      have f390 := f380.keep K384 nin0
      have k391 := k377.trans K384 all0
      have nf392 := Fr.app nf378 N384
      obtain ⟨cl393, Ar393, S393, -⟩ := id f388
      have pre394 : ∀ t, Steps p.tables e below (T383.setTop (mkF m 156 #[.val (.int p0), .val (.int p1), .val (.int p2), .val (.int p3), .val (.int (3 : Int32)), .val (.int (own_e0 p1)), .val (.int (own_e1 p1 p2)), .val (.int (own_e2 p1 p2 p3)), .val (.ref b300), .val (.ref b337), .val (.ref r384), .val (.int (1 : Int32)), .unset, .unset, .unset] [])) t → Steps p.tables e below (s₁.setTop (entryFrame m #[(.int p0), (.int p1), (.int p2), (.int p3)] maxLocals)) t := by
        intro t kt
        refine pre381 t ?_
        show Steps p.tables e below (T370.setTop (mkF m 129 #[.val (.int p0), .val (.int p1), .val (.int p2), .val (.int p3), .val (.int (3 : Int32)), .val (.int (own_e0 p1)), .val (.int (own_e1 p1 p2)), .val (.int (own_e2 p1 p2 p3)), .val (.ref b300), .val (.ref b337), .unset, .unset, .unset, .unset, .unset] [])) _
        refine XS.aload X370.here hx rfl (hb hby at_129) rfl rfl ?_
        show Steps p.tables e below (T370.setTop (mkF m 131 #[.val (.int p0), .val (.int p1), .val (.int p2), .val (.int p3), .val (.int (3 : Int32)), .val (.int (own_e0 p1)), .val (.int (own_e1 p1 p2)), .val (.int (own_e2 p1 p2 p3)), .val (.ref b300), .val (.ref b337), .unset, .unset, .unset, .unset, .unset] [(.ref b300)])) _
        refine st383 _ ?_
        show Steps p.tables e below (T383.setTop (mkF m 134 #[.val (.int p0), .val (.int p1), .val (.int p2), .val (.int p3), .val (.int (3 : Int32)), .val (.int (own_e0 p1)), .val (.int (own_e1 p1 p2)), .val (.int (own_e2 p1 p2 p3)), .val (.ref b300), .val (.ref b337), .unset, .unset, .unset, .unset, .unset] [(.ref r384)])) _
        refine XS.astore X383.here hx rfl (hb hby at_134) rfl rfl (l' := #[.val (.int p0), .val (.int p1), .val (.int p2), .val (.int p3), .val (.int (3 : Int32)), .val (.int (own_e0 p1)), .val (.int (own_e1 p1 p2)), .val (.int (own_e2 p1 p2 p3)), .val (.ref b300), .val (.ref b337), .val (.ref r384), .unset, .unset, .unset, .unset]) rfl ?_
        show Steps p.tables e below (T383.setTop (mkF m 136 #[.val (.int p0), .val (.int p1), .val (.int p2), .val (.int p3), .val (.int (3 : Int32)), .val (.int (own_e0 p1)), .val (.int (own_e1 p1 p2)), .val (.int (own_e2 p1 p2 p3)), .val (.ref b300), .val (.ref b337), .val (.ref r384), .unset, .unset, .unset, .unset] [])) _
        refine XS.aload X383.here hx rfl (hb hby at_136) rfl rfl ?_
        show Steps p.tables e below (T383.setTop (mkF m 138 #[.val (.int p0), .val (.int p1), .val (.int p2), .val (.int p3), .val (.int (3 : Int32)), .val (.int (own_e0 p1)), .val (.int (own_e1 p1 p2)), .val (.int (own_e2 p1 p2 p3)), .val (.ref b300), .val (.ref b337), .val (.ref r384), .unset, .unset, .unset, .unset] [(.ref b300)])) _
        refine X383.arraylength hx Ar393.1 (State.isArrayOf_alike hZ.alike Ar393.2.1) (g := (mkF m 138 #[.val (.int p0), .val (.int p1), .val (.int p2), .val (.int p3), .val (.int (3 : Int32)), .val (.int (own_e0 p1)), .val (.int (own_e1 p1 p2)), .val (.int (own_e2 p1 p2 p3)), .val (.ref b300), .val (.ref b337), .val (.ref r384), .unset, .unset, .unset, .unset] [(.ref b300)])) rfl rfl (hb hby at_138) _ ?_
        rw [own_len (z := (3 : Int32)) S393 rfl]
        show Steps p.tables e below (T383.setTop (mkF m 139 #[.val (.int p0), .val (.int p1), .val (.int p2), .val (.int p3), .val (.int (3 : Int32)), .val (.int (own_e0 p1)), .val (.int (own_e1 p1 p2)), .val (.int (own_e2 p1 p2 p3)), .val (.ref b300), .val (.ref b337), .val (.ref r384), .unset, .unset, .unset, .unset] [(.int (3 : Int32))])) _
        refine XS.iload X383.here hx rfl (hb hby at_139) rfl ?_
        show Steps p.tables e below (T383.setTop (mkF m 141 #[.val (.int p0), .val (.int p1), .val (.int p2), .val (.int p3), .val (.int (3 : Int32)), .val (.int (own_e0 p1)), .val (.int (own_e1 p1 p2)), .val (.int (own_e2 p1 p2 p3)), .val (.ref b300), .val (.ref b337), .val (.ref r384), .unset, .unset, .unset, .unset] [(.int (3 : Int32)), (.int (3 : Int32))])) _
        refine XS.icmpNo X383.here hx rfl (hb hby at_141) rfl (teq (rfl : (3 : Int32) = (3 : Int32))).2 ?_
        show Steps p.tables e below (T383.setTop (mkF m 144 #[.val (.int p0), .val (.int p1), .val (.int p2), .val (.int p3), .val (.int (3 : Int32)), .val (.int (own_e0 p1)), .val (.int (own_e1 p1 p2)), .val (.int (own_e2 p1 p2 p3)), .val (.ref b300), .val (.ref b337), .val (.ref r384), .unset, .unset, .unset, .unset] [])) _
        refine XS.iconst X383.here hx rfl (hb hby at_144) ?_
        show Steps p.tables e below (T383.setTop (mkF m 145 #[.val (.int p0), .val (.int p1), .val (.int p2), .val (.int p3), .val (.int (3 : Int32)), .val (.int (own_e0 p1)), .val (.int (own_e1 p1 p2)), .val (.int (own_e2 p1 p2 p3)), .val (.ref b300), .val (.ref b337), .val (.ref r384), .unset, .unset, .unset, .unset] [(.int (1 : Int32))])) _
        refine XS.goto X383.here hx rfl (pc0 := 145) (pc' := 149) rfl (hb hby at_145) (by decide) (by decide) ?_
        show Steps p.tables e below (T383.setTop (mkF m 149 #[.val (.int p0), .val (.int p1), .val (.int p2), .val (.int p3), .val (.int (3 : Int32)), .val (.int (own_e0 p1)), .val (.int (own_e1 p1 p2)), .val (.int (own_e2 p1 p2 p3)), .val (.ref b300), .val (.ref b337), .val (.ref r384), .unset, .unset, .unset, .unset] [(.int (1 : Int32))])) _
        refine XS.istore X383.here hx rfl (hb hby at_149) rfl (l' := #[.val (.int p0), .val (.int p1), .val (.int p2), .val (.int p3), .val (.int (3 : Int32)), .val (.int (own_e0 p1)), .val (.int (own_e1 p1 p2)), .val (.int (own_e2 p1 p2 p3)), .val (.ref b300), .val (.ref b337), .val (.ref r384), .val (.int (1 : Int32)), .unset, .unset, .unset]) rfl ?_
        show Steps p.tables e below (T383.setTop (mkF m 151 #[.val (.int p0), .val (.int p1), .val (.int p2), .val (.int p3), .val (.int (3 : Int32)), .val (.int (own_e0 p1)), .val (.int (own_e1 p1 p2)), .val (.int (own_e2 p1 p2 p3)), .val (.ref b300), .val (.ref b337), .val (.ref r384), .val (.int (1 : Int32)), .unset, .unset, .unset] [])) _
        refine XS.iload X383.here hx rfl (hb hby at_151) rfl ?_
        show Steps p.tables e below (T383.setTop (mkF m 153 #[.val (.int p0), .val (.int p1), .val (.int p2), .val (.int p3), .val (.int (3 : Int32)), .val (.int (own_e0 p1)), .val (.int (own_e1 p1 p2)), .val (.int (own_e2 p1 p2 p3)), .val (.ref b300), .val (.ref b337), .val (.ref r384), .val (.int (1 : Int32)), .unset, .unset, .unset] [(.int (3 : Int32))])) _
        refine XS.ifNo X383.here hx rfl (hb hby at_153) rfl ((if0 _ _).trans (tlt (by decide : (0 : Int32) < (3 : Int32))).2.2.2) ?_
        exact kt
      obtain ⟨cl395, Ar395, S395, H395⟩ := id f388
      have hin395 : ¬ ((0 : Int32) < 0 ∨ cl395.slots.size ≤ ((0 : Int32)).toNatClampNeg) := own_inb S395 (by decide) (by decide)
      have hat395 : cl395.slots[((0 : Int32)).toNatClampNeg]? = some (.int (own_e0 p1)) := H395 _ (by decide)
      have pre396 : ∀ t, Steps p.tables e below (T383.setTop (mkF m 180 #[.val (.int p0), .val (.int p1), .val (.int p2), .val (.int p3), .val (.int (3 : Int32)), .val (.int (own_e0 p1)), .val (.int (own_e1 p1 p2)), .val (.int (own_e2 p1 p2 p3)), .val (.ref b300), .val (.ref b337), .val (.ref r384), .val (.int (1 : Int32)), .unset, .unset, .unset] [(.int (1 : Int32)), (.int (3 : Int32))])) t → Steps p.tables e below (s₁.setTop (entryFrame m #[(.int p0), (.int p1), (.int p2), (.int p3)] maxLocals)) t := by
        intro t kt
        refine pre394 t ?_
        show Steps p.tables e below (T383.setTop (mkF m 156 #[.val (.int p0), .val (.int p1), .val (.int p2), .val (.int p3), .val (.int (3 : Int32)), .val (.int (own_e0 p1)), .val (.int (own_e1 p1 p2)), .val (.int (own_e2 p1 p2 p3)), .val (.ref b300), .val (.ref b337), .val (.ref r384), .val (.int (1 : Int32)), .unset, .unset, .unset] [])) _
        refine XS.iload X383.here hx rfl (hb hby at_156) rfl ?_
        show Steps p.tables e below (T383.setTop (mkF m 158 #[.val (.int p0), .val (.int p1), .val (.int p2), .val (.int p3), .val (.int (3 : Int32)), .val (.int (own_e0 p1)), .val (.int (own_e1 p1 p2)), .val (.int (own_e2 p1 p2 p3)), .val (.ref b300), .val (.ref b337), .val (.ref r384), .val (.int (1 : Int32)), .unset, .unset, .unset] [(.int (1 : Int32))])) _
        refine XS.ifNo X383.here hx rfl (hb hby at_158) rfl ((if0 _ _).trans (feq (by decide : ¬ ((1 : Int32) = (0 : Int32)))).1) ?_
        show Steps p.tables e below (T383.setTop (mkF m 161 #[.val (.int p0), .val (.int p1), .val (.int p2), .val (.int p3), .val (.int (3 : Int32)), .val (.int (own_e0 p1)), .val (.int (own_e1 p1 p2)), .val (.int (own_e2 p1 p2 p3)), .val (.ref b300), .val (.ref b337), .val (.ref r384), .val (.int (1 : Int32)), .unset, .unset, .unset] [])) _
        refine XS.aload X383.here hx rfl (hb hby at_161) rfl rfl ?_
        show Steps p.tables e below (T383.setTop (mkF m 163 #[.val (.int p0), .val (.int p1), .val (.int p2), .val (.int p3), .val (.int (3 : Int32)), .val (.int (own_e0 p1)), .val (.int (own_e1 p1 p2)), .val (.int (own_e2 p1 p2 p3)), .val (.ref b300), .val (.ref b337), .val (.ref r384), .val (.int (1 : Int32)), .unset, .unset, .unset] [(.ref b300)])) _
        refine XS.iconst X383.here hx rfl (hb hby at_163) ?_
        show Steps p.tables e below (T383.setTop (mkF m 164 #[.val (.int p0), .val (.int p1), .val (.int p2), .val (.int p3), .val (.int (3 : Int32)), .val (.int (own_e0 p1)), .val (.int (own_e1 p1 p2)), .val (.int (own_e2 p1 p2 p3)), .val (.ref b300), .val (.ref b337), .val (.ref r384), .val (.int (1 : Int32)), .unset, .unset, .unset] [(.int (0 : Int32)), (.ref b300)])) _
        refine X383.iaload hx (j := (0 : Int32)) (v := (.int (own_e0 p1))) Ar395.1 (State.isArrayOf_alike hZ.alike Ar395.2.1) Ar395.2.2 hin395 hat395 (g := (mkF m 164 #[.val (.int p0), .val (.int p1), .val (.int p2), .val (.int p3), .val (.int (3 : Int32)), .val (.int (own_e0 p1)), .val (.int (own_e1 p1 p2)), .val (.int (own_e2 p1 p2 p3)), .val (.ref b300), .val (.ref b337), .val (.ref r384), .val (.int (1 : Int32)), .unset, .unset, .unset] [(.int (0 : Int32)), (.ref b300)])) rfl rfl (hb hby at_164) _ ?_
        show Steps p.tables e below (T383.setTop (mkF m 165 #[.val (.int p0), .val (.int p1), .val (.int p2), .val (.int p3), .val (.int (3 : Int32)), .val (.int (own_e0 p1)), .val (.int (own_e1 p1 p2)), .val (.int (own_e2 p1 p2 p3)), .val (.ref b300), .val (.ref b337), .val (.ref r384), .val (.int (1 : Int32)), .unset, .unset, .unset] [(.int (own_e0 p1))])) _
        refine XS.iload X383.here hx rfl (hb hby at_165) rfl ?_
        show Steps p.tables e below (T383.setTop (mkF m 167 #[.val (.int p0), .val (.int p1), .val (.int p2), .val (.int p3), .val (.int (3 : Int32)), .val (.int (own_e0 p1)), .val (.int (own_e1 p1 p2)), .val (.int (own_e2 p1 p2 p3)), .val (.ref b300), .val (.ref b337), .val (.ref r384), .val (.int (1 : Int32)), .unset, .unset, .unset] [(.int (own_e0 p1)), (.int (own_e0 p1))])) _
        refine XS.icmpNo X383.here hx rfl (hb hby at_167) rfl (teq (rfl : (own_e0 p1) = (own_e0 p1))).2 ?_
        show Steps p.tables e below (T383.setTop (mkF m 170 #[.val (.int p0), .val (.int p1), .val (.int p2), .val (.int p3), .val (.int (3 : Int32)), .val (.int (own_e0 p1)), .val (.int (own_e1 p1 p2)), .val (.int (own_e2 p1 p2 p3)), .val (.ref b300), .val (.ref b337), .val (.ref r384), .val (.int (1 : Int32)), .unset, .unset, .unset] [])) _
        refine XS.iconst X383.here hx rfl (hb hby at_170) ?_
        show Steps p.tables e below (T383.setTop (mkF m 171 #[.val (.int p0), .val (.int p1), .val (.int p2), .val (.int p3), .val (.int (3 : Int32)), .val (.int (own_e0 p1)), .val (.int (own_e1 p1 p2)), .val (.int (own_e2 p1 p2 p3)), .val (.ref b300), .val (.ref b337), .val (.ref r384), .val (.int (1 : Int32)), .unset, .unset, .unset] [(.int (1 : Int32))])) _
        refine XS.goto X383.here hx rfl (pc0 := 171) (pc' := 175) rfl (hb hby at_171) (by decide) (by decide) ?_
        show Steps p.tables e below (T383.setTop (mkF m 175 #[.val (.int p0), .val (.int p1), .val (.int p2), .val (.int p3), .val (.int (3 : Int32)), .val (.int (own_e0 p1)), .val (.int (own_e1 p1 p2)), .val (.int (own_e2 p1 p2 p3)), .val (.ref b300), .val (.ref b337), .val (.ref r384), .val (.int (1 : Int32)), .unset, .unset, .unset] [(.int (1 : Int32))])) _
        refine XS.istore X383.here hx rfl (hb hby at_175) rfl (l' := #[.val (.int p0), .val (.int p1), .val (.int p2), .val (.int p3), .val (.int (3 : Int32)), .val (.int (own_e0 p1)), .val (.int (own_e1 p1 p2)), .val (.int (own_e2 p1 p2 p3)), .val (.ref b300), .val (.ref b337), .val (.ref r384), .val (.int (1 : Int32)), .unset, .unset, .unset]) rfl ?_
        show Steps p.tables e below (T383.setTop (mkF m 177 #[.val (.int p0), .val (.int p1), .val (.int p2), .val (.int p3), .val (.int (3 : Int32)), .val (.int (own_e0 p1)), .val (.int (own_e1 p1 p2)), .val (.int (own_e2 p1 p2 p3)), .val (.ref b300), .val (.ref b337), .val (.ref r384), .val (.int (1 : Int32)), .unset, .unset, .unset] [])) _
        refine XS.iload X383.here hx rfl (hb hby at_177) rfl ?_
        show Steps p.tables e below (T383.setTop (mkF m 179 #[.val (.int p0), .val (.int p1), .val (.int p2), .val (.int p3), .val (.int (3 : Int32)), .val (.int (own_e0 p1)), .val (.int (own_e1 p1 p2)), .val (.int (own_e2 p1 p2 p3)), .val (.ref b300), .val (.ref b337), .val (.ref r384), .val (.int (1 : Int32)), .unset, .unset, .unset] [(.int (3 : Int32))])) _
        refine XS.iconst X383.here hx rfl (hb hby at_179) ?_
        exact kt
      obtain ⟨cl397, Ar397, S397, H397⟩ := id f388
      have hin397 : ¬ ((1 : Int32) < 0 ∨ cl397.slots.size ≤ ((1 : Int32)).toNatClampNeg) := own_inb S397 (by decide) (by decide)
      have hat397 : cl397.slots[((1 : Int32)).toNatClampNeg]? = some (.int (own_e1 p1 p2)) := H397 _ (by decide)
      have pre398 : ∀ t, Steps p.tables e below (T383.setTop (mkF m 206 #[.val (.int p0), .val (.int p1), .val (.int p2), .val (.int p3), .val (.int (3 : Int32)), .val (.int (own_e0 p1)), .val (.int (own_e1 p1 p2)), .val (.int (own_e2 p1 p2 p3)), .val (.ref b300), .val (.ref b337), .val (.ref r384), .val (.int (1 : Int32)), .unset, .unset, .unset] [(.int (3 : Int32))])) t → Steps p.tables e below (s₁.setTop (entryFrame m #[(.int p0), (.int p1), (.int p2), (.int p3)] maxLocals)) t := by
        intro t kt
        refine pre396 t ?_
        show Steps p.tables e below (T383.setTop (mkF m 180 #[.val (.int p0), .val (.int p1), .val (.int p2), .val (.int p3), .val (.int (3 : Int32)), .val (.int (own_e0 p1)), .val (.int (own_e1 p1 p2)), .val (.int (own_e2 p1 p2 p3)), .val (.ref b300), .val (.ref b337), .val (.ref r384), .val (.int (1 : Int32)), .unset, .unset, .unset] [(.int (1 : Int32)), (.int (3 : Int32))])) _
        refine XS.icmpNo X383.here hx rfl (hb hby at_180) rfl (tlt (by decide : (1 : Int32) < (3 : Int32))).2.2.2 ?_
        show Steps p.tables e below (T383.setTop (mkF m 183 #[.val (.int p0), .val (.int p1), .val (.int p2), .val (.int p3), .val (.int (3 : Int32)), .val (.int (own_e0 p1)), .val (.int (own_e1 p1 p2)), .val (.int (own_e2 p1 p2 p3)), .val (.ref b300), .val (.ref b337), .val (.ref r384), .val (.int (1 : Int32)), .unset, .unset, .unset] [])) _
        refine XS.iload X383.here hx rfl (hb hby at_183) rfl ?_
        show Steps p.tables e below (T383.setTop (mkF m 185 #[.val (.int p0), .val (.int p1), .val (.int p2), .val (.int p3), .val (.int (3 : Int32)), .val (.int (own_e0 p1)), .val (.int (own_e1 p1 p2)), .val (.int (own_e2 p1 p2 p3)), .val (.ref b300), .val (.ref b337), .val (.ref r384), .val (.int (1 : Int32)), .unset, .unset, .unset] [(.int (1 : Int32))])) _
        refine XS.ifNo X383.here hx rfl (hb hby at_185) rfl ((if0 _ _).trans (feq (by decide : ¬ ((1 : Int32) = (0 : Int32)))).1) ?_
        show Steps p.tables e below (T383.setTop (mkF m 188 #[.val (.int p0), .val (.int p1), .val (.int p2), .val (.int p3), .val (.int (3 : Int32)), .val (.int (own_e0 p1)), .val (.int (own_e1 p1 p2)), .val (.int (own_e2 p1 p2 p3)), .val (.ref b300), .val (.ref b337), .val (.ref r384), .val (.int (1 : Int32)), .unset, .unset, .unset] [])) _
        refine XS.aload X383.here hx rfl (hb hby at_188) rfl rfl ?_
        show Steps p.tables e below (T383.setTop (mkF m 190 #[.val (.int p0), .val (.int p1), .val (.int p2), .val (.int p3), .val (.int (3 : Int32)), .val (.int (own_e0 p1)), .val (.int (own_e1 p1 p2)), .val (.int (own_e2 p1 p2 p3)), .val (.ref b300), .val (.ref b337), .val (.ref r384), .val (.int (1 : Int32)), .unset, .unset, .unset] [(.ref b300)])) _
        refine XS.iconst X383.here hx rfl (hb hby at_190) ?_
        show Steps p.tables e below (T383.setTop (mkF m 191 #[.val (.int p0), .val (.int p1), .val (.int p2), .val (.int p3), .val (.int (3 : Int32)), .val (.int (own_e0 p1)), .val (.int (own_e1 p1 p2)), .val (.int (own_e2 p1 p2 p3)), .val (.ref b300), .val (.ref b337), .val (.ref r384), .val (.int (1 : Int32)), .unset, .unset, .unset] [(.int (1 : Int32)), (.ref b300)])) _
        refine X383.iaload hx (j := (1 : Int32)) (v := (.int (own_e1 p1 p2))) Ar397.1 (State.isArrayOf_alike hZ.alike Ar397.2.1) Ar397.2.2 hin397 hat397 (g := (mkF m 191 #[.val (.int p0), .val (.int p1), .val (.int p2), .val (.int p3), .val (.int (3 : Int32)), .val (.int (own_e0 p1)), .val (.int (own_e1 p1 p2)), .val (.int (own_e2 p1 p2 p3)), .val (.ref b300), .val (.ref b337), .val (.ref r384), .val (.int (1 : Int32)), .unset, .unset, .unset] [(.int (1 : Int32)), (.ref b300)])) rfl rfl (hb hby at_191) _ ?_
        show Steps p.tables e below (T383.setTop (mkF m 192 #[.val (.int p0), .val (.int p1), .val (.int p2), .val (.int p3), .val (.int (3 : Int32)), .val (.int (own_e0 p1)), .val (.int (own_e1 p1 p2)), .val (.int (own_e2 p1 p2 p3)), .val (.ref b300), .val (.ref b337), .val (.ref r384), .val (.int (1 : Int32)), .unset, .unset, .unset] [(.int (own_e1 p1 p2))])) _
        refine XS.iload X383.here hx rfl (hb hby at_192) rfl ?_
        show Steps p.tables e below (T383.setTop (mkF m 194 #[.val (.int p0), .val (.int p1), .val (.int p2), .val (.int p3), .val (.int (3 : Int32)), .val (.int (own_e0 p1)), .val (.int (own_e1 p1 p2)), .val (.int (own_e2 p1 p2 p3)), .val (.ref b300), .val (.ref b337), .val (.ref r384), .val (.int (1 : Int32)), .unset, .unset, .unset] [(.int (own_e1 p1 p2)), (.int (own_e1 p1 p2))])) _
        refine XS.icmpNo X383.here hx rfl (hb hby at_194) rfl (teq (rfl : (own_e1 p1 p2) = (own_e1 p1 p2))).2 ?_
        show Steps p.tables e below (T383.setTop (mkF m 197 #[.val (.int p0), .val (.int p1), .val (.int p2), .val (.int p3), .val (.int (3 : Int32)), .val (.int (own_e0 p1)), .val (.int (own_e1 p1 p2)), .val (.int (own_e2 p1 p2 p3)), .val (.ref b300), .val (.ref b337), .val (.ref r384), .val (.int (1 : Int32)), .unset, .unset, .unset] [])) _
        refine XS.iconst X383.here hx rfl (hb hby at_197) ?_
        show Steps p.tables e below (T383.setTop (mkF m 198 #[.val (.int p0), .val (.int p1), .val (.int p2), .val (.int p3), .val (.int (3 : Int32)), .val (.int (own_e0 p1)), .val (.int (own_e1 p1 p2)), .val (.int (own_e2 p1 p2 p3)), .val (.ref b300), .val (.ref b337), .val (.ref r384), .val (.int (1 : Int32)), .unset, .unset, .unset] [(.int (1 : Int32))])) _
        refine XS.goto X383.here hx rfl (pc0 := 198) (pc' := 202) rfl (hb hby at_198) (by decide) (by decide) ?_
        show Steps p.tables e below (T383.setTop (mkF m 202 #[.val (.int p0), .val (.int p1), .val (.int p2), .val (.int p3), .val (.int (3 : Int32)), .val (.int (own_e0 p1)), .val (.int (own_e1 p1 p2)), .val (.int (own_e2 p1 p2 p3)), .val (.ref b300), .val (.ref b337), .val (.ref r384), .val (.int (1 : Int32)), .unset, .unset, .unset] [(.int (1 : Int32))])) _
        refine XS.istore X383.here hx rfl (hb hby at_202) rfl (l' := #[.val (.int p0), .val (.int p1), .val (.int p2), .val (.int p3), .val (.int (3 : Int32)), .val (.int (own_e0 p1)), .val (.int (own_e1 p1 p2)), .val (.int (own_e2 p1 p2 p3)), .val (.ref b300), .val (.ref b337), .val (.ref r384), .val (.int (1 : Int32)), .unset, .unset, .unset]) rfl ?_
        show Steps p.tables e below (T383.setTop (mkF m 204 #[.val (.int p0), .val (.int p1), .val (.int p2), .val (.int p3), .val (.int (3 : Int32)), .val (.int (own_e0 p1)), .val (.int (own_e1 p1 p2)), .val (.int (own_e2 p1 p2 p3)), .val (.ref b300), .val (.ref b337), .val (.ref r384), .val (.int (1 : Int32)), .unset, .unset, .unset] [])) _
        refine XS.iload X383.here hx rfl (hb hby at_204) rfl ?_
        exact kt
      obtain ⟨cl399, Ar399, S399, H399⟩ := id f388
      have hin399 : ¬ ((2 : Int32) < 0 ∨ cl399.slots.size ≤ ((2 : Int32)).toNatClampNeg) := own_inb S399 (by decide) (by decide)
      have hat399 : cl399.slots[((2 : Int32)).toNatClampNeg]? = some (.int (own_e2 p1 p2 p3)) := H399 _ (by decide)
      have pre400 : ∀ t, Steps p.tables e below (T383.setTop (mkF m 231 #[.val (.int p0), .val (.int p1), .val (.int p2), .val (.int p3), .val (.int (3 : Int32)), .val (.int (own_e0 p1)), .val (.int (own_e1 p1 p2)), .val (.int (own_e2 p1 p2 p3)), .val (.ref b300), .val (.ref b337), .val (.ref r384), .val (.int (1 : Int32)), .unset, .unset, .unset] [])) t → Steps p.tables e below (s₁.setTop (entryFrame m #[(.int p0), (.int p1), (.int p2), (.int p3)] maxLocals)) t := by
        intro t kt
        refine pre398 t ?_
        show Steps p.tables e below (T383.setTop (mkF m 206 #[.val (.int p0), .val (.int p1), .val (.int p2), .val (.int p3), .val (.int (3 : Int32)), .val (.int (own_e0 p1)), .val (.int (own_e1 p1 p2)), .val (.int (own_e2 p1 p2 p3)), .val (.ref b300), .val (.ref b337), .val (.ref r384), .val (.int (1 : Int32)), .unset, .unset, .unset] [(.int (3 : Int32))])) _
        refine XS.iconst X383.here hx rfl (hb hby at_206) ?_
        show Steps p.tables e below (T383.setTop (mkF m 207 #[.val (.int p0), .val (.int p1), .val (.int p2), .val (.int p3), .val (.int (3 : Int32)), .val (.int (own_e0 p1)), .val (.int (own_e1 p1 p2)), .val (.int (own_e2 p1 p2 p3)), .val (.ref b300), .val (.ref b337), .val (.ref r384), .val (.int (1 : Int32)), .unset, .unset, .unset] [(.int (2 : Int32)), (.int (3 : Int32))])) _
        refine XS.icmpNo X383.here hx rfl (hb hby at_207) rfl (tlt (by decide : (2 : Int32) < (3 : Int32))).2.2.2 ?_
        show Steps p.tables e below (T383.setTop (mkF m 210 #[.val (.int p0), .val (.int p1), .val (.int p2), .val (.int p3), .val (.int (3 : Int32)), .val (.int (own_e0 p1)), .val (.int (own_e1 p1 p2)), .val (.int (own_e2 p1 p2 p3)), .val (.ref b300), .val (.ref b337), .val (.ref r384), .val (.int (1 : Int32)), .unset, .unset, .unset] [])) _
        refine XS.iload X383.here hx rfl (hb hby at_210) rfl ?_
        show Steps p.tables e below (T383.setTop (mkF m 212 #[.val (.int p0), .val (.int p1), .val (.int p2), .val (.int p3), .val (.int (3 : Int32)), .val (.int (own_e0 p1)), .val (.int (own_e1 p1 p2)), .val (.int (own_e2 p1 p2 p3)), .val (.ref b300), .val (.ref b337), .val (.ref r384), .val (.int (1 : Int32)), .unset, .unset, .unset] [(.int (1 : Int32))])) _
        refine XS.ifNo X383.here hx rfl (hb hby at_212) rfl ((if0 _ _).trans (feq (by decide : ¬ ((1 : Int32) = (0 : Int32)))).1) ?_
        show Steps p.tables e below (T383.setTop (mkF m 215 #[.val (.int p0), .val (.int p1), .val (.int p2), .val (.int p3), .val (.int (3 : Int32)), .val (.int (own_e0 p1)), .val (.int (own_e1 p1 p2)), .val (.int (own_e2 p1 p2 p3)), .val (.ref b300), .val (.ref b337), .val (.ref r384), .val (.int (1 : Int32)), .unset, .unset, .unset] [])) _
        refine XS.aload X383.here hx rfl (hb hby at_215) rfl rfl ?_
        show Steps p.tables e below (T383.setTop (mkF m 217 #[.val (.int p0), .val (.int p1), .val (.int p2), .val (.int p3), .val (.int (3 : Int32)), .val (.int (own_e0 p1)), .val (.int (own_e1 p1 p2)), .val (.int (own_e2 p1 p2 p3)), .val (.ref b300), .val (.ref b337), .val (.ref r384), .val (.int (1 : Int32)), .unset, .unset, .unset] [(.ref b300)])) _
        refine XS.iconst X383.here hx rfl (hb hby at_217) ?_
        show Steps p.tables e below (T383.setTop (mkF m 218 #[.val (.int p0), .val (.int p1), .val (.int p2), .val (.int p3), .val (.int (3 : Int32)), .val (.int (own_e0 p1)), .val (.int (own_e1 p1 p2)), .val (.int (own_e2 p1 p2 p3)), .val (.ref b300), .val (.ref b337), .val (.ref r384), .val (.int (1 : Int32)), .unset, .unset, .unset] [(.int (2 : Int32)), (.ref b300)])) _
        refine X383.iaload hx (j := (2 : Int32)) (v := (.int (own_e2 p1 p2 p3))) Ar399.1 (State.isArrayOf_alike hZ.alike Ar399.2.1) Ar399.2.2 hin399 hat399 (g := (mkF m 218 #[.val (.int p0), .val (.int p1), .val (.int p2), .val (.int p3), .val (.int (3 : Int32)), .val (.int (own_e0 p1)), .val (.int (own_e1 p1 p2)), .val (.int (own_e2 p1 p2 p3)), .val (.ref b300), .val (.ref b337), .val (.ref r384), .val (.int (1 : Int32)), .unset, .unset, .unset] [(.int (2 : Int32)), (.ref b300)])) rfl rfl (hb hby at_218) _ ?_
        show Steps p.tables e below (T383.setTop (mkF m 219 #[.val (.int p0), .val (.int p1), .val (.int p2), .val (.int p3), .val (.int (3 : Int32)), .val (.int (own_e0 p1)), .val (.int (own_e1 p1 p2)), .val (.int (own_e2 p1 p2 p3)), .val (.ref b300), .val (.ref b337), .val (.ref r384), .val (.int (1 : Int32)), .unset, .unset, .unset] [(.int (own_e2 p1 p2 p3))])) _
        refine XS.iload X383.here hx rfl (hb hby at_219) rfl ?_
        show Steps p.tables e below (T383.setTop (mkF m 221 #[.val (.int p0), .val (.int p1), .val (.int p2), .val (.int p3), .val (.int (3 : Int32)), .val (.int (own_e0 p1)), .val (.int (own_e1 p1 p2)), .val (.int (own_e2 p1 p2 p3)), .val (.ref b300), .val (.ref b337), .val (.ref r384), .val (.int (1 : Int32)), .unset, .unset, .unset] [(.int (own_e2 p1 p2 p3)), (.int (own_e2 p1 p2 p3))])) _
        refine XS.icmpNo X383.here hx rfl (hb hby at_221) rfl (teq (rfl : (own_e2 p1 p2 p3) = (own_e2 p1 p2 p3))).2 ?_
        show Steps p.tables e below (T383.setTop (mkF m 224 #[.val (.int p0), .val (.int p1), .val (.int p2), .val (.int p3), .val (.int (3 : Int32)), .val (.int (own_e0 p1)), .val (.int (own_e1 p1 p2)), .val (.int (own_e2 p1 p2 p3)), .val (.ref b300), .val (.ref b337), .val (.ref r384), .val (.int (1 : Int32)), .unset, .unset, .unset] [])) _
        refine XS.iconst X383.here hx rfl (hb hby at_224) ?_
        show Steps p.tables e below (T383.setTop (mkF m 225 #[.val (.int p0), .val (.int p1), .val (.int p2), .val (.int p3), .val (.int (3 : Int32)), .val (.int (own_e0 p1)), .val (.int (own_e1 p1 p2)), .val (.int (own_e2 p1 p2 p3)), .val (.ref b300), .val (.ref b337), .val (.ref r384), .val (.int (1 : Int32)), .unset, .unset, .unset] [(.int (1 : Int32))])) _
        refine XS.goto X383.here hx rfl (pc0 := 225) (pc' := 229) rfl (hb hby at_225) (by decide) (by decide) ?_
        show Steps p.tables e below (T383.setTop (mkF m 229 #[.val (.int p0), .val (.int p1), .val (.int p2), .val (.int p3), .val (.int (3 : Int32)), .val (.int (own_e0 p1)), .val (.int (own_e1 p1 p2)), .val (.int (own_e2 p1 p2 p3)), .val (.ref b300), .val (.ref b337), .val (.ref r384), .val (.int (1 : Int32)), .unset, .unset, .unset] [(.int (1 : Int32))])) _
        refine XS.istore X383.here hx rfl (hb hby at_229) rfl (l' := #[.val (.int p0), .val (.int p1), .val (.int p2), .val (.int p3), .val (.int (3 : Int32)), .val (.int (own_e0 p1)), .val (.int (own_e1 p1 p2)), .val (.int (own_e2 p1 p2 p3)), .val (.ref b300), .val (.ref b337), .val (.ref r384), .val (.int (1 : Int32)), .unset, .unset, .unset]) rfl ?_
        exact kt
      have pre401 : ∀ t, Steps p.tables e below (T383.setTop (mkF m 260 #[.val (.int p0), .val (.int p1), .val (.int p2), .val (.int p3), .val (.int (3 : Int32)), .val (.int (own_e0 p1)), .val (.int (own_e1 p1 p2)), .val (.int (own_e2 p1 p2 p3)), .val (.ref b300), .val (.ref b337), .val (.ref r384), .val (.int (1 : Int32)), .val (.int (1 : Int32)), .val (.int (1 : Int32)), .unset] [])) t → Steps p.tables e below (s₁.setTop (entryFrame m #[(.int p0), (.int p1), (.int p2), (.int p3)] maxLocals)) t := by
        intro t kt
        refine pre400 t ?_
        show Steps p.tables e below (T383.setTop (mkF m 231 #[.val (.int p0), .val (.int p1), .val (.int p2), .val (.int p3), .val (.int (3 : Int32)), .val (.int (own_e0 p1)), .val (.int (own_e1 p1 p2)), .val (.int (own_e2 p1 p2 p3)), .val (.ref b300), .val (.ref b337), .val (.ref r384), .val (.int (1 : Int32)), .unset, .unset, .unset] [])) _
        refine XS.iload X383.here hx rfl (hb hby at_231) rfl ?_
        show Steps p.tables e below (T383.setTop (mkF m 233 #[.val (.int p0), .val (.int p1), .val (.int p2), .val (.int p3), .val (.int (3 : Int32)), .val (.int (own_e0 p1)), .val (.int (own_e1 p1 p2)), .val (.int (own_e2 p1 p2 p3)), .val (.ref b300), .val (.ref b337), .val (.ref r384), .val (.int (1 : Int32)), .unset, .unset, .unset] [(.int (3 : Int32))])) _
        refine XS.ifNo X383.here hx rfl (hb hby at_233) rfl ((if0 _ _).trans (tlt (by decide : (0 : Int32) < (3 : Int32))).2.2.2) ?_
        show Steps p.tables e below (T383.setTop (mkF m 236 #[.val (.int p0), .val (.int p1), .val (.int p2), .val (.int p3), .val (.int (3 : Int32)), .val (.int (own_e0 p1)), .val (.int (own_e1 p1 p2)), .val (.int (own_e2 p1 p2 p3)), .val (.ref b300), .val (.ref b337), .val (.ref r384), .val (.int (1 : Int32)), .unset, .unset, .unset] [])) _
        refine XS.iload X383.here hx rfl (hb hby at_236) rfl ?_
        show Steps p.tables e below (T383.setTop (mkF m 238 #[.val (.int p0), .val (.int p1), .val (.int p2), .val (.int p3), .val (.int (3 : Int32)), .val (.int (own_e0 p1)), .val (.int (own_e1 p1 p2)), .val (.int (own_e2 p1 p2 p3)), .val (.ref b300), .val (.ref b337), .val (.ref r384), .val (.int (1 : Int32)), .unset, .unset, .unset] [(.int (own_e0 p1))])) _
        refine XS.ifNo X383.here hx rfl (hb hby at_238) rfl ((if0 _ _).trans (teq hz0).2) ?_
        show Steps p.tables e below (T383.setTop (mkF m 241 #[.val (.int p0), .val (.int p1), .val (.int p2), .val (.int p3), .val (.int (3 : Int32)), .val (.int (own_e0 p1)), .val (.int (own_e1 p1 p2)), .val (.int (own_e2 p1 p2 p3)), .val (.ref b300), .val (.ref b337), .val (.ref r384), .val (.int (1 : Int32)), .unset, .unset, .unset] [])) _
        refine XS.iconst X383.here hx rfl (hb hby at_241) ?_
        show Steps p.tables e below (T383.setTop (mkF m 242 #[.val (.int p0), .val (.int p1), .val (.int p2), .val (.int p3), .val (.int (3 : Int32)), .val (.int (own_e0 p1)), .val (.int (own_e1 p1 p2)), .val (.int (own_e2 p1 p2 p3)), .val (.ref b300), .val (.ref b337), .val (.ref r384), .val (.int (1 : Int32)), .unset, .unset, .unset] [(.int (1 : Int32))])) _
        refine XS.goto X383.here hx rfl (pc0 := 242) (pc' := 246) rfl (hb hby at_242) (by decide) (by decide) ?_
        show Steps p.tables e below (T383.setTop (mkF m 246 #[.val (.int p0), .val (.int p1), .val (.int p2), .val (.int p3), .val (.int (3 : Int32)), .val (.int (own_e0 p1)), .val (.int (own_e1 p1 p2)), .val (.int (own_e2 p1 p2 p3)), .val (.ref b300), .val (.ref b337), .val (.ref r384), .val (.int (1 : Int32)), .unset, .unset, .unset] [(.int (1 : Int32))])) _
        refine XS.istore X383.here hx rfl (hb hby at_246) rfl (l' := #[.val (.int p0), .val (.int p1), .val (.int p2), .val (.int p3), .val (.int (3 : Int32)), .val (.int (own_e0 p1)), .val (.int (own_e1 p1 p2)), .val (.int (own_e2 p1 p2 p3)), .val (.ref b300), .val (.ref b337), .val (.ref r384), .val (.int (1 : Int32)), .val (.int (1 : Int32)), .unset, .unset]) rfl ?_
        show Steps p.tables e below (T383.setTop (mkF m 248 #[.val (.int p0), .val (.int p1), .val (.int p2), .val (.int p3), .val (.int (3 : Int32)), .val (.int (own_e0 p1)), .val (.int (own_e1 p1 p2)), .val (.int (own_e2 p1 p2 p3)), .val (.ref b300), .val (.ref b337), .val (.ref r384), .val (.int (1 : Int32)), .val (.int (1 : Int32)), .unset, .unset] [])) _
        refine XS.iload X383.here hx rfl (hb hby at_248) rfl ?_
        show Steps p.tables e below (T383.setTop (mkF m 250 #[.val (.int p0), .val (.int p1), .val (.int p2), .val (.int p3), .val (.int (3 : Int32)), .val (.int (own_e0 p1)), .val (.int (own_e1 p1 p2)), .val (.int (own_e2 p1 p2 p3)), .val (.ref b300), .val (.ref b337), .val (.ref r384), .val (.int (1 : Int32)), .val (.int (1 : Int32)), .unset, .unset] [(.int (1 : Int32))])) _
        refine XS.ifNo X383.here hx rfl (hb hby at_250) rfl ((if0 _ _).trans (feq (by decide : ¬ ((1 : Int32) = (0 : Int32)))).1) ?_
        show Steps p.tables e below (T383.setTop (mkF m 253 #[.val (.int p0), .val (.int p1), .val (.int p2), .val (.int p3), .val (.int (3 : Int32)), .val (.int (own_e0 p1)), .val (.int (own_e1 p1 p2)), .val (.int (own_e2 p1 p2 p3)), .val (.ref b300), .val (.ref b337), .val (.ref r384), .val (.int (1 : Int32)), .val (.int (1 : Int32)), .unset, .unset] [])) _
        refine XS.iconst X383.here hx rfl (hb hby at_253) ?_
        show Steps p.tables e below (T383.setTop (mkF m 254 #[.val (.int p0), .val (.int p1), .val (.int p2), .val (.int p3), .val (.int (3 : Int32)), .val (.int (own_e0 p1)), .val (.int (own_e1 p1 p2)), .val (.int (own_e2 p1 p2 p3)), .val (.ref b300), .val (.ref b337), .val (.ref r384), .val (.int (1 : Int32)), .val (.int (1 : Int32)), .unset, .unset] [(.int (1 : Int32))])) _
        refine XS.goto X383.here hx rfl (pc0 := 254) (pc' := 258) rfl (hb hby at_254) (by decide) (by decide) ?_
        show Steps p.tables e below (T383.setTop (mkF m 258 #[.val (.int p0), .val (.int p1), .val (.int p2), .val (.int p3), .val (.int (3 : Int32)), .val (.int (own_e0 p1)), .val (.int (own_e1 p1 p2)), .val (.int (own_e2 p1 p2 p3)), .val (.ref b300), .val (.ref b337), .val (.ref r384), .val (.int (1 : Int32)), .val (.int (1 : Int32)), .unset, .unset] [(.int (1 : Int32))])) _
        refine XS.istore X383.here hx rfl (hb hby at_258) rfl (l' := #[.val (.int p0), .val (.int p1), .val (.int p2), .val (.int p3), .val (.int (3 : Int32)), .val (.int (own_e0 p1)), .val (.int (own_e1 p1 p2)), .val (.int (own_e2 p1 p2 p3)), .val (.ref b300), .val (.ref b337), .val (.ref r384), .val (.int (1 : Int32)), .val (.int (1 : Int32)), .val (.int (1 : Int32)), .unset]) rfl ?_
        exact kt
      obtain ⟨cl402, Ar402, S402, -⟩ := id c384_1
      have pre403 : ∀ t, Steps p.tables e below (T383.setTop (mkF m 287 #[.val (.int p0), .val (.int p1), .val (.int p2), .val (.int p3), .val (.int (3 : Int32)), .val (.int (own_e0 p1)), .val (.int (own_e1 p1 p2)), .val (.int (own_e2 p1 p2 p3)), .val (.ref b300), .val (.ref b337), .val (.ref r384), .val (.int (1 : Int32)), .val (.int (1 : Int32)), .val (.int (1 : Int32)), .val (.int (2 : Int32))] [])) t → Steps p.tables e below (s₁.setTop (entryFrame m #[(.int p0), (.int p1), (.int p2), (.int p3)] maxLocals)) t := by
        intro t kt
        refine pre401 t ?_
        show Steps p.tables e below (T383.setTop (mkF m 260 #[.val (.int p0), .val (.int p1), .val (.int p2), .val (.int p3), .val (.int (3 : Int32)), .val (.int (own_e0 p1)), .val (.int (own_e1 p1 p2)), .val (.int (own_e2 p1 p2 p3)), .val (.ref b300), .val (.ref b337), .val (.ref r384), .val (.int (1 : Int32)), .val (.int (1 : Int32)), .val (.int (1 : Int32)), .unset] [])) _
        refine XS.iload X383.here hx rfl (hb hby at_260) rfl ?_
        show Steps p.tables e below (T383.setTop (mkF m 262 #[.val (.int p0), .val (.int p1), .val (.int p2), .val (.int p3), .val (.int (3 : Int32)), .val (.int (own_e0 p1)), .val (.int (own_e1 p1 p2)), .val (.int (own_e2 p1 p2 p3)), .val (.ref b300), .val (.ref b337), .val (.ref r384), .val (.int (1 : Int32)), .val (.int (1 : Int32)), .val (.int (1 : Int32)), .unset] [(.int (3 : Int32))])) _
        refine XS.iload X383.here hx rfl (hb hby at_262) rfl ?_
        show Steps p.tables e below (T383.setTop (mkF m 264 #[.val (.int p0), .val (.int p1), .val (.int p2), .val (.int p3), .val (.int (3 : Int32)), .val (.int (own_e0 p1)), .val (.int (own_e1 p1 p2)), .val (.int (own_e2 p1 p2 p3)), .val (.ref b300), .val (.ref b337), .val (.ref r384), .val (.int (1 : Int32)), .val (.int (1 : Int32)), .val (.int (1 : Int32)), .unset] [(.int (1 : Int32)), (.int (3 : Int32))])) _
        refine XS.isub X383.here hx rfl (hb hby at_264) rfl ?_
        show Steps p.tables e below (T383.setTop (mkF m 265 #[.val (.int p0), .val (.int p1), .val (.int p2), .val (.int p3), .val (.int (3 : Int32)), .val (.int (own_e0 p1)), .val (.int (own_e1 p1 p2)), .val (.int (own_e2 p1 p2 p3)), .val (.ref b300), .val (.ref b337), .val (.ref r384), .val (.int (1 : Int32)), .val (.int (1 : Int32)), .val (.int (1 : Int32)), .unset] [(.int (2 : Int32))])) _
        refine XS.istore X383.here hx rfl (hb hby at_265) rfl (l' := #[.val (.int p0), .val (.int p1), .val (.int p2), .val (.int p3), .val (.int (3 : Int32)), .val (.int (own_e0 p1)), .val (.int (own_e1 p1 p2)), .val (.int (own_e2 p1 p2 p3)), .val (.ref b300), .val (.ref b337), .val (.ref r384), .val (.int (1 : Int32)), .val (.int (1 : Int32)), .val (.int (1 : Int32)), .val (.int (2 : Int32))]) rfl ?_
        show Steps p.tables e below (T383.setTop (mkF m 267 #[.val (.int p0), .val (.int p1), .val (.int p2), .val (.int p3), .val (.int (3 : Int32)), .val (.int (own_e0 p1)), .val (.int (own_e1 p1 p2)), .val (.int (own_e2 p1 p2 p3)), .val (.ref b300), .val (.ref b337), .val (.ref r384), .val (.int (1 : Int32)), .val (.int (1 : Int32)), .val (.int (1 : Int32)), .val (.int (2 : Int32))] [])) _
        refine XS.aload X383.here hx rfl (hb hby at_267) rfl rfl ?_
        show Steps p.tables e below (T383.setTop (mkF m 269 #[.val (.int p0), .val (.int p1), .val (.int p2), .val (.int p3), .val (.int (3 : Int32)), .val (.int (own_e0 p1)), .val (.int (own_e1 p1 p2)), .val (.int (own_e2 p1 p2 p3)), .val (.ref b300), .val (.ref b337), .val (.ref r384), .val (.int (1 : Int32)), .val (.int (1 : Int32)), .val (.int (1 : Int32)), .val (.int (2 : Int32))] [(.ref r384)])) _
        refine XS.ifnullNo X383.here hx rfl (hb hby at_269) rfl ?_
        show Steps p.tables e below (T383.setTop (mkF m 272 #[.val (.int p0), .val (.int p1), .val (.int p2), .val (.int p3), .val (.int (3 : Int32)), .val (.int (own_e0 p1)), .val (.int (own_e1 p1 p2)), .val (.int (own_e2 p1 p2 p3)), .val (.ref b300), .val (.ref b337), .val (.ref r384), .val (.int (1 : Int32)), .val (.int (1 : Int32)), .val (.int (1 : Int32)), .val (.int (2 : Int32))] [])) _
        refine XS.aload X383.here hx rfl (hb hby at_272) rfl rfl ?_
        show Steps p.tables e below (T383.setTop (mkF m 274 #[.val (.int p0), .val (.int p1), .val (.int p2), .val (.int p3), .val (.int (3 : Int32)), .val (.int (own_e0 p1)), .val (.int (own_e1 p1 p2)), .val (.int (own_e2 p1 p2 p3)), .val (.ref b300), .val (.ref b337), .val (.ref r384), .val (.int (1 : Int32)), .val (.int (1 : Int32)), .val (.int (1 : Int32)), .val (.int (2 : Int32))] [(.ref r384)])) _
        refine X383.arraylength hx Ar402.1 (State.isArrayOf_alike hZ.alike Ar402.2.1) (g := (mkF m 274 #[.val (.int p0), .val (.int p1), .val (.int p2), .val (.int p3), .val (.int (3 : Int32)), .val (.int (own_e0 p1)), .val (.int (own_e1 p1 p2)), .val (.int (own_e2 p1 p2 p3)), .val (.ref b300), .val (.ref b337), .val (.ref r384), .val (.int (1 : Int32)), .val (.int (1 : Int32)), .val (.int (1 : Int32)), .val (.int (2 : Int32))] [(.ref r384)])) rfl rfl (hb hby at_274) _ ?_
        rw [own_len (z := (2 : Int32)) S402 rfl]
        show Steps p.tables e below (T383.setTop (mkF m 275 #[.val (.int p0), .val (.int p1), .val (.int p2), .val (.int p3), .val (.int (3 : Int32)), .val (.int (own_e0 p1)), .val (.int (own_e1 p1 p2)), .val (.int (own_e2 p1 p2 p3)), .val (.ref b300), .val (.ref b337), .val (.ref r384), .val (.int (1 : Int32)), .val (.int (1 : Int32)), .val (.int (1 : Int32)), .val (.int (2 : Int32))] [(.int (2 : Int32))])) _
        refine XS.iload X383.here hx rfl (hb hby at_275) rfl ?_
        show Steps p.tables e below (T383.setTop (mkF m 277 #[.val (.int p0), .val (.int p1), .val (.int p2), .val (.int p3), .val (.int (3 : Int32)), .val (.int (own_e0 p1)), .val (.int (own_e1 p1 p2)), .val (.int (own_e2 p1 p2 p3)), .val (.ref b300), .val (.ref b337), .val (.ref r384), .val (.int (1 : Int32)), .val (.int (1 : Int32)), .val (.int (1 : Int32)), .val (.int (2 : Int32))] [(.int (2 : Int32)), (.int (2 : Int32))])) _
        refine XS.icmpYes X383.here hx rfl (pc0 := 277) (pc' := 282) rfl (hb hby at_277) rfl (teq (rfl : (2 : Int32) = (2 : Int32))).1 (by decide) (by decide) ?_
        show Steps p.tables e below (T383.setTop (mkF m 282 #[.val (.int p0), .val (.int p1), .val (.int p2), .val (.int p3), .val (.int (3 : Int32)), .val (.int (own_e0 p1)), .val (.int (own_e1 p1 p2)), .val (.int (own_e2 p1 p2 p3)), .val (.ref b300), .val (.ref b337), .val (.ref r384), .val (.int (1 : Int32)), .val (.int (1 : Int32)), .val (.int (1 : Int32)), .val (.int (2 : Int32))] [])) _
        refine XS.iload X383.here hx rfl (hb hby at_282) rfl ?_
        show Steps p.tables e below (T383.setTop (mkF m 284 #[.val (.int p0), .val (.int p1), .val (.int p2), .val (.int p3), .val (.int (3 : Int32)), .val (.int (own_e0 p1)), .val (.int (own_e1 p1 p2)), .val (.int (own_e2 p1 p2 p3)), .val (.ref b300), .val (.ref b337), .val (.ref r384), .val (.int (1 : Int32)), .val (.int (1 : Int32)), .val (.int (1 : Int32)), .val (.int (2 : Int32))] [(.int (2 : Int32))])) _
        refine XS.ifNo X383.here hx rfl (hb hby at_284) rfl ((if0 _ _).trans (tlt (by decide : (0 : Int32) < (2 : Int32))).2.2.2) ?_
        exact kt
      obtain ⟨cl404, Ar404, S404, H404⟩ := id c384_1
      have hin404 : ¬ ((0 : Int32) < 0 ∨ cl404.slots.size ≤ ((0 : Int32)).toNatClampNeg) := own_inb S404 (by decide) (by decide)
      have hat404 : cl404.slots[((0 : Int32)).toNatClampNeg]? = some (.int ((own_e1 p1 p2) - (1 : Int32))) := H404 _ (by decide)
      obtain ⟨cl405, Ar405, S405, H405⟩ := id f390
      have hin405 : ¬ ((1 : Int32) < 0 ∨ cl405.slots.size ≤ ((1 : Int32)).toNatClampNeg) := own_inb S405 (by decide) (by decide)
      have hat405 : cl405.slots[((1 : Int32)).toNatClampNeg]? = some (.int (own_e1 p1 p2)) := H405 _ (by decide)
      have pre406 : ∀ t, Steps p.tables e below (T383.setTop (mkF m 307 #[.val (.int p0), .val (.int p1), .val (.int p2), .val (.int p3), .val (.int (3 : Int32)), .val (.int (own_e0 p1)), .val (.int (own_e1 p1 p2)), .val (.int (own_e2 p1 p2 p3)), .val (.ref b300), .val (.ref b337), .val (.ref r384), .val (.int (1 : Int32)), .val (.int (1 : Int32)), .val (.int (1 : Int32)), .val (.int (2 : Int32))] [(.int (1 : Int32))])) t → Steps p.tables e below (s₁.setTop (entryFrame m #[(.int p0), (.int p1), (.int p2), (.int p3)] maxLocals)) t := by
        intro t kt
        refine pre403 t ?_
        show Steps p.tables e below (T383.setTop (mkF m 287 #[.val (.int p0), .val (.int p1), .val (.int p2), .val (.int p3), .val (.int (3 : Int32)), .val (.int (own_e0 p1)), .val (.int (own_e1 p1 p2)), .val (.int (own_e2 p1 p2 p3)), .val (.ref b300), .val (.ref b337), .val (.ref r384), .val (.int (1 : Int32)), .val (.int (1 : Int32)), .val (.int (1 : Int32)), .val (.int (2 : Int32))] [])) _
        refine XS.iload X383.here hx rfl (hb hby at_287) rfl ?_
        show Steps p.tables e below (T383.setTop (mkF m 289 #[.val (.int p0), .val (.int p1), .val (.int p2), .val (.int p3), .val (.int (3 : Int32)), .val (.int (own_e0 p1)), .val (.int (own_e1 p1 p2)), .val (.int (own_e2 p1 p2 p3)), .val (.ref b300), .val (.ref b337), .val (.ref r384), .val (.int (1 : Int32)), .val (.int (1 : Int32)), .val (.int (1 : Int32)), .val (.int (2 : Int32))] [(.int (1 : Int32))])) _
        refine XS.ifNo X383.here hx rfl (hb hby at_289) rfl ((if0 _ _).trans (feq (by decide : ¬ ((1 : Int32) = (0 : Int32)))).1) ?_
        show Steps p.tables e below (T383.setTop (mkF m 292 #[.val (.int p0), .val (.int p1), .val (.int p2), .val (.int p3), .val (.int (3 : Int32)), .val (.int (own_e0 p1)), .val (.int (own_e1 p1 p2)), .val (.int (own_e2 p1 p2 p3)), .val (.ref b300), .val (.ref b337), .val (.ref r384), .val (.int (1 : Int32)), .val (.int (1 : Int32)), .val (.int (1 : Int32)), .val (.int (2 : Int32))] [])) _
        refine XS.aload X383.here hx rfl (hb hby at_292) rfl rfl ?_
        show Steps p.tables e below (T383.setTop (mkF m 294 #[.val (.int p0), .val (.int p1), .val (.int p2), .val (.int p3), .val (.int (3 : Int32)), .val (.int (own_e0 p1)), .val (.int (own_e1 p1 p2)), .val (.int (own_e2 p1 p2 p3)), .val (.ref b300), .val (.ref b337), .val (.ref r384), .val (.int (1 : Int32)), .val (.int (1 : Int32)), .val (.int (1 : Int32)), .val (.int (2 : Int32))] [(.ref r384)])) _
        refine XS.iconst X383.here hx rfl (hb hby at_294) ?_
        show Steps p.tables e below (T383.setTop (mkF m 295 #[.val (.int p0), .val (.int p1), .val (.int p2), .val (.int p3), .val (.int (3 : Int32)), .val (.int (own_e0 p1)), .val (.int (own_e1 p1 p2)), .val (.int (own_e2 p1 p2 p3)), .val (.ref b300), .val (.ref b337), .val (.ref r384), .val (.int (1 : Int32)), .val (.int (1 : Int32)), .val (.int (1 : Int32)), .val (.int (2 : Int32))] [(.int (0 : Int32)), (.ref r384)])) _
        refine X383.iaload hx (j := (0 : Int32)) (v := (.int ((own_e1 p1 p2) - (1 : Int32)))) Ar404.1 (State.isArrayOf_alike hZ.alike Ar404.2.1) Ar404.2.2 hin404 hat404 (g := (mkF m 295 #[.val (.int p0), .val (.int p1), .val (.int p2), .val (.int p3), .val (.int (3 : Int32)), .val (.int (own_e0 p1)), .val (.int (own_e1 p1 p2)), .val (.int (own_e2 p1 p2 p3)), .val (.ref b300), .val (.ref b337), .val (.ref r384), .val (.int (1 : Int32)), .val (.int (1 : Int32)), .val (.int (1 : Int32)), .val (.int (2 : Int32))] [(.int (0 : Int32)), (.ref r384)])) rfl rfl (hb hby at_295) _ ?_
        show Steps p.tables e below (T383.setTop (mkF m 296 #[.val (.int p0), .val (.int p1), .val (.int p2), .val (.int p3), .val (.int (3 : Int32)), .val (.int (own_e0 p1)), .val (.int (own_e1 p1 p2)), .val (.int (own_e2 p1 p2 p3)), .val (.ref b300), .val (.ref b337), .val (.ref r384), .val (.int (1 : Int32)), .val (.int (1 : Int32)), .val (.int (1 : Int32)), .val (.int (2 : Int32))] [(.int ((own_e1 p1 p2) - (1 : Int32)))])) _
        refine XS.aload X383.here hx rfl (hb hby at_296) rfl rfl ?_
        show Steps p.tables e below (T383.setTop (mkF m 298 #[.val (.int p0), .val (.int p1), .val (.int p2), .val (.int p3), .val (.int (3 : Int32)), .val (.int (own_e0 p1)), .val (.int (own_e1 p1 p2)), .val (.int (own_e2 p1 p2 p3)), .val (.ref b300), .val (.ref b337), .val (.ref r384), .val (.int (1 : Int32)), .val (.int (1 : Int32)), .val (.int (1 : Int32)), .val (.int (2 : Int32))] [(.ref b337), (.int ((own_e1 p1 p2) - (1 : Int32)))])) _
        refine XS.iload X383.here hx rfl (hb hby at_298) rfl ?_
        show Steps p.tables e below (T383.setTop (mkF m 300 #[.val (.int p0), .val (.int p1), .val (.int p2), .val (.int p3), .val (.int (3 : Int32)), .val (.int (own_e0 p1)), .val (.int (own_e1 p1 p2)), .val (.int (own_e2 p1 p2 p3)), .val (.ref b300), .val (.ref b337), .val (.ref r384), .val (.int (1 : Int32)), .val (.int (1 : Int32)), .val (.int (1 : Int32)), .val (.int (2 : Int32))] [(.int (1 : Int32)), (.ref b337), (.int ((own_e1 p1 p2) - (1 : Int32)))])) _
        refine X383.iaload hx (j := (1 : Int32)) (v := (.int (own_e1 p1 p2))) Ar405.1 (State.isArrayOf_alike hZ.alike Ar405.2.1) Ar405.2.2 hin405 hat405 (g := (mkF m 300 #[.val (.int p0), .val (.int p1), .val (.int p2), .val (.int p3), .val (.int (3 : Int32)), .val (.int (own_e0 p1)), .val (.int (own_e1 p1 p2)), .val (.int (own_e2 p1 p2 p3)), .val (.ref b300), .val (.ref b337), .val (.ref r384), .val (.int (1 : Int32)), .val (.int (1 : Int32)), .val (.int (1 : Int32)), .val (.int (2 : Int32))] [(.int (1 : Int32)), (.ref b337), (.int ((own_e1 p1 p2) - (1 : Int32)))])) rfl rfl (hb hby at_300) _ ?_
        show Steps p.tables e below (T383.setTop (mkF m 301 #[.val (.int p0), .val (.int p1), .val (.int p2), .val (.int p3), .val (.int (3 : Int32)), .val (.int (own_e0 p1)), .val (.int (own_e1 p1 p2)), .val (.int (own_e2 p1 p2 p3)), .val (.ref b300), .val (.ref b337), .val (.ref r384), .val (.int (1 : Int32)), .val (.int (1 : Int32)), .val (.int (1 : Int32)), .val (.int (2 : Int32))] [(.int (own_e1 p1 p2)), (.int ((own_e1 p1 p2) - (1 : Int32)))])) _
        refine XS.iconst X383.here hx rfl (hb hby at_301) ?_
        show Steps p.tables e below (T383.setTop (mkF m 302 #[.val (.int p0), .val (.int p1), .val (.int p2), .val (.int p3), .val (.int (3 : Int32)), .val (.int (own_e0 p1)), .val (.int (own_e1 p1 p2)), .val (.int (own_e2 p1 p2 p3)), .val (.ref b300), .val (.ref b337), .val (.ref r384), .val (.int (1 : Int32)), .val (.int (1 : Int32)), .val (.int (1 : Int32)), .val (.int (2 : Int32))] [(.int (1 : Int32)), (.int (own_e1 p1 p2)), (.int ((own_e1 p1 p2) - (1 : Int32)))])) _
        refine XS.isub X383.here hx rfl (hb hby at_302) rfl ?_
        show Steps p.tables e below (T383.setTop (mkF m 303 #[.val (.int p0), .val (.int p1), .val (.int p2), .val (.int p3), .val (.int (3 : Int32)), .val (.int (own_e0 p1)), .val (.int (own_e1 p1 p2)), .val (.int (own_e2 p1 p2 p3)), .val (.ref b300), .val (.ref b337), .val (.ref r384), .val (.int (1 : Int32)), .val (.int (1 : Int32)), .val (.int (1 : Int32)), .val (.int (2 : Int32))] [(.int ((own_e1 p1 p2) - (1 : Int32))), (.int ((own_e1 p1 p2) - (1 : Int32)))])) _
        refine XS.icmpNo X383.here hx rfl (hb hby at_303) rfl (teq (rfl : ((own_e1 p1 p2) - (1 : Int32)) = ((own_e1 p1 p2) - (1 : Int32)))).2 ?_
        show Steps p.tables e below (T383.setTop (mkF m 306 #[.val (.int p0), .val (.int p1), .val (.int p2), .val (.int p3), .val (.int (3 : Int32)), .val (.int (own_e0 p1)), .val (.int (own_e1 p1 p2)), .val (.int (own_e2 p1 p2 p3)), .val (.ref b300), .val (.ref b337), .val (.ref r384), .val (.int (1 : Int32)), .val (.int (1 : Int32)), .val (.int (1 : Int32)), .val (.int (2 : Int32))] [])) _
        refine XS.iconst X383.here hx rfl (hb hby at_306) ?_
        exact kt
      obtain ⟨cl407, Ar407, S407, H407⟩ := id c384_1
      have hin407 : ¬ ((1 : Int32) < 0 ∨ cl407.slots.size ≤ ((1 : Int32)).toNatClampNeg) := own_inb S407 (by decide) (by decide)
      have hat407 : cl407.slots[((1 : Int32)).toNatClampNeg]? = some (.int ((own_e2 p1 p2 p3) - (1 : Int32))) := H407 _ (by decide)
      have pre408 : ∀ t, Steps p.tables e below (T383.setTop (mkF m 332 #[.val (.int p0), .val (.int p1), .val (.int p2), .val (.int p3), .val (.int (3 : Int32)), .val (.int (own_e0 p1)), .val (.int (own_e1 p1 p2)), .val (.int (own_e2 p1 p2 p3)), .val (.ref b300), .val (.ref b337), .val (.ref r384), .val (.int (1 : Int32)), .val (.int (1 : Int32)), .val (.int (1 : Int32)), .val (.int (2 : Int32))] [(.int (1 : Int32)), (.ref b337), (.int ((own_e2 p1 p2 p3) - (1 : Int32)))])) t → Steps p.tables e below (s₁.setTop (entryFrame m #[(.int p0), (.int p1), (.int p2), (.int p3)] maxLocals)) t := by
        intro t kt
        refine pre406 t ?_
        show Steps p.tables e below (T383.setTop (mkF m 307 #[.val (.int p0), .val (.int p1), .val (.int p2), .val (.int p3), .val (.int (3 : Int32)), .val (.int (own_e0 p1)), .val (.int (own_e1 p1 p2)), .val (.int (own_e2 p1 p2 p3)), .val (.ref b300), .val (.ref b337), .val (.ref r384), .val (.int (1 : Int32)), .val (.int (1 : Int32)), .val (.int (1 : Int32)), .val (.int (2 : Int32))] [(.int (1 : Int32))])) _
        refine XS.goto X383.here hx rfl (pc0 := 307) (pc' := 311) rfl (hb hby at_307) (by decide) (by decide) ?_
        show Steps p.tables e below (T383.setTop (mkF m 311 #[.val (.int p0), .val (.int p1), .val (.int p2), .val (.int p3), .val (.int (3 : Int32)), .val (.int (own_e0 p1)), .val (.int (own_e1 p1 p2)), .val (.int (own_e2 p1 p2 p3)), .val (.ref b300), .val (.ref b337), .val (.ref r384), .val (.int (1 : Int32)), .val (.int (1 : Int32)), .val (.int (1 : Int32)), .val (.int (2 : Int32))] [(.int (1 : Int32))])) _
        refine XS.istore X383.here hx rfl (hb hby at_311) rfl (l' := #[.val (.int p0), .val (.int p1), .val (.int p2), .val (.int p3), .val (.int (3 : Int32)), .val (.int (own_e0 p1)), .val (.int (own_e1 p1 p2)), .val (.int (own_e2 p1 p2 p3)), .val (.ref b300), .val (.ref b337), .val (.ref r384), .val (.int (1 : Int32)), .val (.int (1 : Int32)), .val (.int (1 : Int32)), .val (.int (2 : Int32))]) rfl ?_
        show Steps p.tables e below (T383.setTop (mkF m 313 #[.val (.int p0), .val (.int p1), .val (.int p2), .val (.int p3), .val (.int (3 : Int32)), .val (.int (own_e0 p1)), .val (.int (own_e1 p1 p2)), .val (.int (own_e2 p1 p2 p3)), .val (.ref b300), .val (.ref b337), .val (.ref r384), .val (.int (1 : Int32)), .val (.int (1 : Int32)), .val (.int (1 : Int32)), .val (.int (2 : Int32))] [])) _
        refine XS.iload X383.here hx rfl (hb hby at_313) rfl ?_
        show Steps p.tables e below (T383.setTop (mkF m 315 #[.val (.int p0), .val (.int p1), .val (.int p2), .val (.int p3), .val (.int (3 : Int32)), .val (.int (own_e0 p1)), .val (.int (own_e1 p1 p2)), .val (.int (own_e2 p1 p2 p3)), .val (.ref b300), .val (.ref b337), .val (.ref r384), .val (.int (1 : Int32)), .val (.int (1 : Int32)), .val (.int (1 : Int32)), .val (.int (2 : Int32))] [(.int (2 : Int32))])) _
        refine XS.iconst X383.here hx rfl (hb hby at_315) ?_
        show Steps p.tables e below (T383.setTop (mkF m 316 #[.val (.int p0), .val (.int p1), .val (.int p2), .val (.int p3), .val (.int (3 : Int32)), .val (.int (own_e0 p1)), .val (.int (own_e1 p1 p2)), .val (.int (own_e2 p1 p2 p3)), .val (.ref b300), .val (.ref b337), .val (.ref r384), .val (.int (1 : Int32)), .val (.int (1 : Int32)), .val (.int (1 : Int32)), .val (.int (2 : Int32))] [(.int (1 : Int32)), (.int (2 : Int32))])) _
        refine XS.icmpNo X383.here hx rfl (hb hby at_316) rfl (tlt (by decide : (1 : Int32) < (2 : Int32))).2.2.2 ?_
        show Steps p.tables e below (T383.setTop (mkF m 319 #[.val (.int p0), .val (.int p1), .val (.int p2), .val (.int p3), .val (.int (3 : Int32)), .val (.int (own_e0 p1)), .val (.int (own_e1 p1 p2)), .val (.int (own_e2 p1 p2 p3)), .val (.ref b300), .val (.ref b337), .val (.ref r384), .val (.int (1 : Int32)), .val (.int (1 : Int32)), .val (.int (1 : Int32)), .val (.int (2 : Int32))] [])) _
        refine XS.iload X383.here hx rfl (hb hby at_319) rfl ?_
        show Steps p.tables e below (T383.setTop (mkF m 321 #[.val (.int p0), .val (.int p1), .val (.int p2), .val (.int p3), .val (.int (3 : Int32)), .val (.int (own_e0 p1)), .val (.int (own_e1 p1 p2)), .val (.int (own_e2 p1 p2 p3)), .val (.ref b300), .val (.ref b337), .val (.ref r384), .val (.int (1 : Int32)), .val (.int (1 : Int32)), .val (.int (1 : Int32)), .val (.int (2 : Int32))] [(.int (1 : Int32))])) _
        refine XS.ifNo X383.here hx rfl (hb hby at_321) rfl ((if0 _ _).trans (feq (by decide : ¬ ((1 : Int32) = (0 : Int32)))).1) ?_
        show Steps p.tables e below (T383.setTop (mkF m 324 #[.val (.int p0), .val (.int p1), .val (.int p2), .val (.int p3), .val (.int (3 : Int32)), .val (.int (own_e0 p1)), .val (.int (own_e1 p1 p2)), .val (.int (own_e2 p1 p2 p3)), .val (.ref b300), .val (.ref b337), .val (.ref r384), .val (.int (1 : Int32)), .val (.int (1 : Int32)), .val (.int (1 : Int32)), .val (.int (2 : Int32))] [])) _
        refine XS.aload X383.here hx rfl (hb hby at_324) rfl rfl ?_
        show Steps p.tables e below (T383.setTop (mkF m 326 #[.val (.int p0), .val (.int p1), .val (.int p2), .val (.int p3), .val (.int (3 : Int32)), .val (.int (own_e0 p1)), .val (.int (own_e1 p1 p2)), .val (.int (own_e2 p1 p2 p3)), .val (.ref b300), .val (.ref b337), .val (.ref r384), .val (.int (1 : Int32)), .val (.int (1 : Int32)), .val (.int (1 : Int32)), .val (.int (2 : Int32))] [(.ref r384)])) _
        refine XS.iconst X383.here hx rfl (hb hby at_326) ?_
        show Steps p.tables e below (T383.setTop (mkF m 327 #[.val (.int p0), .val (.int p1), .val (.int p2), .val (.int p3), .val (.int (3 : Int32)), .val (.int (own_e0 p1)), .val (.int (own_e1 p1 p2)), .val (.int (own_e2 p1 p2 p3)), .val (.ref b300), .val (.ref b337), .val (.ref r384), .val (.int (1 : Int32)), .val (.int (1 : Int32)), .val (.int (1 : Int32)), .val (.int (2 : Int32))] [(.int (1 : Int32)), (.ref r384)])) _
        refine X383.iaload hx (j := (1 : Int32)) (v := (.int ((own_e2 p1 p2 p3) - (1 : Int32)))) Ar407.1 (State.isArrayOf_alike hZ.alike Ar407.2.1) Ar407.2.2 hin407 hat407 (g := (mkF m 327 #[.val (.int p0), .val (.int p1), .val (.int p2), .val (.int p3), .val (.int (3 : Int32)), .val (.int (own_e0 p1)), .val (.int (own_e1 p1 p2)), .val (.int (own_e2 p1 p2 p3)), .val (.ref b300), .val (.ref b337), .val (.ref r384), .val (.int (1 : Int32)), .val (.int (1 : Int32)), .val (.int (1 : Int32)), .val (.int (2 : Int32))] [(.int (1 : Int32)), (.ref r384)])) rfl rfl (hb hby at_327) _ ?_
        show Steps p.tables e below (T383.setTop (mkF m 328 #[.val (.int p0), .val (.int p1), .val (.int p2), .val (.int p3), .val (.int (3 : Int32)), .val (.int (own_e0 p1)), .val (.int (own_e1 p1 p2)), .val (.int (own_e2 p1 p2 p3)), .val (.ref b300), .val (.ref b337), .val (.ref r384), .val (.int (1 : Int32)), .val (.int (1 : Int32)), .val (.int (1 : Int32)), .val (.int (2 : Int32))] [(.int ((own_e2 p1 p2 p3) - (1 : Int32)))])) _
        refine XS.aload X383.here hx rfl (hb hby at_328) rfl rfl ?_
        show Steps p.tables e below (T383.setTop (mkF m 330 #[.val (.int p0), .val (.int p1), .val (.int p2), .val (.int p3), .val (.int (3 : Int32)), .val (.int (own_e0 p1)), .val (.int (own_e1 p1 p2)), .val (.int (own_e2 p1 p2 p3)), .val (.ref b300), .val (.ref b337), .val (.ref r384), .val (.int (1 : Int32)), .val (.int (1 : Int32)), .val (.int (1 : Int32)), .val (.int (2 : Int32))] [(.ref b337), (.int ((own_e2 p1 p2 p3) - (1 : Int32)))])) _
        refine XS.iload X383.here hx rfl (hb hby at_330) rfl ?_
        exact kt
      obtain ⟨cl409, Ar409, S409, H409⟩ := id f390
      have hin409 : ¬ ((2 : Int32) < 0 ∨ cl409.slots.size ≤ ((2 : Int32)).toNatClampNeg) := own_inb S409 (by decide) (by decide)
      have hat409 : cl409.slots[((2 : Int32)).toNatClampNeg]? = some (.int (own_e2 p1 p2 p3)) := H409 _ (by decide)
      have pre410 : ∀ t, Steps p.tables e below (T383.setTop (mkF m 381 #[.val (.int p0), .val (.int p1), .val (.int p2), .val (.int p3), .val (.int (3 : Int32)), .val (.int (own_e0 p1)), .val (.int (own_e1 p1 p2)), .val (.int (own_e2 p1 p2 p3)), .val (.ref b300), .val (.ref b337), .val (.ref r384), .val (.int (1 : Int32)), .val (.int (1 : Int32)), .val (.int (1 : Int32)), .val (.int (2 : Int32))] [])) t → Steps p.tables e below (s₁.setTop (entryFrame m #[(.int p0), (.int p1), (.int p2), (.int p3)] maxLocals)) t := by
        intro t kt
        refine pre408 t ?_
        show Steps p.tables e below (T383.setTop (mkF m 332 #[.val (.int p0), .val (.int p1), .val (.int p2), .val (.int p3), .val (.int (3 : Int32)), .val (.int (own_e0 p1)), .val (.int (own_e1 p1 p2)), .val (.int (own_e2 p1 p2 p3)), .val (.ref b300), .val (.ref b337), .val (.ref r384), .val (.int (1 : Int32)), .val (.int (1 : Int32)), .val (.int (1 : Int32)), .val (.int (2 : Int32))] [(.int (1 : Int32)), (.ref b337), (.int ((own_e2 p1 p2 p3) - (1 : Int32)))])) _
        refine XS.iconst X383.here hx rfl (hb hby at_332) ?_
        show Steps p.tables e below (T383.setTop (mkF m 333 #[.val (.int p0), .val (.int p1), .val (.int p2), .val (.int p3), .val (.int (3 : Int32)), .val (.int (own_e0 p1)), .val (.int (own_e1 p1 p2)), .val (.int (own_e2 p1 p2 p3)), .val (.ref b300), .val (.ref b337), .val (.ref r384), .val (.int (1 : Int32)), .val (.int (1 : Int32)), .val (.int (1 : Int32)), .val (.int (2 : Int32))] [(.int (1 : Int32)), (.int (1 : Int32)), (.ref b337), (.int ((own_e2 p1 p2 p3) - (1 : Int32)))])) _
        refine XS.iadd X383.here hx rfl (hb hby at_333) rfl ?_
        show Steps p.tables e below (T383.setTop (mkF m 334 #[.val (.int p0), .val (.int p1), .val (.int p2), .val (.int p3), .val (.int (3 : Int32)), .val (.int (own_e0 p1)), .val (.int (own_e1 p1 p2)), .val (.int (own_e2 p1 p2 p3)), .val (.ref b300), .val (.ref b337), .val (.ref r384), .val (.int (1 : Int32)), .val (.int (1 : Int32)), .val (.int (1 : Int32)), .val (.int (2 : Int32))] [(.int (2 : Int32)), (.ref b337), (.int ((own_e2 p1 p2 p3) - (1 : Int32)))])) _
        refine X383.iaload hx (j := (2 : Int32)) (v := (.int (own_e2 p1 p2 p3))) Ar409.1 (State.isArrayOf_alike hZ.alike Ar409.2.1) Ar409.2.2 hin409 hat409 (g := (mkF m 334 #[.val (.int p0), .val (.int p1), .val (.int p2), .val (.int p3), .val (.int (3 : Int32)), .val (.int (own_e0 p1)), .val (.int (own_e1 p1 p2)), .val (.int (own_e2 p1 p2 p3)), .val (.ref b300), .val (.ref b337), .val (.ref r384), .val (.int (1 : Int32)), .val (.int (1 : Int32)), .val (.int (1 : Int32)), .val (.int (2 : Int32))] [(.int (2 : Int32)), (.ref b337), (.int ((own_e2 p1 p2 p3) - (1 : Int32)))])) rfl rfl (hb hby at_334) _ ?_
        show Steps p.tables e below (T383.setTop (mkF m 335 #[.val (.int p0), .val (.int p1), .val (.int p2), .val (.int p3), .val (.int (3 : Int32)), .val (.int (own_e0 p1)), .val (.int (own_e1 p1 p2)), .val (.int (own_e2 p1 p2 p3)), .val (.ref b300), .val (.ref b337), .val (.ref r384), .val (.int (1 : Int32)), .val (.int (1 : Int32)), .val (.int (1 : Int32)), .val (.int (2 : Int32))] [(.int (own_e2 p1 p2 p3)), (.int ((own_e2 p1 p2 p3) - (1 : Int32)))])) _
        refine XS.iconst X383.here hx rfl (hb hby at_335) ?_
        show Steps p.tables e below (T383.setTop (mkF m 336 #[.val (.int p0), .val (.int p1), .val (.int p2), .val (.int p3), .val (.int (3 : Int32)), .val (.int (own_e0 p1)), .val (.int (own_e1 p1 p2)), .val (.int (own_e2 p1 p2 p3)), .val (.ref b300), .val (.ref b337), .val (.ref r384), .val (.int (1 : Int32)), .val (.int (1 : Int32)), .val (.int (1 : Int32)), .val (.int (2 : Int32))] [(.int (1 : Int32)), (.int (own_e2 p1 p2 p3)), (.int ((own_e2 p1 p2 p3) - (1 : Int32)))])) _
        refine XS.isub X383.here hx rfl (hb hby at_336) rfl ?_
        show Steps p.tables e below (T383.setTop (mkF m 337 #[.val (.int p0), .val (.int p1), .val (.int p2), .val (.int p3), .val (.int (3 : Int32)), .val (.int (own_e0 p1)), .val (.int (own_e1 p1 p2)), .val (.int (own_e2 p1 p2 p3)), .val (.ref b300), .val (.ref b337), .val (.ref r384), .val (.int (1 : Int32)), .val (.int (1 : Int32)), .val (.int (1 : Int32)), .val (.int (2 : Int32))] [(.int ((own_e2 p1 p2 p3) - (1 : Int32))), (.int ((own_e2 p1 p2 p3) - (1 : Int32)))])) _
        refine XS.icmpNo X383.here hx rfl (hb hby at_337) rfl (teq (rfl : ((own_e2 p1 p2 p3) - (1 : Int32)) = ((own_e2 p1 p2 p3) - (1 : Int32)))).2 ?_
        show Steps p.tables e below (T383.setTop (mkF m 340 #[.val (.int p0), .val (.int p1), .val (.int p2), .val (.int p3), .val (.int (3 : Int32)), .val (.int (own_e0 p1)), .val (.int (own_e1 p1 p2)), .val (.int (own_e2 p1 p2 p3)), .val (.ref b300), .val (.ref b337), .val (.ref r384), .val (.int (1 : Int32)), .val (.int (1 : Int32)), .val (.int (1 : Int32)), .val (.int (2 : Int32))] [])) _
        refine XS.iconst X383.here hx rfl (hb hby at_340) ?_
        show Steps p.tables e below (T383.setTop (mkF m 341 #[.val (.int p0), .val (.int p1), .val (.int p2), .val (.int p3), .val (.int (3 : Int32)), .val (.int (own_e0 p1)), .val (.int (own_e1 p1 p2)), .val (.int (own_e2 p1 p2 p3)), .val (.ref b300), .val (.ref b337), .val (.ref r384), .val (.int (1 : Int32)), .val (.int (1 : Int32)), .val (.int (1 : Int32)), .val (.int (2 : Int32))] [(.int (1 : Int32))])) _
        refine XS.goto X383.here hx rfl (pc0 := 341) (pc' := 345) rfl (hb hby at_341) (by decide) (by decide) ?_
        show Steps p.tables e below (T383.setTop (mkF m 345 #[.val (.int p0), .val (.int p1), .val (.int p2), .val (.int p3), .val (.int (3 : Int32)), .val (.int (own_e0 p1)), .val (.int (own_e1 p1 p2)), .val (.int (own_e2 p1 p2 p3)), .val (.ref b300), .val (.ref b337), .val (.ref r384), .val (.int (1 : Int32)), .val (.int (1 : Int32)), .val (.int (1 : Int32)), .val (.int (2 : Int32))] [(.int (1 : Int32))])) _
        refine XS.istore X383.here hx rfl (hb hby at_345) rfl (l' := #[.val (.int p0), .val (.int p1), .val (.int p2), .val (.int p3), .val (.int (3 : Int32)), .val (.int (own_e0 p1)), .val (.int (own_e1 p1 p2)), .val (.int (own_e2 p1 p2 p3)), .val (.ref b300), .val (.ref b337), .val (.ref r384), .val (.int (1 : Int32)), .val (.int (1 : Int32)), .val (.int (1 : Int32)), .val (.int (2 : Int32))]) rfl ?_
        show Steps p.tables e below (T383.setTop (mkF m 347 #[.val (.int p0), .val (.int p1), .val (.int p2), .val (.int p3), .val (.int (3 : Int32)), .val (.int (own_e0 p1)), .val (.int (own_e1 p1 p2)), .val (.int (own_e2 p1 p2 p3)), .val (.ref b300), .val (.ref b337), .val (.ref r384), .val (.int (1 : Int32)), .val (.int (1 : Int32)), .val (.int (1 : Int32)), .val (.int (2 : Int32))] [])) _
        refine XS.iload X383.here hx rfl (hb hby at_347) rfl ?_
        show Steps p.tables e below (T383.setTop (mkF m 349 #[.val (.int p0), .val (.int p1), .val (.int p2), .val (.int p3), .val (.int (3 : Int32)), .val (.int (own_e0 p1)), .val (.int (own_e1 p1 p2)), .val (.int (own_e2 p1 p2 p3)), .val (.ref b300), .val (.ref b337), .val (.ref r384), .val (.int (1 : Int32)), .val (.int (1 : Int32)), .val (.int (1 : Int32)), .val (.int (2 : Int32))] [(.int (2 : Int32))])) _
        refine XS.iconst X383.here hx rfl (hb hby at_349) ?_
        show Steps p.tables e below (T383.setTop (mkF m 350 #[.val (.int p0), .val (.int p1), .val (.int p2), .val (.int p3), .val (.int (3 : Int32)), .val (.int (own_e0 p1)), .val (.int (own_e1 p1 p2)), .val (.int (own_e2 p1 p2 p3)), .val (.ref b300), .val (.ref b337), .val (.ref r384), .val (.int (1 : Int32)), .val (.int (1 : Int32)), .val (.int (1 : Int32)), .val (.int (2 : Int32))] [(.int (2 : Int32)), (.int (2 : Int32))])) _
        refine XS.icmpYes X383.here hx rfl (pc0 := 350) (pc' := 381) rfl (hb hby at_350) rfl (flt (by decide : ¬ ((2 : Int32) < (2 : Int32)))).2.2.2 (by decide) (by decide) ?_
        exact kt
      have pre411 : ∀ t, Steps p.tables e below (T383.setTop (mkF m 383 #[.val (.int p0), .val (.int p1), .val (.int p2), .val (.int p3), .val (.int (3 : Int32)), .val (.int (own_e0 p1)), .val (.int (own_e1 p1 p2)), .val (.int (own_e2 p1 p2 p3)), .val (.ref b300), .val (.ref b337), .val (.ref r384), .val (.int (1 : Int32)), .val (.int (1 : Int32)), .val (.int (1 : Int32)), .val (.int (2 : Int32))] [(.int (1 : Int32))])) t → Steps p.tables e below (s₁.setTop (entryFrame m #[(.int p0), (.int p1), (.int p2), (.int p3)] maxLocals)) t := by
        intro t kt
        refine pre410 t ?_
        show Steps p.tables e below (T383.setTop (mkF m 381 #[.val (.int p0), .val (.int p1), .val (.int p2), .val (.int p3), .val (.int (3 : Int32)), .val (.int (own_e0 p1)), .val (.int (own_e1 p1 p2)), .val (.int (own_e2 p1 p2 p3)), .val (.ref b300), .val (.ref b337), .val (.ref r384), .val (.int (1 : Int32)), .val (.int (1 : Int32)), .val (.int (1 : Int32)), .val (.int (2 : Int32))] [])) _
        refine XS.iload X383.here hx rfl (hb hby at_381) rfl ?_
        exact kt
      obtain ⟨fs, hr, hrun, hended, hW, hsame⟩ := X383.leave (v := some (.int (1 : Int32))) (fun h => by rw [Bd.returns] at h; cases h)
      refine ⟨_, _, pre411 _ ?_, hrun, hended, _, _, rfl, ?_, ⟨_, rfl⟩, hW, hsame.mono (by decide) (by decide)⟩
      · show Steps p.tables e below (T383.setTop (mkF m 383 #[.val (.int p0), .val (.int p1), .val (.int p2), .val (.int p3), .val (.int (3 : Int32)), .val (.int (own_e0 p1)), .val (.int (own_e1 p1 p2)), .val (.int (own_e2 p1 p2 p3)), .val (.ref b300), .val (.ref b337), .val (.ref r384), .val (.int (1 : Int32)), .val (.int (1 : Int32)), .val (.int (1 : Int32)), .val (.int (2 : Int32))] [(.int (1 : Int32))])) _
        exact retN X383 hx (t := .boolean) Bd.returns (by simp) (hb hby at_383) hr
      · show own_Q_law Z p0 p1 p2 p3 aS h0 n0 (some (.int (1 : Int32))) T383.heap _
        skip
        exact ⟨rfl, nf392⟩
    · skip
      have zs412 : n0 ≤ h370.size := Nat.le_trans Z0 k377.1
      obtain ⟨_, _, ⟨T413, L413, k413, n413⟩, -, X413, ⟨Lc413, hQ413, l413, y413, z413⟩, st413⟩ := Jvm.LawKit.callS X370 hx (y := (⟨"com/example/unfold/unfold/semantics/GateSets", "outsideHide", "([I)[I"⟩ : MethodName)) hown (mvT hZ (hw _ (List.mem_of_getElem? (i := 3) rfl))) (mvT hZ (hw _ (List.mem_of_getElem? (i := 4) rfl))) (mvT hZ (hw _ (List.mem_of_getElem? (i := 5) rfl))) (mvT hZ (hw _ (List.mem_of_getElem? (i := 6) rfl))) (by decide) (backOf (W := 0) (own_rm_oh3n l Z a0 hw [] b300 (own_e0 p1) (own_e1 p1 p2) (own_e2 p1 p2 p3) h370 n0 zs412 f374 hz0) hZ (hw _ (List.mem_of_getElem? (i := 6) rfl)) (hw _ (List.mem_of_getElem? (i := 5) rfl)) (by decide) (by decide)) (g := (mkF m 131 #[.val (.int p0), .val (.int p1), .val (.int p2), .val (.int p3), .val (.int (3 : Int32)), .val (.int (own_e0 p1)), .val (.int (own_e1 p1 p2)), .val (.int (own_e2 p1 p2 p3)), .val (.ref b300), .val (.ref b337), .unset, .unset, .unset, .unset, .unset] [(.ref b300)])) rfl (by rw [hml]; rfl) (argsL := [(.ref b300)]) (rest := []) (lenOf own_pd0 rfl) rfl (by show 2 * 0 + _ ≤ _; exact Nat.le_of_eq rfl) (hb hby at_131) (fun _ _ => ⟨rfl, e370, (by decide : 2 + 1 ≤ _), (by decide : 6 + 3 ≤ _)⟩)
      dsimp only [Pt.U, Pt.locs, Pt.cells, Pt.slots] at X413 l413 y413 z413 st413 hQ413
      rw [l413, (y413 : k413 = 3), (z413 : n413 = 9)] at X413
      clear l413 y413 z413
      obtain ⟨r414, rfl, N414, K414, c414_0, c414_1⟩ := hQ413
      have sz_r414 : h0.size ≤ r414 := Nat.le_trans k377.1 c414_0
      have gn_r414 : n0 ≤ r414 := Nat.le_trans Z0 sz_r414
      have ne_aS_r414 : aS ≠ r414 := Nat.ne_of_lt (Nat.lt_of_lt_of_le f372.lt c414_0)
      have ne_b300_r414 : b300 ≠ r414 := Nat.ne_of_lt (Nat.lt_of_lt_of_le f374.lt c414_0)
      have ne_b337_r414 : b337 ≠ r414 := Nat.ne_of_lt (Nat.lt_of_lt_of_le f380.lt c414_0)
      have f415 := own_sta_keep f371 K414 all0
      have f416 := f372.keep K414 nin0
      have f417 := f373.keep K414
      have f418 := f374.keep K414 nin0
      have f419 := f375.keep K414
      have f420 := f380.keep K414 nin0
      have k421 := k377.trans K414 all0
      have nf422 := Fr.app nf378 N414
      obtain ⟨cl423, Ar423, S423, -⟩ := id f418
      have pre424 : ∀ t, Steps p.tables e below (T413.setTop (mkF m 156 #[.val (.int p0), .val (.int p1), .val (.int p2), .val (.int p3), .val (.int (3 : Int32)), .val (.int (own_e0 p1)), .val (.int (own_e1 p1 p2)), .val (.int (own_e2 p1 p2 p3)), .val (.ref b300), .val (.ref b337), .val (.ref r414), .val (.int (1 : Int32)), .unset, .unset, .unset] [])) t → Steps p.tables e below (s₁.setTop (entryFrame m #[(.int p0), (.int p1), (.int p2), (.int p3)] maxLocals)) t := by
        intro t kt
        refine pre381 t ?_
        show Steps p.tables e below (T370.setTop (mkF m 129 #[.val (.int p0), .val (.int p1), .val (.int p2), .val (.int p3), .val (.int (3 : Int32)), .val (.int (own_e0 p1)), .val (.int (own_e1 p1 p2)), .val (.int (own_e2 p1 p2 p3)), .val (.ref b300), .val (.ref b337), .unset, .unset, .unset, .unset, .unset] [])) _
        refine XS.aload X370.here hx rfl (hb hby at_129) rfl rfl ?_
        show Steps p.tables e below (T370.setTop (mkF m 131 #[.val (.int p0), .val (.int p1), .val (.int p2), .val (.int p3), .val (.int (3 : Int32)), .val (.int (own_e0 p1)), .val (.int (own_e1 p1 p2)), .val (.int (own_e2 p1 p2 p3)), .val (.ref b300), .val (.ref b337), .unset, .unset, .unset, .unset, .unset] [(.ref b300)])) _
        refine st413 _ ?_
        show Steps p.tables e below (T413.setTop (mkF m 134 #[.val (.int p0), .val (.int p1), .val (.int p2), .val (.int p3), .val (.int (3 : Int32)), .val (.int (own_e0 p1)), .val (.int (own_e1 p1 p2)), .val (.int (own_e2 p1 p2 p3)), .val (.ref b300), .val (.ref b337), .unset, .unset, .unset, .unset, .unset] [(.ref r414)])) _
        refine XS.astore X413.here hx rfl (hb hby at_134) rfl rfl (l' := #[.val (.int p0), .val (.int p1), .val (.int p2), .val (.int p3), .val (.int (3 : Int32)), .val (.int (own_e0 p1)), .val (.int (own_e1 p1 p2)), .val (.int (own_e2 p1 p2 p3)), .val (.ref b300), .val (.ref b337), .val (.ref r414), .unset, .unset, .unset, .unset]) rfl ?_
        show Steps p.tables e below (T413.setTop (mkF m 136 #[.val (.int p0), .val (.int p1), .val (.int p2), .val (.int p3), .val (.int (3 : Int32)), .val (.int (own_e0 p1)), .val (.int (own_e1 p1 p2)), .val (.int (own_e2 p1 p2 p3)), .val (.ref b300), .val (.ref b337), .val (.ref r414), .unset, .unset, .unset, .unset] [])) _
        refine XS.aload X413.here hx rfl (hb hby at_136) rfl rfl ?_
        show Steps p.tables e below (T413.setTop (mkF m 138 #[.val (.int p0), .val (.int p1), .val (.int p2), .val (.int p3), .val (.int (3 : Int32)), .val (.int (own_e0 p1)), .val (.int (own_e1 p1 p2)), .val (.int (own_e2 p1 p2 p3)), .val (.ref b300), .val (.ref b337), .val (.ref r414), .unset, .unset, .unset, .unset] [(.ref b300)])) _
        refine X413.arraylength hx Ar423.1 (State.isArrayOf_alike hZ.alike Ar423.2.1) (g := (mkF m 138 #[.val (.int p0), .val (.int p1), .val (.int p2), .val (.int p3), .val (.int (3 : Int32)), .val (.int (own_e0 p1)), .val (.int (own_e1 p1 p2)), .val (.int (own_e2 p1 p2 p3)), .val (.ref b300), .val (.ref b337), .val (.ref r414), .unset, .unset, .unset, .unset] [(.ref b300)])) rfl rfl (hb hby at_138) _ ?_
        rw [own_len (z := (3 : Int32)) S423 rfl]
        show Steps p.tables e below (T413.setTop (mkF m 139 #[.val (.int p0), .val (.int p1), .val (.int p2), .val (.int p3), .val (.int (3 : Int32)), .val (.int (own_e0 p1)), .val (.int (own_e1 p1 p2)), .val (.int (own_e2 p1 p2 p3)), .val (.ref b300), .val (.ref b337), .val (.ref r414), .unset, .unset, .unset, .unset] [(.int (3 : Int32))])) _
        refine XS.iload X413.here hx rfl (hb hby at_139) rfl ?_
        show Steps p.tables e below (T413.setTop (mkF m 141 #[.val (.int p0), .val (.int p1), .val (.int p2), .val (.int p3), .val (.int (3 : Int32)), .val (.int (own_e0 p1)), .val (.int (own_e1 p1 p2)), .val (.int (own_e2 p1 p2 p3)), .val (.ref b300), .val (.ref b337), .val (.ref r414), .unset, .unset, .unset, .unset] [(.int (3 : Int32)), (.int (3 : Int32))])) _
        refine XS.icmpNo X413.here hx rfl (hb hby at_141) rfl (teq (rfl : (3 : Int32) = (3 : Int32))).2 ?_
        show Steps p.tables e below (T413.setTop (mkF m 144 #[.val (.int p0), .val (.int p1), .val (.int p2), .val (.int p3), .val (.int (3 : Int32)), .val (.int (own_e0 p1)), .val (.int (own_e1 p1 p2)), .val (.int (own_e2 p1 p2 p3)), .val (.ref b300), .val (.ref b337), .val (.ref r414), .unset, .unset, .unset, .unset] [])) _
        refine XS.iconst X413.here hx rfl (hb hby at_144) ?_
        show Steps p.tables e below (T413.setTop (mkF m 145 #[.val (.int p0), .val (.int p1), .val (.int p2), .val (.int p3), .val (.int (3 : Int32)), .val (.int (own_e0 p1)), .val (.int (own_e1 p1 p2)), .val (.int (own_e2 p1 p2 p3)), .val (.ref b300), .val (.ref b337), .val (.ref r414), .unset, .unset, .unset, .unset] [(.int (1 : Int32))])) _
        refine XS.goto X413.here hx rfl (pc0 := 145) (pc' := 149) rfl (hb hby at_145) (by decide) (by decide) ?_
        show Steps p.tables e below (T413.setTop (mkF m 149 #[.val (.int p0), .val (.int p1), .val (.int p2), .val (.int p3), .val (.int (3 : Int32)), .val (.int (own_e0 p1)), .val (.int (own_e1 p1 p2)), .val (.int (own_e2 p1 p2 p3)), .val (.ref b300), .val (.ref b337), .val (.ref r414), .unset, .unset, .unset, .unset] [(.int (1 : Int32))])) _
        refine XS.istore X413.here hx rfl (hb hby at_149) rfl (l' := #[.val (.int p0), .val (.int p1), .val (.int p2), .val (.int p3), .val (.int (3 : Int32)), .val (.int (own_e0 p1)), .val (.int (own_e1 p1 p2)), .val (.int (own_e2 p1 p2 p3)), .val (.ref b300), .val (.ref b337), .val (.ref r414), .val (.int (1 : Int32)), .unset, .unset, .unset]) rfl ?_
        show Steps p.tables e below (T413.setTop (mkF m 151 #[.val (.int p0), .val (.int p1), .val (.int p2), .val (.int p3), .val (.int (3 : Int32)), .val (.int (own_e0 p1)), .val (.int (own_e1 p1 p2)), .val (.int (own_e2 p1 p2 p3)), .val (.ref b300), .val (.ref b337), .val (.ref r414), .val (.int (1 : Int32)), .unset, .unset, .unset] [])) _
        refine XS.iload X413.here hx rfl (hb hby at_151) rfl ?_
        show Steps p.tables e below (T413.setTop (mkF m 153 #[.val (.int p0), .val (.int p1), .val (.int p2), .val (.int p3), .val (.int (3 : Int32)), .val (.int (own_e0 p1)), .val (.int (own_e1 p1 p2)), .val (.int (own_e2 p1 p2 p3)), .val (.ref b300), .val (.ref b337), .val (.ref r414), .val (.int (1 : Int32)), .unset, .unset, .unset] [(.int (3 : Int32))])) _
        refine XS.ifNo X413.here hx rfl (hb hby at_153) rfl ((if0 _ _).trans (tlt (by decide : (0 : Int32) < (3 : Int32))).2.2.2) ?_
        exact kt
      obtain ⟨cl425, Ar425, S425, H425⟩ := id f418
      have hin425 : ¬ ((0 : Int32) < 0 ∨ cl425.slots.size ≤ ((0 : Int32)).toNatClampNeg) := own_inb S425 (by decide) (by decide)
      have hat425 : cl425.slots[((0 : Int32)).toNatClampNeg]? = some (.int (own_e0 p1)) := H425 _ (by decide)
      have pre426 : ∀ t, Steps p.tables e below (T413.setTop (mkF m 180 #[.val (.int p0), .val (.int p1), .val (.int p2), .val (.int p3), .val (.int (3 : Int32)), .val (.int (own_e0 p1)), .val (.int (own_e1 p1 p2)), .val (.int (own_e2 p1 p2 p3)), .val (.ref b300), .val (.ref b337), .val (.ref r414), .val (.int (1 : Int32)), .unset, .unset, .unset] [(.int (1 : Int32)), (.int (3 : Int32))])) t → Steps p.tables e below (s₁.setTop (entryFrame m #[(.int p0), (.int p1), (.int p2), (.int p3)] maxLocals)) t := by
        intro t kt
        refine pre424 t ?_
        show Steps p.tables e below (T413.setTop (mkF m 156 #[.val (.int p0), .val (.int p1), .val (.int p2), .val (.int p3), .val (.int (3 : Int32)), .val (.int (own_e0 p1)), .val (.int (own_e1 p1 p2)), .val (.int (own_e2 p1 p2 p3)), .val (.ref b300), .val (.ref b337), .val (.ref r414), .val (.int (1 : Int32)), .unset, .unset, .unset] [])) _
        refine XS.iload X413.here hx rfl (hb hby at_156) rfl ?_
        show Steps p.tables e below (T413.setTop (mkF m 158 #[.val (.int p0), .val (.int p1), .val (.int p2), .val (.int p3), .val (.int (3 : Int32)), .val (.int (own_e0 p1)), .val (.int (own_e1 p1 p2)), .val (.int (own_e2 p1 p2 p3)), .val (.ref b300), .val (.ref b337), .val (.ref r414), .val (.int (1 : Int32)), .unset, .unset, .unset] [(.int (1 : Int32))])) _
        refine XS.ifNo X413.here hx rfl (hb hby at_158) rfl ((if0 _ _).trans (feq (by decide : ¬ ((1 : Int32) = (0 : Int32)))).1) ?_
        show Steps p.tables e below (T413.setTop (mkF m 161 #[.val (.int p0), .val (.int p1), .val (.int p2), .val (.int p3), .val (.int (3 : Int32)), .val (.int (own_e0 p1)), .val (.int (own_e1 p1 p2)), .val (.int (own_e2 p1 p2 p3)), .val (.ref b300), .val (.ref b337), .val (.ref r414), .val (.int (1 : Int32)), .unset, .unset, .unset] [])) _
        refine XS.aload X413.here hx rfl (hb hby at_161) rfl rfl ?_
        show Steps p.tables e below (T413.setTop (mkF m 163 #[.val (.int p0), .val (.int p1), .val (.int p2), .val (.int p3), .val (.int (3 : Int32)), .val (.int (own_e0 p1)), .val (.int (own_e1 p1 p2)), .val (.int (own_e2 p1 p2 p3)), .val (.ref b300), .val (.ref b337), .val (.ref r414), .val (.int (1 : Int32)), .unset, .unset, .unset] [(.ref b300)])) _
        refine XS.iconst X413.here hx rfl (hb hby at_163) ?_
        show Steps p.tables e below (T413.setTop (mkF m 164 #[.val (.int p0), .val (.int p1), .val (.int p2), .val (.int p3), .val (.int (3 : Int32)), .val (.int (own_e0 p1)), .val (.int (own_e1 p1 p2)), .val (.int (own_e2 p1 p2 p3)), .val (.ref b300), .val (.ref b337), .val (.ref r414), .val (.int (1 : Int32)), .unset, .unset, .unset] [(.int (0 : Int32)), (.ref b300)])) _
        refine X413.iaload hx (j := (0 : Int32)) (v := (.int (own_e0 p1))) Ar425.1 (State.isArrayOf_alike hZ.alike Ar425.2.1) Ar425.2.2 hin425 hat425 (g := (mkF m 164 #[.val (.int p0), .val (.int p1), .val (.int p2), .val (.int p3), .val (.int (3 : Int32)), .val (.int (own_e0 p1)), .val (.int (own_e1 p1 p2)), .val (.int (own_e2 p1 p2 p3)), .val (.ref b300), .val (.ref b337), .val (.ref r414), .val (.int (1 : Int32)), .unset, .unset, .unset] [(.int (0 : Int32)), (.ref b300)])) rfl rfl (hb hby at_164) _ ?_
        show Steps p.tables e below (T413.setTop (mkF m 165 #[.val (.int p0), .val (.int p1), .val (.int p2), .val (.int p3), .val (.int (3 : Int32)), .val (.int (own_e0 p1)), .val (.int (own_e1 p1 p2)), .val (.int (own_e2 p1 p2 p3)), .val (.ref b300), .val (.ref b337), .val (.ref r414), .val (.int (1 : Int32)), .unset, .unset, .unset] [(.int (own_e0 p1))])) _
        refine XS.iload X413.here hx rfl (hb hby at_165) rfl ?_
        show Steps p.tables e below (T413.setTop (mkF m 167 #[.val (.int p0), .val (.int p1), .val (.int p2), .val (.int p3), .val (.int (3 : Int32)), .val (.int (own_e0 p1)), .val (.int (own_e1 p1 p2)), .val (.int (own_e2 p1 p2 p3)), .val (.ref b300), .val (.ref b337), .val (.ref r414), .val (.int (1 : Int32)), .unset, .unset, .unset] [(.int (own_e0 p1)), (.int (own_e0 p1))])) _
        refine XS.icmpNo X413.here hx rfl (hb hby at_167) rfl (teq (rfl : (own_e0 p1) = (own_e0 p1))).2 ?_
        show Steps p.tables e below (T413.setTop (mkF m 170 #[.val (.int p0), .val (.int p1), .val (.int p2), .val (.int p3), .val (.int (3 : Int32)), .val (.int (own_e0 p1)), .val (.int (own_e1 p1 p2)), .val (.int (own_e2 p1 p2 p3)), .val (.ref b300), .val (.ref b337), .val (.ref r414), .val (.int (1 : Int32)), .unset, .unset, .unset] [])) _
        refine XS.iconst X413.here hx rfl (hb hby at_170) ?_
        show Steps p.tables e below (T413.setTop (mkF m 171 #[.val (.int p0), .val (.int p1), .val (.int p2), .val (.int p3), .val (.int (3 : Int32)), .val (.int (own_e0 p1)), .val (.int (own_e1 p1 p2)), .val (.int (own_e2 p1 p2 p3)), .val (.ref b300), .val (.ref b337), .val (.ref r414), .val (.int (1 : Int32)), .unset, .unset, .unset] [(.int (1 : Int32))])) _
        refine XS.goto X413.here hx rfl (pc0 := 171) (pc' := 175) rfl (hb hby at_171) (by decide) (by decide) ?_
        show Steps p.tables e below (T413.setTop (mkF m 175 #[.val (.int p0), .val (.int p1), .val (.int p2), .val (.int p3), .val (.int (3 : Int32)), .val (.int (own_e0 p1)), .val (.int (own_e1 p1 p2)), .val (.int (own_e2 p1 p2 p3)), .val (.ref b300), .val (.ref b337), .val (.ref r414), .val (.int (1 : Int32)), .unset, .unset, .unset] [(.int (1 : Int32))])) _
        refine XS.istore X413.here hx rfl (hb hby at_175) rfl (l' := #[.val (.int p0), .val (.int p1), .val (.int p2), .val (.int p3), .val (.int (3 : Int32)), .val (.int (own_e0 p1)), .val (.int (own_e1 p1 p2)), .val (.int (own_e2 p1 p2 p3)), .val (.ref b300), .val (.ref b337), .val (.ref r414), .val (.int (1 : Int32)), .unset, .unset, .unset]) rfl ?_
        show Steps p.tables e below (T413.setTop (mkF m 177 #[.val (.int p0), .val (.int p1), .val (.int p2), .val (.int p3), .val (.int (3 : Int32)), .val (.int (own_e0 p1)), .val (.int (own_e1 p1 p2)), .val (.int (own_e2 p1 p2 p3)), .val (.ref b300), .val (.ref b337), .val (.ref r414), .val (.int (1 : Int32)), .unset, .unset, .unset] [])) _
        refine XS.iload X413.here hx rfl (hb hby at_177) rfl ?_
        show Steps p.tables e below (T413.setTop (mkF m 179 #[.val (.int p0), .val (.int p1), .val (.int p2), .val (.int p3), .val (.int (3 : Int32)), .val (.int (own_e0 p1)), .val (.int (own_e1 p1 p2)), .val (.int (own_e2 p1 p2 p3)), .val (.ref b300), .val (.ref b337), .val (.ref r414), .val (.int (1 : Int32)), .unset, .unset, .unset] [(.int (3 : Int32))])) _
        refine XS.iconst X413.here hx rfl (hb hby at_179) ?_
        exact kt
      obtain ⟨cl427, Ar427, S427, H427⟩ := id f418
      have hin427 : ¬ ((1 : Int32) < 0 ∨ cl427.slots.size ≤ ((1 : Int32)).toNatClampNeg) := own_inb S427 (by decide) (by decide)
      have hat427 : cl427.slots[((1 : Int32)).toNatClampNeg]? = some (.int (own_e1 p1 p2)) := H427 _ (by decide)
      have pre428 : ∀ t, Steps p.tables e below (T413.setTop (mkF m 206 #[.val (.int p0), .val (.int p1), .val (.int p2), .val (.int p3), .val (.int (3 : Int32)), .val (.int (own_e0 p1)), .val (.int (own_e1 p1 p2)), .val (.int (own_e2 p1 p2 p3)), .val (.ref b300), .val (.ref b337), .val (.ref r414), .val (.int (1 : Int32)), .unset, .unset, .unset] [(.int (3 : Int32))])) t → Steps p.tables e below (s₁.setTop (entryFrame m #[(.int p0), (.int p1), (.int p2), (.int p3)] maxLocals)) t := by
        intro t kt
        refine pre426 t ?_
        show Steps p.tables e below (T413.setTop (mkF m 180 #[.val (.int p0), .val (.int p1), .val (.int p2), .val (.int p3), .val (.int (3 : Int32)), .val (.int (own_e0 p1)), .val (.int (own_e1 p1 p2)), .val (.int (own_e2 p1 p2 p3)), .val (.ref b300), .val (.ref b337), .val (.ref r414), .val (.int (1 : Int32)), .unset, .unset, .unset] [(.int (1 : Int32)), (.int (3 : Int32))])) _
        refine XS.icmpNo X413.here hx rfl (hb hby at_180) rfl (tlt (by decide : (1 : Int32) < (3 : Int32))).2.2.2 ?_
        show Steps p.tables e below (T413.setTop (mkF m 183 #[.val (.int p0), .val (.int p1), .val (.int p2), .val (.int p3), .val (.int (3 : Int32)), .val (.int (own_e0 p1)), .val (.int (own_e1 p1 p2)), .val (.int (own_e2 p1 p2 p3)), .val (.ref b300), .val (.ref b337), .val (.ref r414), .val (.int (1 : Int32)), .unset, .unset, .unset] [])) _
        refine XS.iload X413.here hx rfl (hb hby at_183) rfl ?_
        show Steps p.tables e below (T413.setTop (mkF m 185 #[.val (.int p0), .val (.int p1), .val (.int p2), .val (.int p3), .val (.int (3 : Int32)), .val (.int (own_e0 p1)), .val (.int (own_e1 p1 p2)), .val (.int (own_e2 p1 p2 p3)), .val (.ref b300), .val (.ref b337), .val (.ref r414), .val (.int (1 : Int32)), .unset, .unset, .unset] [(.int (1 : Int32))])) _
        refine XS.ifNo X413.here hx rfl (hb hby at_185) rfl ((if0 _ _).trans (feq (by decide : ¬ ((1 : Int32) = (0 : Int32)))).1) ?_
        show Steps p.tables e below (T413.setTop (mkF m 188 #[.val (.int p0), .val (.int p1), .val (.int p2), .val (.int p3), .val (.int (3 : Int32)), .val (.int (own_e0 p1)), .val (.int (own_e1 p1 p2)), .val (.int (own_e2 p1 p2 p3)), .val (.ref b300), .val (.ref b337), .val (.ref r414), .val (.int (1 : Int32)), .unset, .unset, .unset] [])) _
        refine XS.aload X413.here hx rfl (hb hby at_188) rfl rfl ?_
        show Steps p.tables e below (T413.setTop (mkF m 190 #[.val (.int p0), .val (.int p1), .val (.int p2), .val (.int p3), .val (.int (3 : Int32)), .val (.int (own_e0 p1)), .val (.int (own_e1 p1 p2)), .val (.int (own_e2 p1 p2 p3)), .val (.ref b300), .val (.ref b337), .val (.ref r414), .val (.int (1 : Int32)), .unset, .unset, .unset] [(.ref b300)])) _
        refine XS.iconst X413.here hx rfl (hb hby at_190) ?_
        show Steps p.tables e below (T413.setTop (mkF m 191 #[.val (.int p0), .val (.int p1), .val (.int p2), .val (.int p3), .val (.int (3 : Int32)), .val (.int (own_e0 p1)), .val (.int (own_e1 p1 p2)), .val (.int (own_e2 p1 p2 p3)), .val (.ref b300), .val (.ref b337), .val (.ref r414), .val (.int (1 : Int32)), .unset, .unset, .unset] [(.int (1 : Int32)), (.ref b300)])) _
        refine X413.iaload hx (j := (1 : Int32)) (v := (.int (own_e1 p1 p2))) Ar427.1 (State.isArrayOf_alike hZ.alike Ar427.2.1) Ar427.2.2 hin427 hat427 (g := (mkF m 191 #[.val (.int p0), .val (.int p1), .val (.int p2), .val (.int p3), .val (.int (3 : Int32)), .val (.int (own_e0 p1)), .val (.int (own_e1 p1 p2)), .val (.int (own_e2 p1 p2 p3)), .val (.ref b300), .val (.ref b337), .val (.ref r414), .val (.int (1 : Int32)), .unset, .unset, .unset] [(.int (1 : Int32)), (.ref b300)])) rfl rfl (hb hby at_191) _ ?_
        show Steps p.tables e below (T413.setTop (mkF m 192 #[.val (.int p0), .val (.int p1), .val (.int p2), .val (.int p3), .val (.int (3 : Int32)), .val (.int (own_e0 p1)), .val (.int (own_e1 p1 p2)), .val (.int (own_e2 p1 p2 p3)), .val (.ref b300), .val (.ref b337), .val (.ref r414), .val (.int (1 : Int32)), .unset, .unset, .unset] [(.int (own_e1 p1 p2))])) _
        refine XS.iload X413.here hx rfl (hb hby at_192) rfl ?_
        show Steps p.tables e below (T413.setTop (mkF m 194 #[.val (.int p0), .val (.int p1), .val (.int p2), .val (.int p3), .val (.int (3 : Int32)), .val (.int (own_e0 p1)), .val (.int (own_e1 p1 p2)), .val (.int (own_e2 p1 p2 p3)), .val (.ref b300), .val (.ref b337), .val (.ref r414), .val (.int (1 : Int32)), .unset, .unset, .unset] [(.int (own_e1 p1 p2)), (.int (own_e1 p1 p2))])) _
        refine XS.icmpNo X413.here hx rfl (hb hby at_194) rfl (teq (rfl : (own_e1 p1 p2) = (own_e1 p1 p2))).2 ?_
        show Steps p.tables e below (T413.setTop (mkF m 197 #[.val (.int p0), .val (.int p1), .val (.int p2), .val (.int p3), .val (.int (3 : Int32)), .val (.int (own_e0 p1)), .val (.int (own_e1 p1 p2)), .val (.int (own_e2 p1 p2 p3)), .val (.ref b300), .val (.ref b337), .val (.ref r414), .val (.int (1 : Int32)), .unset, .unset, .unset] [])) _
        refine XS.iconst X413.here hx rfl (hb hby at_197) ?_
        show Steps p.tables e below (T413.setTop (mkF m 198 #[.val (.int p0), .val (.int p1), .val (.int p2), .val (.int p3), .val (.int (3 : Int32)), .val (.int (own_e0 p1)), .val (.int (own_e1 p1 p2)), .val (.int (own_e2 p1 p2 p3)), .val (.ref b300), .val (.ref b337), .val (.ref r414), .val (.int (1 : Int32)), .unset, .unset, .unset] [(.int (1 : Int32))])) _
        refine XS.goto X413.here hx rfl (pc0 := 198) (pc' := 202) rfl (hb hby at_198) (by decide) (by decide) ?_
        show Steps p.tables e below (T413.setTop (mkF m 202 #[.val (.int p0), .val (.int p1), .val (.int p2), .val (.int p3), .val (.int (3 : Int32)), .val (.int (own_e0 p1)), .val (.int (own_e1 p1 p2)), .val (.int (own_e2 p1 p2 p3)), .val (.ref b300), .val (.ref b337), .val (.ref r414), .val (.int (1 : Int32)), .unset, .unset, .unset] [(.int (1 : Int32))])) _
        refine XS.istore X413.here hx rfl (hb hby at_202) rfl (l' := #[.val (.int p0), .val (.int p1), .val (.int p2), .val (.int p3), .val (.int (3 : Int32)), .val (.int (own_e0 p1)), .val (.int (own_e1 p1 p2)), .val (.int (own_e2 p1 p2 p3)), .val (.ref b300), .val (.ref b337), .val (.ref r414), .val (.int (1 : Int32)), .unset, .unset, .unset]) rfl ?_
        show Steps p.tables e below (T413.setTop (mkF m 204 #[.val (.int p0), .val (.int p1), .val (.int p2), .val (.int p3), .val (.int (3 : Int32)), .val (.int (own_e0 p1)), .val (.int (own_e1 p1 p2)), .val (.int (own_e2 p1 p2 p3)), .val (.ref b300), .val (.ref b337), .val (.ref r414), .val (.int (1 : Int32)), .unset, .unset, .unset] [])) _
        refine XS.iload X413.here hx rfl (hb hby at_204) rfl ?_
        exact kt
      obtain ⟨cl429, Ar429, S429, H429⟩ := id f418
      have hin429 : ¬ ((2 : Int32) < 0 ∨ cl429.slots.size ≤ ((2 : Int32)).toNatClampNeg) := own_inb S429 (by decide) (by decide)
      have hat429 : cl429.slots[((2 : Int32)).toNatClampNeg]? = some (.int (own_e2 p1 p2 p3)) := H429 _ (by decide)
      have pre430 : ∀ t, Steps p.tables e below (T413.setTop (mkF m 231 #[.val (.int p0), .val (.int p1), .val (.int p2), .val (.int p3), .val (.int (3 : Int32)), .val (.int (own_e0 p1)), .val (.int (own_e1 p1 p2)), .val (.int (own_e2 p1 p2 p3)), .val (.ref b300), .val (.ref b337), .val (.ref r414), .val (.int (1 : Int32)), .unset, .unset, .unset] [])) t → Steps p.tables e below (s₁.setTop (entryFrame m #[(.int p0), (.int p1), (.int p2), (.int p3)] maxLocals)) t := by
        intro t kt
        refine pre428 t ?_
        show Steps p.tables e below (T413.setTop (mkF m 206 #[.val (.int p0), .val (.int p1), .val (.int p2), .val (.int p3), .val (.int (3 : Int32)), .val (.int (own_e0 p1)), .val (.int (own_e1 p1 p2)), .val (.int (own_e2 p1 p2 p3)), .val (.ref b300), .val (.ref b337), .val (.ref r414), .val (.int (1 : Int32)), .unset, .unset, .unset] [(.int (3 : Int32))])) _
        refine XS.iconst X413.here hx rfl (hb hby at_206) ?_
        show Steps p.tables e below (T413.setTop (mkF m 207 #[.val (.int p0), .val (.int p1), .val (.int p2), .val (.int p3), .val (.int (3 : Int32)), .val (.int (own_e0 p1)), .val (.int (own_e1 p1 p2)), .val (.int (own_e2 p1 p2 p3)), .val (.ref b300), .val (.ref b337), .val (.ref r414), .val (.int (1 : Int32)), .unset, .unset, .unset] [(.int (2 : Int32)), (.int (3 : Int32))])) _
        refine XS.icmpNo X413.here hx rfl (hb hby at_207) rfl (tlt (by decide : (2 : Int32) < (3 : Int32))).2.2.2 ?_
        show Steps p.tables e below (T413.setTop (mkF m 210 #[.val (.int p0), .val (.int p1), .val (.int p2), .val (.int p3), .val (.int (3 : Int32)), .val (.int (own_e0 p1)), .val (.int (own_e1 p1 p2)), .val (.int (own_e2 p1 p2 p3)), .val (.ref b300), .val (.ref b337), .val (.ref r414), .val (.int (1 : Int32)), .unset, .unset, .unset] [])) _
        refine XS.iload X413.here hx rfl (hb hby at_210) rfl ?_
        show Steps p.tables e below (T413.setTop (mkF m 212 #[.val (.int p0), .val (.int p1), .val (.int p2), .val (.int p3), .val (.int (3 : Int32)), .val (.int (own_e0 p1)), .val (.int (own_e1 p1 p2)), .val (.int (own_e2 p1 p2 p3)), .val (.ref b300), .val (.ref b337), .val (.ref r414), .val (.int (1 : Int32)), .unset, .unset, .unset] [(.int (1 : Int32))])) _
        refine XS.ifNo X413.here hx rfl (hb hby at_212) rfl ((if0 _ _).trans (feq (by decide : ¬ ((1 : Int32) = (0 : Int32)))).1) ?_
        show Steps p.tables e below (T413.setTop (mkF m 215 #[.val (.int p0), .val (.int p1), .val (.int p2), .val (.int p3), .val (.int (3 : Int32)), .val (.int (own_e0 p1)), .val (.int (own_e1 p1 p2)), .val (.int (own_e2 p1 p2 p3)), .val (.ref b300), .val (.ref b337), .val (.ref r414), .val (.int (1 : Int32)), .unset, .unset, .unset] [])) _
        refine XS.aload X413.here hx rfl (hb hby at_215) rfl rfl ?_
        show Steps p.tables e below (T413.setTop (mkF m 217 #[.val (.int p0), .val (.int p1), .val (.int p2), .val (.int p3), .val (.int (3 : Int32)), .val (.int (own_e0 p1)), .val (.int (own_e1 p1 p2)), .val (.int (own_e2 p1 p2 p3)), .val (.ref b300), .val (.ref b337), .val (.ref r414), .val (.int (1 : Int32)), .unset, .unset, .unset] [(.ref b300)])) _
        refine XS.iconst X413.here hx rfl (hb hby at_217) ?_
        show Steps p.tables e below (T413.setTop (mkF m 218 #[.val (.int p0), .val (.int p1), .val (.int p2), .val (.int p3), .val (.int (3 : Int32)), .val (.int (own_e0 p1)), .val (.int (own_e1 p1 p2)), .val (.int (own_e2 p1 p2 p3)), .val (.ref b300), .val (.ref b337), .val (.ref r414), .val (.int (1 : Int32)), .unset, .unset, .unset] [(.int (2 : Int32)), (.ref b300)])) _
        refine X413.iaload hx (j := (2 : Int32)) (v := (.int (own_e2 p1 p2 p3))) Ar429.1 (State.isArrayOf_alike hZ.alike Ar429.2.1) Ar429.2.2 hin429 hat429 (g := (mkF m 218 #[.val (.int p0), .val (.int p1), .val (.int p2), .val (.int p3), .val (.int (3 : Int32)), .val (.int (own_e0 p1)), .val (.int (own_e1 p1 p2)), .val (.int (own_e2 p1 p2 p3)), .val (.ref b300), .val (.ref b337), .val (.ref r414), .val (.int (1 : Int32)), .unset, .unset, .unset] [(.int (2 : Int32)), (.ref b300)])) rfl rfl (hb hby at_218) _ ?_
        show Steps p.tables e below (T413.setTop (mkF m 219 #[.val (.int p0), .val (.int p1), .val (.int p2), .val (.int p3), .val (.int (3 : Int32)), .val (.int (own_e0 p1)), .val (.int (own_e1 p1 p2)), .val (.int (own_e2 p1 p2 p3)), .val (.ref b300), .val (.ref b337), .val (.ref r414), .val (.int (1 : Int32)), .unset, .unset, .unset] [(.int (own_e2 p1 p2 p3))])) _
        refine XS.iload X413.here hx rfl (hb hby at_219) rfl ?_
        show Steps p.tables e below (T413.setTop (mkF m 221 #[.val (.int p0), .val (.int p1), .val (.int p2), .val (.int p3), .val (.int (3 : Int32)), .val (.int (own_e0 p1)), .val (.int (own_e1 p1 p2)), .val (.int (own_e2 p1 p2 p3)), .val (.ref b300), .val (.ref b337), .val (.ref r414), .val (.int (1 : Int32)), .unset, .unset, .unset] [(.int (own_e2 p1 p2 p3)), (.int (own_e2 p1 p2 p3))])) _
        refine XS.icmpNo X413.here hx rfl (hb hby at_221) rfl (teq (rfl : (own_e2 p1 p2 p3) = (own_e2 p1 p2 p3))).2 ?_
        show Steps p.tables e below (T413.setTop (mkF m 224 #[.val (.int p0), .val (.int p1), .val (.int p2), .val (.int p3), .val (.int (3 : Int32)), .val (.int (own_e0 p1)), .val (.int (own_e1 p1 p2)), .val (.int (own_e2 p1 p2 p3)), .val (.ref b300), .val (.ref b337), .val (.ref r414), .val (.int (1 : Int32)), .unset, .unset, .unset] [])) _
        refine XS.iconst X413.here hx rfl (hb hby at_224) ?_
        show Steps p.tables e below (T413.setTop (mkF m 225 #[.val (.int p0), .val (.int p1), .val (.int p2), .val (.int p3), .val (.int (3 : Int32)), .val (.int (own_e0 p1)), .val (.int (own_e1 p1 p2)), .val (.int (own_e2 p1 p2 p3)), .val (.ref b300), .val (.ref b337), .val (.ref r414), .val (.int (1 : Int32)), .unset, .unset, .unset] [(.int (1 : Int32))])) _
        refine XS.goto X413.here hx rfl (pc0 := 225) (pc' := 229) rfl (hb hby at_225) (by decide) (by decide) ?_
        show Steps p.tables e below (T413.setTop (mkF m 229 #[.val (.int p0), .val (.int p1), .val (.int p2), .val (.int p3), .val (.int (3 : Int32)), .val (.int (own_e0 p1)), .val (.int (own_e1 p1 p2)), .val (.int (own_e2 p1 p2 p3)), .val (.ref b300), .val (.ref b337), .val (.ref r414), .val (.int (1 : Int32)), .unset, .unset, .unset] [(.int (1 : Int32))])) _
        refine XS.istore X413.here hx rfl (hb hby at_229) rfl (l' := #[.val (.int p0), .val (.int p1), .val (.int p2), .val (.int p3), .val (.int (3 : Int32)), .val (.int (own_e0 p1)), .val (.int (own_e1 p1 p2)), .val (.int (own_e2 p1 p2 p3)), .val (.ref b300), .val (.ref b337), .val (.ref r414), .val (.int (1 : Int32)), .unset, .unset, .unset]) rfl ?_
        exact kt
      have pre431 : ∀ t, Steps p.tables e below (T413.setTop (mkF m 264 #[.val (.int p0), .val (.int p1), .val (.int p2), .val (.int p3), .val (.int (3 : Int32)), .val (.int (own_e0 p1)), .val (.int (own_e1 p1 p2)), .val (.int (own_e2 p1 p2 p3)), .val (.ref b300), .val (.ref b337), .val (.ref r414), .val (.int (1 : Int32)), .val (.int (0 : Int32)), .val (.int (0 : Int32)), .unset] [(.int (0 : Int32)), (.int (3 : Int32))])) t → Steps p.tables e below (s₁.setTop (entryFrame m #[(.int p0), (.int p1), (.int p2), (.int p3)] maxLocals)) t := by
        intro t kt
        refine pre430 t ?_
        show Steps p.tables e below (T413.setTop (mkF m 231 #[.val (.int p0), .val (.int p1), .val (.int p2), .val (.int p3), .val (.int (3 : Int32)), .val (.int (own_e0 p1)), .val (.int (own_e1 p1 p2)), .val (.int (own_e2 p1 p2 p3)), .val (.ref b300), .val (.ref b337), .val (.ref r414), .val (.int (1 : Int32)), .unset, .unset, .unset] [])) _
        refine XS.iload X413.here hx rfl (hb hby at_231) rfl ?_
        show Steps p.tables e below (T413.setTop (mkF m 233 #[.val (.int p0), .val (.int p1), .val (.int p2), .val (.int p3), .val (.int (3 : Int32)), .val (.int (own_e0 p1)), .val (.int (own_e1 p1 p2)), .val (.int (own_e2 p1 p2 p3)), .val (.ref b300), .val (.ref b337), .val (.ref r414), .val (.int (1 : Int32)), .unset, .unset, .unset] [(.int (3 : Int32))])) _
        refine XS.ifNo X413.here hx rfl (hb hby at_233) rfl ((if0 _ _).trans (tlt (by decide : (0 : Int32) < (3 : Int32))).2.2.2) ?_
        show Steps p.tables e below (T413.setTop (mkF m 236 #[.val (.int p0), .val (.int p1), .val (.int p2), .val (.int p3), .val (.int (3 : Int32)), .val (.int (own_e0 p1)), .val (.int (own_e1 p1 p2)), .val (.int (own_e2 p1 p2 p3)), .val (.ref b300), .val (.ref b337), .val (.ref r414), .val (.int (1 : Int32)), .unset, .unset, .unset] [])) _
        refine XS.iload X413.here hx rfl (hb hby at_236) rfl ?_
        show Steps p.tables e below (T413.setTop (mkF m 238 #[.val (.int p0), .val (.int p1), .val (.int p2), .val (.int p3), .val (.int (3 : Int32)), .val (.int (own_e0 p1)), .val (.int (own_e1 p1 p2)), .val (.int (own_e2 p1 p2 p3)), .val (.ref b300), .val (.ref b337), .val (.ref r414), .val (.int (1 : Int32)), .unset, .unset, .unset] [(.int (own_e0 p1))])) _
        refine XS.ifYes X413.here hx rfl (pc0 := 238) (pc' := 245) rfl (hb hby at_238) rfl ((if0 _ _).trans (feq hz0).2) (by decide) (by decide) ?_
        show Steps p.tables e below (T413.setTop (mkF m 245 #[.val (.int p0), .val (.int p1), .val (.int p2), .val (.int p3), .val (.int (3 : Int32)), .val (.int (own_e0 p1)), .val (.int (own_e1 p1 p2)), .val (.int (own_e2 p1 p2 p3)), .val (.ref b300), .val (.ref b337), .val (.ref r414), .val (.int (1 : Int32)), .unset, .unset, .unset] [])) _
        refine XS.iconst X413.here hx rfl (hb hby at_245) ?_
        show Steps p.tables e below (T413.setTop (mkF m 246 #[.val (.int p0), .val (.int p1), .val (.int p2), .val (.int p3), .val (.int (3 : Int32)), .val (.int (own_e0 p1)), .val (.int (own_e1 p1 p2)), .val (.int (own_e2 p1 p2 p3)), .val (.ref b300), .val (.ref b337), .val (.ref r414), .val (.int (1 : Int32)), .unset, .unset, .unset] [(.int (0 : Int32))])) _
        refine XS.istore X413.here hx rfl (hb hby at_246) rfl (l' := #[.val (.int p0), .val (.int p1), .val (.int p2), .val (.int p3), .val (.int (3 : Int32)), .val (.int (own_e0 p1)), .val (.int (own_e1 p1 p2)), .val (.int (own_e2 p1 p2 p3)), .val (.ref b300), .val (.ref b337), .val (.ref r414), .val (.int (1 : Int32)), .val (.int (0 : Int32)), .unset, .unset]) rfl ?_
        show Steps p.tables e below (T413.setTop (mkF m 248 #[.val (.int p0), .val (.int p1), .val (.int p2), .val (.int p3), .val (.int (3 : Int32)), .val (.int (own_e0 p1)), .val (.int (own_e1 p1 p2)), .val (.int (own_e2 p1 p2 p3)), .val (.ref b300), .val (.ref b337), .val (.ref r414), .val (.int (1 : Int32)), .val (.int (0 : Int32)), .unset, .unset] [])) _
        refine XS.iload X413.here hx rfl (hb hby at_248) rfl ?_
        show Steps p.tables e below (T413.setTop (mkF m 250 #[.val (.int p0), .val (.int p1), .val (.int p2), .val (.int p3), .val (.int (3 : Int32)), .val (.int (own_e0 p1)), .val (.int (own_e1 p1 p2)), .val (.int (own_e2 p1 p2 p3)), .val (.ref b300), .val (.ref b337), .val (.ref r414), .val (.int (1 : Int32)), .val (.int (0 : Int32)), .unset, .unset] [(.int (0 : Int32))])) _
        refine XS.ifYes X413.here hx rfl (pc0 := 250) (pc' := 257) rfl (hb hby at_250) rfl ((if0 _ _).trans (teq (rfl : (0 : Int32) = (0 : Int32))).1) (by decide) (by decide) ?_
        show Steps p.tables e below (T413.setTop (mkF m 257 #[.val (.int p0), .val (.int p1), .val (.int p2), .val (.int p3), .val (.int (3 : Int32)), .val (.int (own_e0 p1)), .val (.int (own_e1 p1 p2)), .val (.int (own_e2 p1 p2 p3)), .val (.ref b300), .val (.ref b337), .val (.ref r414), .val (.int (1 : Int32)), .val (.int (0 : Int32)), .unset, .unset] [])) _
        refine XS.iconst X413.here hx rfl (hb hby at_257) ?_
        show Steps p.tables e below (T413.setTop (mkF m 258 #[.val (.int p0), .val (.int p1), .val (.int p2), .val (.int p3), .val (.int (3 : Int32)), .val (.int (own_e0 p1)), .val (.int (own_e1 p1 p2)), .val (.int (own_e2 p1 p2 p3)), .val (.ref b300), .val (.ref b337), .val (.ref r414), .val (.int (1 : Int32)), .val (.int (0 : Int32)), .unset, .unset] [(.int (0 : Int32))])) _
        refine XS.istore X413.here hx rfl (hb hby at_258) rfl (l' := #[.val (.int p0), .val (.int p1), .val (.int p2), .val (.int p3), .val (.int (3 : Int32)), .val (.int (own_e0 p1)), .val (.int (own_e1 p1 p2)), .val (.int (own_e2 p1 p2 p3)), .val (.ref b300), .val (.ref b337), .val (.ref r414), .val (.int (1 : Int32)), .val (.int (0 : Int32)), .val (.int (0 : Int32)), .unset]) rfl ?_
        show Steps p.tables e below (T413.setTop (mkF m 260 #[.val (.int p0), .val (.int p1), .val (.int p2), .val (.int p3), .val (.int (3 : Int32)), .val (.int (own_e0 p1)), .val (.int (own_e1 p1 p2)), .val (.int (own_e2 p1 p2 p3)), .val (.ref b300), .val (.ref b337), .val (.ref r414), .val (.int (1 : Int32)), .val (.int (0 : Int32)), .val (.int (0 : Int32)), .unset] [])) _
        refine XS.iload X413.here hx rfl (hb hby at_260) rfl ?_
        show Steps p.tables e below (T413.setTop (mkF m 262 #[.val (.int p0), .val (.int p1), .val (.int p2), .val (.int p3), .val (.int (3 : Int32)), .val (.int (own_e0 p1)), .val (.int (own_e1 p1 p2)), .val (.int (own_e2 p1 p2 p3)), .val (.ref b300), .val (.ref b337), .val (.ref r414), .val (.int (1 : Int32)), .val (.int (0 : Int32)), .val (.int (0 : Int32)), .unset] [(.int (3 : Int32))])) _
        refine XS.iload X413.here hx rfl (hb hby at_262) rfl ?_
        exact kt
      obtain ⟨cl432, Ar432, S432, -⟩ := id c414_1
      have pre433 : ∀ t, Steps p.tables e below (T413.setTop (mkF m 292 #[.val (.int p0), .val (.int p1), .val (.int p2), .val (.int p3), .val (.int (3 : Int32)), .val (.int (own_e0 p1)), .val (.int (own_e1 p1 p2)), .val (.int (own_e2 p1 p2 p3)), .val (.ref b300), .val (.ref b337), .val (.ref r414), .val (.int (1 : Int32)), .val (.int (0 : Int32)), .val (.int (0 : Int32)), .val (.int (3 : Int32))] [])) t → Steps p.tables e below (s₁.setTop (entryFrame m #[(.int p0), (.int p1), (.int p2), (.int p3)] maxLocals)) t := by
        intro t kt
        refine pre431 t ?_
        show Steps p.tables e below (T413.setTop (mkF m 264 #[.val (.int p0), .val (.int p1), .val (.int p2), .val (.int p3), .val (.int (3 : Int32)), .val (.int (own_e0 p1)), .val (.int (own_e1 p1 p2)), .val (.int (own_e2 p1 p2 p3)), .val (.ref b300), .val (.ref b337), .val (.ref r414), .val (.int (1 : Int32)), .val (.int (0 : Int32)), .val (.int (0 : Int32)), .unset] [(.int (0 : Int32)), (.int (3 : Int32))])) _
        refine XS.isub X413.here hx rfl (hb hby at_264) rfl ?_
        show Steps p.tables e below (T413.setTop (mkF m 265 #[.val (.int p0), .val (.int p1), .val (.int p2), .val (.int p3), .val (.int (3 : Int32)), .val (.int (own_e0 p1)), .val (.int (own_e1 p1 p2)), .val (.int (own_e2 p1 p2 p3)), .val (.ref b300), .val (.ref b337), .val (.ref r414), .val (.int (1 : Int32)), .val (.int (0 : Int32)), .val (.int (0 : Int32)), .unset] [(.int (3 : Int32))])) _
        refine XS.istore X413.here hx rfl (hb hby at_265) rfl (l' := #[.val (.int p0), .val (.int p1), .val (.int p2), .val (.int p3), .val (.int (3 : Int32)), .val (.int (own_e0 p1)), .val (.int (own_e1 p1 p2)), .val (.int (own_e2 p1 p2 p3)), .val (.ref b300), .val (.ref b337), .val (.ref r414), .val (.int (1 : Int32)), .val (.int (0 : Int32)), .val (.int (0 : Int32)), .val (.int (3 : Int32))]) rfl ?_
        show Steps p.tables e below (T413.setTop (mkF m 267 #[.val (.int p0), .val (.int p1), .val (.int p2), .val (.int p3), .val (.int (3 : Int32)), .val (.int (own_e0 p1)), .val (.int (own_e1 p1 p2)), .val (.int (own_e2 p1 p2 p3)), .val (.ref b300), .val (.ref b337), .val (.ref r414), .val (.int (1 : Int32)), .val (.int (0 : Int32)), .val (.int (0 : Int32)), .val (.int (3 : Int32))] [])) _
        refine XS.aload X413.here hx rfl (hb hby at_267) rfl rfl ?_
        show Steps p.tables e below (T413.setTop (mkF m 269 #[.val (.int p0), .val (.int p1), .val (.int p2), .val (.int p3), .val (.int (3 : Int32)), .val (.int (own_e0 p1)), .val (.int (own_e1 p1 p2)), .val (.int (own_e2 p1 p2 p3)), .val (.ref b300), .val (.ref b337), .val (.ref r414), .val (.int (1 : Int32)), .val (.int (0 : Int32)), .val (.int (0 : Int32)), .val (.int (3 : Int32))] [(.ref r414)])) _
        refine XS.ifnullNo X413.here hx rfl (hb hby at_269) rfl ?_
        show Steps p.tables e below (T413.setTop (mkF m 272 #[.val (.int p0), .val (.int p1), .val (.int p2), .val (.int p3), .val (.int (3 : Int32)), .val (.int (own_e0 p1)), .val (.int (own_e1 p1 p2)), .val (.int (own_e2 p1 p2 p3)), .val (.ref b300), .val (.ref b337), .val (.ref r414), .val (.int (1 : Int32)), .val (.int (0 : Int32)), .val (.int (0 : Int32)), .val (.int (3 : Int32))] [])) _
        refine XS.aload X413.here hx rfl (hb hby at_272) rfl rfl ?_
        show Steps p.tables e below (T413.setTop (mkF m 274 #[.val (.int p0), .val (.int p1), .val (.int p2), .val (.int p3), .val (.int (3 : Int32)), .val (.int (own_e0 p1)), .val (.int (own_e1 p1 p2)), .val (.int (own_e2 p1 p2 p3)), .val (.ref b300), .val (.ref b337), .val (.ref r414), .val (.int (1 : Int32)), .val (.int (0 : Int32)), .val (.int (0 : Int32)), .val (.int (3 : Int32))] [(.ref r414)])) _
        refine X413.arraylength hx Ar432.1 (State.isArrayOf_alike hZ.alike Ar432.2.1) (g := (mkF m 274 #[.val (.int p0), .val (.int p1), .val (.int p2), .val (.int p3), .val (.int (3 : Int32)), .val (.int (own_e0 p1)), .val (.int (own_e1 p1 p2)), .val (.int (own_e2 p1 p2 p3)), .val (.ref b300), .val (.ref b337), .val (.ref r414), .val (.int (1 : Int32)), .val (.int (0 : Int32)), .val (.int (0 : Int32)), .val (.int (3 : Int32))] [(.ref r414)])) rfl rfl (hb hby at_274) _ ?_
        rw [own_len (z := (3 : Int32)) S432 rfl]
        show Steps p.tables e below (T413.setTop (mkF m 275 #[.val (.int p0), .val (.int p1), .val (.int p2), .val (.int p3), .val (.int (3 : Int32)), .val (.int (own_e0 p1)), .val (.int (own_e1 p1 p2)), .val (.int (own_e2 p1 p2 p3)), .val (.ref b300), .val (.ref b337), .val (.ref r414), .val (.int (1 : Int32)), .val (.int (0 : Int32)), .val (.int (0 : Int32)), .val (.int (3 : Int32))] [(.int (3 : Int32))])) _
        refine XS.iload X413.here hx rfl (hb hby at_275) rfl ?_
        show Steps p.tables e below (T413.setTop (mkF m 277 #[.val (.int p0), .val (.int p1), .val (.int p2), .val (.int p3), .val (.int (3 : Int32)), .val (.int (own_e0 p1)), .val (.int (own_e1 p1 p2)), .val (.int (own_e2 p1 p2 p3)), .val (.ref b300), .val (.ref b337), .val (.ref r414), .val (.int (1 : Int32)), .val (.int (0 : Int32)), .val (.int (0 : Int32)), .val (.int (3 : Int32))] [(.int (3 : Int32)), (.int (3 : Int32))])) _
        refine XS.icmpYes X413.here hx rfl (pc0 := 277) (pc' := 282) rfl (hb hby at_277) rfl (teq (rfl : (3 : Int32) = (3 : Int32))).1 (by decide) (by decide) ?_
        show Steps p.tables e below (T413.setTop (mkF m 282 #[.val (.int p0), .val (.int p1), .val (.int p2), .val (.int p3), .val (.int (3 : Int32)), .val (.int (own_e0 p1)), .val (.int (own_e1 p1 p2)), .val (.int (own_e2 p1 p2 p3)), .val (.ref b300), .val (.ref b337), .val (.ref r414), .val (.int (1 : Int32)), .val (.int (0 : Int32)), .val (.int (0 : Int32)), .val (.int (3 : Int32))] [])) _
        refine XS.iload X413.here hx rfl (hb hby at_282) rfl ?_
        show Steps p.tables e below (T413.setTop (mkF m 284 #[.val (.int p0), .val (.int p1), .val (.int p2), .val (.int p3), .val (.int (3 : Int32)), .val (.int (own_e0 p1)), .val (.int (own_e1 p1 p2)), .val (.int (own_e2 p1 p2 p3)), .val (.ref b300), .val (.ref b337), .val (.ref r414), .val (.int (1 : Int32)), .val (.int (0 : Int32)), .val (.int (0 : Int32)), .val (.int (3 : Int32))] [(.int (3 : Int32))])) _
        refine XS.ifNo X413.here hx rfl (hb hby at_284) rfl ((if0 _ _).trans (tlt (by decide : (0 : Int32) < (3 : Int32))).2.2.2) ?_
        show Steps p.tables e below (T413.setTop (mkF m 287 #[.val (.int p0), .val (.int p1), .val (.int p2), .val (.int p3), .val (.int (3 : Int32)), .val (.int (own_e0 p1)), .val (.int (own_e1 p1 p2)), .val (.int (own_e2 p1 p2 p3)), .val (.ref b300), .val (.ref b337), .val (.ref r414), .val (.int (1 : Int32)), .val (.int (0 : Int32)), .val (.int (0 : Int32)), .val (.int (3 : Int32))] [])) _
        refine XS.iload X413.here hx rfl (hb hby at_287) rfl ?_
        show Steps p.tables e below (T413.setTop (mkF m 289 #[.val (.int p0), .val (.int p1), .val (.int p2), .val (.int p3), .val (.int (3 : Int32)), .val (.int (own_e0 p1)), .val (.int (own_e1 p1 p2)), .val (.int (own_e2 p1 p2 p3)), .val (.ref b300), .val (.ref b337), .val (.ref r414), .val (.int (1 : Int32)), .val (.int (0 : Int32)), .val (.int (0 : Int32)), .val (.int (3 : Int32))] [(.int (1 : Int32))])) _
        refine XS.ifNo X413.here hx rfl (hb hby at_289) rfl ((if0 _ _).trans (feq (by decide : ¬ ((1 : Int32) = (0 : Int32)))).1) ?_
        exact kt
      obtain ⟨cl434, Ar434, S434, H434⟩ := id c414_1
      have hin434 : ¬ ((0 : Int32) < 0 ∨ cl434.slots.size ≤ ((0 : Int32)).toNatClampNeg) := own_inb S434 (by decide) (by decide)
      have hat434 : cl434.slots[((0 : Int32)).toNatClampNeg]? = some (.int ((own_e0 p1) - (1 : Int32))) := H434 _ (by decide)
      obtain ⟨cl435, Ar435, S435, H435⟩ := id f420
      have hin435 : ¬ ((0 : Int32) < 0 ∨ cl435.slots.size ≤ ((0 : Int32)).toNatClampNeg) := own_inb S435 (by decide) (by decide)
      have hat435 : cl435.slots[((0 : Int32)).toNatClampNeg]? = some (.int (own_e0 p1)) := H435 _ (by decide)
      have pre436 : ∀ t, Steps p.tables e below (T413.setTop (mkF m 313 #[.val (.int p0), .val (.int p1), .val (.int p2), .val (.int p3), .val (.int (3 : Int32)), .val (.int (own_e0 p1)), .val (.int (own_e1 p1 p2)), .val (.int (own_e2 p1 p2 p3)), .val (.ref b300), .val (.ref b337), .val (.ref r414), .val (.int (1 : Int32)), .val (.int (0 : Int32)), .val (.int (0 : Int32)), .val (.int (3 : Int32))] [])) t → Steps p.tables e below (s₁.setTop (entryFrame m #[(.int p0), (.int p1), (.int p2), (.int p3)] maxLocals)) t := by
        intro t kt
        refine pre433 t ?_
        show Steps p.tables e below (T413.setTop (mkF m 292 #[.val (.int p0), .val (.int p1), .val (.int p2), .val (.int p3), .val (.int (3 : Int32)), .val (.int (own_e0 p1)), .val (.int (own_e1 p1 p2)), .val (.int (own_e2 p1 p2 p3)), .val (.ref b300), .val (.ref b337), .val (.ref r414), .val (.int (1 : Int32)), .val (.int (0 : Int32)), .val (.int (0 : Int32)), .val (.int (3 : Int32))] [])) _
        refine XS.aload X413.here hx rfl (hb hby at_292) rfl rfl ?_
        show Steps p.tables e below (T413.setTop (mkF m 294 #[.val (.int p0), .val (.int p1), .val (.int p2), .val (.int p3), .val (.int (3 : Int32)), .val (.int (own_e0 p1)), .val (.int (own_e1 p1 p2)), .val (.int (own_e2 p1 p2 p3)), .val (.ref b300), .val (.ref b337), .val (.ref r414), .val (.int (1 : Int32)), .val (.int (0 : Int32)), .val (.int (0 : Int32)), .val (.int (3 : Int32))] [(.ref r414)])) _
        refine XS.iconst X413.here hx rfl (hb hby at_294) ?_
        show Steps p.tables e below (T413.setTop (mkF m 295 #[.val (.int p0), .val (.int p1), .val (.int p2), .val (.int p3), .val (.int (3 : Int32)), .val (.int (own_e0 p1)), .val (.int (own_e1 p1 p2)), .val (.int (own_e2 p1 p2 p3)), .val (.ref b300), .val (.ref b337), .val (.ref r414), .val (.int (1 : Int32)), .val (.int (0 : Int32)), .val (.int (0 : Int32)), .val (.int (3 : Int32))] [(.int (0 : Int32)), (.ref r414)])) _
        refine X413.iaload hx (j := (0 : Int32)) (v := (.int ((own_e0 p1) - (1 : Int32)))) Ar434.1 (State.isArrayOf_alike hZ.alike Ar434.2.1) Ar434.2.2 hin434 hat434 (g := (mkF m 295 #[.val (.int p0), .val (.int p1), .val (.int p2), .val (.int p3), .val (.int (3 : Int32)), .val (.int (own_e0 p1)), .val (.int (own_e1 p1 p2)), .val (.int (own_e2 p1 p2 p3)), .val (.ref b300), .val (.ref b337), .val (.ref r414), .val (.int (1 : Int32)), .val (.int (0 : Int32)), .val (.int (0 : Int32)), .val (.int (3 : Int32))] [(.int (0 : Int32)), (.ref r414)])) rfl rfl (hb hby at_295) _ ?_
        show Steps p.tables e below (T413.setTop (mkF m 296 #[.val (.int p0), .val (.int p1), .val (.int p2), .val (.int p3), .val (.int (3 : Int32)), .val (.int (own_e0 p1)), .val (.int (own_e1 p1 p2)), .val (.int (own_e2 p1 p2 p3)), .val (.ref b300), .val (.ref b337), .val (.ref r414), .val (.int (1 : Int32)), .val (.int (0 : Int32)), .val (.int (0 : Int32)), .val (.int (3 : Int32))] [(.int ((own_e0 p1) - (1 : Int32)))])) _
        refine XS.aload X413.here hx rfl (hb hby at_296) rfl rfl ?_
        show Steps p.tables e below (T413.setTop (mkF m 298 #[.val (.int p0), .val (.int p1), .val (.int p2), .val (.int p3), .val (.int (3 : Int32)), .val (.int (own_e0 p1)), .val (.int (own_e1 p1 p2)), .val (.int (own_e2 p1 p2 p3)), .val (.ref b300), .val (.ref b337), .val (.ref r414), .val (.int (1 : Int32)), .val (.int (0 : Int32)), .val (.int (0 : Int32)), .val (.int (3 : Int32))] [(.ref b337), (.int ((own_e0 p1) - (1 : Int32)))])) _
        refine XS.iload X413.here hx rfl (hb hby at_298) rfl ?_
        show Steps p.tables e below (T413.setTop (mkF m 300 #[.val (.int p0), .val (.int p1), .val (.int p2), .val (.int p3), .val (.int (3 : Int32)), .val (.int (own_e0 p1)), .val (.int (own_e1 p1 p2)), .val (.int (own_e2 p1 p2 p3)), .val (.ref b300), .val (.ref b337), .val (.ref r414), .val (.int (1 : Int32)), .val (.int (0 : Int32)), .val (.int (0 : Int32)), .val (.int (3 : Int32))] [(.int (0 : Int32)), (.ref b337), (.int ((own_e0 p1) - (1 : Int32)))])) _
        refine X413.iaload hx (j := (0 : Int32)) (v := (.int (own_e0 p1))) Ar435.1 (State.isArrayOf_alike hZ.alike Ar435.2.1) Ar435.2.2 hin435 hat435 (g := (mkF m 300 #[.val (.int p0), .val (.int p1), .val (.int p2), .val (.int p3), .val (.int (3 : Int32)), .val (.int (own_e0 p1)), .val (.int (own_e1 p1 p2)), .val (.int (own_e2 p1 p2 p3)), .val (.ref b300), .val (.ref b337), .val (.ref r414), .val (.int (1 : Int32)), .val (.int (0 : Int32)), .val (.int (0 : Int32)), .val (.int (3 : Int32))] [(.int (0 : Int32)), (.ref b337), (.int ((own_e0 p1) - (1 : Int32)))])) rfl rfl (hb hby at_300) _ ?_
        show Steps p.tables e below (T413.setTop (mkF m 301 #[.val (.int p0), .val (.int p1), .val (.int p2), .val (.int p3), .val (.int (3 : Int32)), .val (.int (own_e0 p1)), .val (.int (own_e1 p1 p2)), .val (.int (own_e2 p1 p2 p3)), .val (.ref b300), .val (.ref b337), .val (.ref r414), .val (.int (1 : Int32)), .val (.int (0 : Int32)), .val (.int (0 : Int32)), .val (.int (3 : Int32))] [(.int (own_e0 p1)), (.int ((own_e0 p1) - (1 : Int32)))])) _
        refine XS.iconst X413.here hx rfl (hb hby at_301) ?_
        show Steps p.tables e below (T413.setTop (mkF m 302 #[.val (.int p0), .val (.int p1), .val (.int p2), .val (.int p3), .val (.int (3 : Int32)), .val (.int (own_e0 p1)), .val (.int (own_e1 p1 p2)), .val (.int (own_e2 p1 p2 p3)), .val (.ref b300), .val (.ref b337), .val (.ref r414), .val (.int (1 : Int32)), .val (.int (0 : Int32)), .val (.int (0 : Int32)), .val (.int (3 : Int32))] [(.int (1 : Int32)), (.int (own_e0 p1)), (.int ((own_e0 p1) - (1 : Int32)))])) _
        refine XS.isub X413.here hx rfl (hb hby at_302) rfl ?_
        show Steps p.tables e below (T413.setTop (mkF m 303 #[.val (.int p0), .val (.int p1), .val (.int p2), .val (.int p3), .val (.int (3 : Int32)), .val (.int (own_e0 p1)), .val (.int (own_e1 p1 p2)), .val (.int (own_e2 p1 p2 p3)), .val (.ref b300), .val (.ref b337), .val (.ref r414), .val (.int (1 : Int32)), .val (.int (0 : Int32)), .val (.int (0 : Int32)), .val (.int (3 : Int32))] [(.int ((own_e0 p1) - (1 : Int32))), (.int ((own_e0 p1) - (1 : Int32)))])) _
        refine XS.icmpNo X413.here hx rfl (hb hby at_303) rfl (teq (rfl : ((own_e0 p1) - (1 : Int32)) = ((own_e0 p1) - (1 : Int32)))).2 ?_
        show Steps p.tables e below (T413.setTop (mkF m 306 #[.val (.int p0), .val (.int p1), .val (.int p2), .val (.int p3), .val (.int (3 : Int32)), .val (.int (own_e0 p1)), .val (.int (own_e1 p1 p2)), .val (.int (own_e2 p1 p2 p3)), .val (.ref b300), .val (.ref b337), .val (.ref r414), .val (.int (1 : Int32)), .val (.int (0 : Int32)), .val (.int (0 : Int32)), .val (.int (3 : Int32))] [])) _
        refine XS.iconst X413.here hx rfl (hb hby at_306) ?_
        show Steps p.tables e below (T413.setTop (mkF m 307 #[.val (.int p0), .val (.int p1), .val (.int p2), .val (.int p3), .val (.int (3 : Int32)), .val (.int (own_e0 p1)), .val (.int (own_e1 p1 p2)), .val (.int (own_e2 p1 p2 p3)), .val (.ref b300), .val (.ref b337), .val (.ref r414), .val (.int (1 : Int32)), .val (.int (0 : Int32)), .val (.int (0 : Int32)), .val (.int (3 : Int32))] [(.int (1 : Int32))])) _
        refine XS.goto X413.here hx rfl (pc0 := 307) (pc' := 311) rfl (hb hby at_307) (by decide) (by decide) ?_
        show Steps p.tables e below (T413.setTop (mkF m 311 #[.val (.int p0), .val (.int p1), .val (.int p2), .val (.int p3), .val (.int (3 : Int32)), .val (.int (own_e0 p1)), .val (.int (own_e1 p1 p2)), .val (.int (own_e2 p1 p2 p3)), .val (.ref b300), .val (.ref b337), .val (.ref r414), .val (.int (1 : Int32)), .val (.int (0 : Int32)), .val (.int (0 : Int32)), .val (.int (3 : Int32))] [(.int (1 : Int32))])) _
        refine XS.istore X413.here hx rfl (hb hby at_311) rfl (l' := #[.val (.int p0), .val (.int p1), .val (.int p2), .val (.int p3), .val (.int (3 : Int32)), .val (.int (own_e0 p1)), .val (.int (own_e1 p1 p2)), .val (.int (own_e2 p1 p2 p3)), .val (.ref b300), .val (.ref b337), .val (.ref r414), .val (.int (1 : Int32)), .val (.int (0 : Int32)), .val (.int (0 : Int32)), .val (.int (3 : Int32))]) rfl ?_
        exact kt
      obtain ⟨cl437, Ar437, S437, H437⟩ := id c414_1
      have hin437 : ¬ ((1 : Int32) < 0 ∨ cl437.slots.size ≤ ((1 : Int32)).toNatClampNeg) := own_inb S437 (by decide) (by decide)
      have hat437 : cl437.slots[((1 : Int32)).toNatClampNeg]? = some (.int ((own_e1 p1 p2) - (1 : Int32))) := H437 _ (by decide)
      have pre438 : ∀ t, Steps p.tables e below (T413.setTop (mkF m 334 #[.val (.int p0), .val (.int p1), .val (.int p2), .val (.int p3), .val (.int (3 : Int32)), .val (.int (own_e0 p1)), .val (.int (own_e1 p1 p2)), .val (.int (own_e2 p1 p2 p3)), .val (.ref b300), .val (.ref b337), .val (.ref r414), .val (.int (1 : Int32)), .val (.int (0 : Int32)), .val (.int (0 : Int32)), .val (.int (3 : Int32))] [(.int (1 : Int32)), (.ref b337), (.int ((own_e1 p1 p2) - (1 : Int32)))])) t → Steps p.tables e below (s₁.setTop (entryFrame m #[(.int p0), (.int p1), (.int p2), (.int p3)] maxLocals)) t := by
        intro t kt
        refine pre436 t ?_
        show Steps p.tables e below (T413.setTop (mkF m 313 #[.val (.int p0), .val (.int p1), .val (.int p2), .val (.int p3), .val (.int (3 : Int32)), .val (.int (own_e0 p1)), .val (.int (own_e1 p1 p2)), .val (.int (own_e2 p1 p2 p3)), .val (.ref b300), .val (.ref b337), .val (.ref r414), .val (.int (1 : Int32)), .val (.int (0 : Int32)), .val (.int (0 : Int32)), .val (.int (3 : Int32))] [])) _
        refine XS.iload X413.here hx rfl (hb hby at_313) rfl ?_
        show Steps p.tables e below (T413.setTop (mkF m 315 #[.val (.int p0), .val (.int p1), .val (.int p2), .val (.int p3), .val (.int (3 : Int32)), .val (.int (own_e0 p1)), .val (.int (own_e1 p1 p2)), .val (.int (own_e2 p1 p2 p3)), .val (.ref b300), .val (.ref b337), .val (.ref r414), .val (.int (1 : Int32)), .val (.int (0 : Int32)), .val (.int (0 : Int32)), .val (.int (3 : Int32))] [(.int (3 : Int32))])) _
        refine XS.iconst X413.here hx rfl (hb hby at_315) ?_
        show Steps p.tables e below (T413.setTop (mkF m 316 #[.val (.int p0), .val (.int p1), .val (.int p2), .val (.int p3), .val (.int (3 : Int32)), .val (.int (own_e0 p1)), .val (.int (own_e1 p1 p2)), .val (.int (own_e2 p1 p2 p3)), .val (.ref b300), .val (.ref b337), .val (.ref r414), .val (.int (1 : Int32)), .val (.int (0 : Int32)), .val (.int (0 : Int32)), .val (.int (3 : Int32))] [(.int (1 : Int32)), (.int (3 : Int32))])) _
        refine XS.icmpNo X413.here hx rfl (hb hby at_316) rfl (tlt (by decide : (1 : Int32) < (3 : Int32))).2.2.2 ?_
        show Steps p.tables e below (T413.setTop (mkF m 319 #[.val (.int p0), .val (.int p1), .val (.int p2), .val (.int p3), .val (.int (3 : Int32)), .val (.int (own_e0 p1)), .val (.int (own_e1 p1 p2)), .val (.int (own_e2 p1 p2 p3)), .val (.ref b300), .val (.ref b337), .val (.ref r414), .val (.int (1 : Int32)), .val (.int (0 : Int32)), .val (.int (0 : Int32)), .val (.int (3 : Int32))] [])) _
        refine XS.iload X413.here hx rfl (hb hby at_319) rfl ?_
        show Steps p.tables e below (T413.setTop (mkF m 321 #[.val (.int p0), .val (.int p1), .val (.int p2), .val (.int p3), .val (.int (3 : Int32)), .val (.int (own_e0 p1)), .val (.int (own_e1 p1 p2)), .val (.int (own_e2 p1 p2 p3)), .val (.ref b300), .val (.ref b337), .val (.ref r414), .val (.int (1 : Int32)), .val (.int (0 : Int32)), .val (.int (0 : Int32)), .val (.int (3 : Int32))] [(.int (1 : Int32))])) _
        refine XS.ifNo X413.here hx rfl (hb hby at_321) rfl ((if0 _ _).trans (feq (by decide : ¬ ((1 : Int32) = (0 : Int32)))).1) ?_
        show Steps p.tables e below (T413.setTop (mkF m 324 #[.val (.int p0), .val (.int p1), .val (.int p2), .val (.int p3), .val (.int (3 : Int32)), .val (.int (own_e0 p1)), .val (.int (own_e1 p1 p2)), .val (.int (own_e2 p1 p2 p3)), .val (.ref b300), .val (.ref b337), .val (.ref r414), .val (.int (1 : Int32)), .val (.int (0 : Int32)), .val (.int (0 : Int32)), .val (.int (3 : Int32))] [])) _
        refine XS.aload X413.here hx rfl (hb hby at_324) rfl rfl ?_
        show Steps p.tables e below (T413.setTop (mkF m 326 #[.val (.int p0), .val (.int p1), .val (.int p2), .val (.int p3), .val (.int (3 : Int32)), .val (.int (own_e0 p1)), .val (.int (own_e1 p1 p2)), .val (.int (own_e2 p1 p2 p3)), .val (.ref b300), .val (.ref b337), .val (.ref r414), .val (.int (1 : Int32)), .val (.int (0 : Int32)), .val (.int (0 : Int32)), .val (.int (3 : Int32))] [(.ref r414)])) _
        refine XS.iconst X413.here hx rfl (hb hby at_326) ?_
        show Steps p.tables e below (T413.setTop (mkF m 327 #[.val (.int p0), .val (.int p1), .val (.int p2), .val (.int p3), .val (.int (3 : Int32)), .val (.int (own_e0 p1)), .val (.int (own_e1 p1 p2)), .val (.int (own_e2 p1 p2 p3)), .val (.ref b300), .val (.ref b337), .val (.ref r414), .val (.int (1 : Int32)), .val (.int (0 : Int32)), .val (.int (0 : Int32)), .val (.int (3 : Int32))] [(.int (1 : Int32)), (.ref r414)])) _
        refine X413.iaload hx (j := (1 : Int32)) (v := (.int ((own_e1 p1 p2) - (1 : Int32)))) Ar437.1 (State.isArrayOf_alike hZ.alike Ar437.2.1) Ar437.2.2 hin437 hat437 (g := (mkF m 327 #[.val (.int p0), .val (.int p1), .val (.int p2), .val (.int p3), .val (.int (3 : Int32)), .val (.int (own_e0 p1)), .val (.int (own_e1 p1 p2)), .val (.int (own_e2 p1 p2 p3)), .val (.ref b300), .val (.ref b337), .val (.ref r414), .val (.int (1 : Int32)), .val (.int (0 : Int32)), .val (.int (0 : Int32)), .val (.int (3 : Int32))] [(.int (1 : Int32)), (.ref r414)])) rfl rfl (hb hby at_327) _ ?_
        show Steps p.tables e below (T413.setTop (mkF m 328 #[.val (.int p0), .val (.int p1), .val (.int p2), .val (.int p3), .val (.int (3 : Int32)), .val (.int (own_e0 p1)), .val (.int (own_e1 p1 p2)), .val (.int (own_e2 p1 p2 p3)), .val (.ref b300), .val (.ref b337), .val (.ref r414), .val (.int (1 : Int32)), .val (.int (0 : Int32)), .val (.int (0 : Int32)), .val (.int (3 : Int32))] [(.int ((own_e1 p1 p2) - (1 : Int32)))])) _
        refine XS.aload X413.here hx rfl (hb hby at_328) rfl rfl ?_
        show Steps p.tables e below (T413.setTop (mkF m 330 #[.val (.int p0), .val (.int p1), .val (.int p2), .val (.int p3), .val (.int (3 : Int32)), .val (.int (own_e0 p1)), .val (.int (own_e1 p1 p2)), .val (.int (own_e2 p1 p2 p3)), .val (.ref b300), .val (.ref b337), .val (.ref r414), .val (.int (1 : Int32)), .val (.int (0 : Int32)), .val (.int (0 : Int32)), .val (.int (3 : Int32))] [(.ref b337), (.int ((own_e1 p1 p2) - (1 : Int32)))])) _
        refine XS.iload X413.here hx rfl (hb hby at_330) rfl ?_
        show Steps p.tables e below (T413.setTop (mkF m 332 #[.val (.int p0), .val (.int p1), .val (.int p2), .val (.int p3), .val (.int (3 : Int32)), .val (.int (own_e0 p1)), .val (.int (own_e1 p1 p2)), .val (.int (own_e2 p1 p2 p3)), .val (.ref b300), .val (.ref b337), .val (.ref r414), .val (.int (1 : Int32)), .val (.int (0 : Int32)), .val (.int (0 : Int32)), .val (.int (3 : Int32))] [(.int (0 : Int32)), (.ref b337), (.int ((own_e1 p1 p2) - (1 : Int32)))])) _
        refine XS.iconst X413.here hx rfl (hb hby at_332) ?_
        show Steps p.tables e below (T413.setTop (mkF m 333 #[.val (.int p0), .val (.int p1), .val (.int p2), .val (.int p3), .val (.int (3 : Int32)), .val (.int (own_e0 p1)), .val (.int (own_e1 p1 p2)), .val (.int (own_e2 p1 p2 p3)), .val (.ref b300), .val (.ref b337), .val (.ref r414), .val (.int (1 : Int32)), .val (.int (0 : Int32)), .val (.int (0 : Int32)), .val (.int (3 : Int32))] [(.int (1 : Int32)), (.int (0 : Int32)), (.ref b337), (.int ((own_e1 p1 p2) - (1 : Int32)))])) _
        refine XS.iadd X413.here hx rfl (hb hby at_333) rfl ?_
        exact kt
      obtain ⟨cl439, Ar439, S439, H439⟩ := id f420
      have hin439 : ¬ ((1 : Int32) < 0 ∨ cl439.slots.size ≤ ((1 : Int32)).toNatClampNeg) := own_inb S439 (by decide) (by decide)
      have hat439 : cl439.slots[((1 : Int32)).toNatClampNeg]? = some (.int (own_e1 p1 p2)) := H439 _ (by decide)
      have pre440 : ∀ t, Steps p.tables e below (T413.setTop (mkF m 358 #[.val (.int p0), .val (.int p1), .val (.int p2), .val (.int p3), .val (.int (3 : Int32)), .val (.int (own_e0 p1)), .val (.int (own_e1 p1 p2)), .val (.int (own_e2 p1 p2 p3)), .val (.ref b300), .val (.ref b337), .val (.ref r414), .val (.int (1 : Int32)), .val (.int (0 : Int32)), .val (.int (0 : Int32)), .val (.int (3 : Int32))] [])) t → Steps p.tables e below (s₁.setTop (entryFrame m #[(.int p0), (.int p1), (.int p2), (.int p3)] maxLocals)) t := by
        intro t kt
        refine pre438 t ?_
        show Steps p.tables e below (T413.setTop (mkF m 334 #[.val (.int p0), .val (.int p1), .val (.int p2), .val (.int p3), .val (.int (3 : Int32)), .val (.int (own_e0 p1)), .val (.int (own_e1 p1 p2)), .val (.int (own_e2 p1 p2 p3)), .val (.ref b300), .val (.ref b337), .val (.ref r414), .val (.int (1 : Int32)), .val (.int (0 : Int32)), .val (.int (0 : Int32)), .val (.int (3 : Int32))] [(.int (1 : Int32)), (.ref b337), (.int ((own_e1 p1 p2) - (1 : Int32)))])) _
        refine X413.iaload hx (j := (1 : Int32)) (v := (.int (own_e1 p1 p2))) Ar439.1 (State.isArrayOf_alike hZ.alike Ar439.2.1) Ar439.2.2 hin439 hat439 (g := (mkF m 334 #[.val (.int p0), .val (.int p1), .val (.int p2), .val (.int p3), .val (.int (3 : Int32)), .val (.int (own_e0 p1)), .val (.int (own_e1 p1 p2)), .val (.int (own_e2 p1 p2 p3)), .val (.ref b300), .val (.ref b337), .val (.ref r414), .val (.int (1 : Int32)), .val (.int (0 : Int32)), .val (.int (0 : Int32)), .val (.int (3 : Int32))] [(.int (1 : Int32)), (.ref b337), (.int ((own_e1 p1 p2) - (1 : Int32)))])) rfl rfl (hb hby at_334) _ ?_
        show Steps p.tables e below (T413.setTop (mkF m 335 #[.val (.int p0), .val (.int p1), .val (.int p2), .val (.int p3), .val (.int (3 : Int32)), .val (.int (own_e0 p1)), .val (.int (own_e1 p1 p2)), .val (.int (own_e2 p1 p2 p3)), .val (.ref b300), .val (.ref b337), .val (.ref r414), .val (.int (1 : Int32)), .val (.int (0 : Int32)), .val (.int (0 : Int32)), .val (.int (3 : Int32))] [(.int (own_e1 p1 p2)), (.int ((own_e1 p1 p2) - (1 : Int32)))])) _
        refine XS.iconst X413.here hx rfl (hb hby at_335) ?_
        show Steps p.tables e below (T413.setTop (mkF m 336 #[.val (.int p0), .val (.int p1), .val (.int p2), .val (.int p3), .val (.int (3 : Int32)), .val (.int (own_e0 p1)), .val (.int (own_e1 p1 p2)), .val (.int (own_e2 p1 p2 p3)), .val (.ref b300), .val (.ref b337), .val (.ref r414), .val (.int (1 : Int32)), .val (.int (0 : Int32)), .val (.int (0 : Int32)), .val (.int (3 : Int32))] [(.int (1 : Int32)), (.int (own_e1 p1 p2)), (.int ((own_e1 p1 p2) - (1 : Int32)))])) _
        refine XS.isub X413.here hx rfl (hb hby at_336) rfl ?_
        show Steps p.tables e below (T413.setTop (mkF m 337 #[.val (.int p0), .val (.int p1), .val (.int p2), .val (.int p3), .val (.int (3 : Int32)), .val (.int (own_e0 p1)), .val (.int (own_e1 p1 p2)), .val (.int (own_e2 p1 p2 p3)), .val (.ref b300), .val (.ref b337), .val (.ref r414), .val (.int (1 : Int32)), .val (.int (0 : Int32)), .val (.int (0 : Int32)), .val (.int (3 : Int32))] [(.int ((own_e1 p1 p2) - (1 : Int32))), (.int ((own_e1 p1 p2) - (1 : Int32)))])) _
        refine XS.icmpNo X413.here hx rfl (hb hby at_337) rfl (teq (rfl : ((own_e1 p1 p2) - (1 : Int32)) = ((own_e1 p1 p2) - (1 : Int32)))).2 ?_
        show Steps p.tables e below (T413.setTop (mkF m 340 #[.val (.int p0), .val (.int p1), .val (.int p2), .val (.int p3), .val (.int (3 : Int32)), .val (.int (own_e0 p1)), .val (.int (own_e1 p1 p2)), .val (.int (own_e2 p1 p2 p3)), .val (.ref b300), .val (.ref b337), .val (.ref r414), .val (.int (1 : Int32)), .val (.int (0 : Int32)), .val (.int (0 : Int32)), .val (.int (3 : Int32))] [])) _
        refine XS.iconst X413.here hx rfl (hb hby at_340) ?_
        show Steps p.tables e below (T413.setTop (mkF m 341 #[.val (.int p0), .val (.int p1), .val (.int p2), .val (.int p3), .val (.int (3 : Int32)), .val (.int (own_e0 p1)), .val (.int (own_e1 p1 p2)), .val (.int (own_e2 p1 p2 p3)), .val (.ref b300), .val (.ref b337), .val (.ref r414), .val (.int (1 : Int32)), .val (.int (0 : Int32)), .val (.int (0 : Int32)), .val (.int (3 : Int32))] [(.int (1 : Int32))])) _
        refine XS.goto X413.here hx rfl (pc0 := 341) (pc' := 345) rfl (hb hby at_341) (by decide) (by decide) ?_
        show Steps p.tables e below (T413.setTop (mkF m 345 #[.val (.int p0), .val (.int p1), .val (.int p2), .val (.int p3), .val (.int (3 : Int32)), .val (.int (own_e0 p1)), .val (.int (own_e1 p1 p2)), .val (.int (own_e2 p1 p2 p3)), .val (.ref b300), .val (.ref b337), .val (.ref r414), .val (.int (1 : Int32)), .val (.int (0 : Int32)), .val (.int (0 : Int32)), .val (.int (3 : Int32))] [(.int (1 : Int32))])) _
        refine XS.istore X413.here hx rfl (hb hby at_345) rfl (l' := #[.val (.int p0), .val (.int p1), .val (.int p2), .val (.int p3), .val (.int (3 : Int32)), .val (.int (own_e0 p1)), .val (.int (own_e1 p1 p2)), .val (.int (own_e2 p1 p2 p3)), .val (.ref b300), .val (.ref b337), .val (.ref r414), .val (.int (1 : Int32)), .val (.int (0 : Int32)), .val (.int (0 : Int32)), .val (.int (3 : Int32))]) rfl ?_
        show Steps p.tables e below (T413.setTop (mkF m 347 #[.val (.int p0), .val (.int p1), .val (.int p2), .val (.int p3), .val (.int (3 : Int32)), .val (.int (own_e0 p1)), .val (.int (own_e1 p1 p2)), .val (.int (own_e2 p1 p2 p3)), .val (.ref b300), .val (.ref b337), .val (.ref r414), .val (.int (1 : Int32)), .val (.int (0 : Int32)), .val (.int (0 : Int32)), .val (.int (3 : Int32))] [])) _
        refine XS.iload X413.here hx rfl (hb hby at_347) rfl ?_
        show Steps p.tables e below (T413.setTop (mkF m 349 #[.val (.int p0), .val (.int p1), .val (.int p2), .val (.int p3), .val (.int (3 : Int32)), .val (.int (own_e0 p1)), .val (.int (own_e1 p1 p2)), .val (.int (own_e2 p1 p2 p3)), .val (.ref b300), .val (.ref b337), .val (.ref r414), .val (.int (1 : Int32)), .val (.int (0 : Int32)), .val (.int (0 : Int32)), .val (.int (3 : Int32))] [(.int (3 : Int32))])) _
        refine XS.iconst X413.here hx rfl (hb hby at_349) ?_
        show Steps p.tables e below (T413.setTop (mkF m 350 #[.val (.int p0), .val (.int p1), .val (.int p2), .val (.int p3), .val (.int (3 : Int32)), .val (.int (own_e0 p1)), .val (.int (own_e1 p1 p2)), .val (.int (own_e2 p1 p2 p3)), .val (.ref b300), .val (.ref b337), .val (.ref r414), .val (.int (1 : Int32)), .val (.int (0 : Int32)), .val (.int (0 : Int32)), .val (.int (3 : Int32))] [(.int (2 : Int32)), (.int (3 : Int32))])) _
        refine XS.icmpNo X413.here hx rfl (hb hby at_350) rfl (tlt (by decide : (2 : Int32) < (3 : Int32))).2.2.2 ?_
        show Steps p.tables e below (T413.setTop (mkF m 353 #[.val (.int p0), .val (.int p1), .val (.int p2), .val (.int p3), .val (.int (3 : Int32)), .val (.int (own_e0 p1)), .val (.int (own_e1 p1 p2)), .val (.int (own_e2 p1 p2 p3)), .val (.ref b300), .val (.ref b337), .val (.ref r414), .val (.int (1 : Int32)), .val (.int (0 : Int32)), .val (.int (0 : Int32)), .val (.int (3 : Int32))] [])) _
        refine XS.iload X413.here hx rfl (hb hby at_353) rfl ?_
        show Steps p.tables e below (T413.setTop (mkF m 355 #[.val (.int p0), .val (.int p1), .val (.int p2), .val (.int p3), .val (.int (3 : Int32)), .val (.int (own_e0 p1)), .val (.int (own_e1 p1 p2)), .val (.int (own_e2 p1 p2 p3)), .val (.ref b300), .val (.ref b337), .val (.ref r414), .val (.int (1 : Int32)), .val (.int (0 : Int32)), .val (.int (0 : Int32)), .val (.int (3 : Int32))] [(.int (1 : Int32))])) _
        refine XS.ifNo X413.here hx rfl (hb hby at_355) rfl ((if0 _ _).trans (feq (by decide : ¬ ((1 : Int32) = (0 : Int32)))).1) ?_
        exact kt
      obtain ⟨cl441, Ar441, S441, H441⟩ := id c414_1
      have hin441 : ¬ ((2 : Int32) < 0 ∨ cl441.slots.size ≤ ((2 : Int32)).toNatClampNeg) := own_inb S441 (by decide) (by decide)
      have hat441 : cl441.slots[((2 : Int32)).toNatClampNeg]? = some (.int ((own_e2 p1 p2 p3) - (1 : Int32))) := H441 _ (by decide)
      obtain ⟨cl442, Ar442, S442, H442⟩ := id f420
      have hin442 : ¬ ((2 : Int32) < 0 ∨ cl442.slots.size ≤ ((2 : Int32)).toNatClampNeg) := own_inb S442 (by decide) (by decide)
      have hat442 : cl442.slots[((2 : Int32)).toNatClampNeg]? = some (.int (own_e2 p1 p2 p3)) := H442 _ (by decide)
      have pre443 : ∀ t, Steps p.tables e below (T413.setTop (mkF m 375 #[.val (.int p0), .val (.int p1), .val (.int p2), .val (.int p3), .val (.int (3 : Int32)), .val (.int (own_e0 p1)), .val (.int (own_e1 p1 p2)), .val (.int (own_e2 p1 p2 p3)), .val (.ref b300), .val (.ref b337), .val (.ref r414), .val (.int (1 : Int32)), .val (.int (0 : Int32)), .val (.int (0 : Int32)), .val (.int (3 : Int32))] [(.int (1 : Int32))])) t → Steps p.tables e below (s₁.setTop (entryFrame m #[(.int p0), (.int p1), (.int p2), (.int p3)] maxLocals)) t := by
        intro t kt
        refine pre440 t ?_
        show Steps p.tables e below (T413.setTop (mkF m 358 #[.val (.int p0), .val (.int p1), .val (.int p2), .val (.int p3), .val (.int (3 : Int32)), .val (.int (own_e0 p1)), .val (.int (own_e1 p1 p2)), .val (.int (own_e2 p1 p2 p3)), .val (.ref b300), .val (.ref b337), .val (.ref r414), .val (.int (1 : Int32)), .val (.int (0 : Int32)), .val (.int (0 : Int32)), .val (.int (3 : Int32))] [])) _
        refine XS.aload X413.here hx rfl (hb hby at_358) rfl rfl ?_
        show Steps p.tables e below (T413.setTop (mkF m 360 #[.val (.int p0), .val (.int p1), .val (.int p2), .val (.int p3), .val (.int (3 : Int32)), .val (.int (own_e0 p1)), .val (.int (own_e1 p1 p2)), .val (.int (own_e2 p1 p2 p3)), .val (.ref b300), .val (.ref b337), .val (.ref r414), .val (.int (1 : Int32)), .val (.int (0 : Int32)), .val (.int (0 : Int32)), .val (.int (3 : Int32))] [(.ref r414)])) _
        refine XS.iconst X413.here hx rfl (hb hby at_360) ?_
        show Steps p.tables e below (T413.setTop (mkF m 361 #[.val (.int p0), .val (.int p1), .val (.int p2), .val (.int p3), .val (.int (3 : Int32)), .val (.int (own_e0 p1)), .val (.int (own_e1 p1 p2)), .val (.int (own_e2 p1 p2 p3)), .val (.ref b300), .val (.ref b337), .val (.ref r414), .val (.int (1 : Int32)), .val (.int (0 : Int32)), .val (.int (0 : Int32)), .val (.int (3 : Int32))] [(.int (2 : Int32)), (.ref r414)])) _
        refine X413.iaload hx (j := (2 : Int32)) (v := (.int ((own_e2 p1 p2 p3) - (1 : Int32)))) Ar441.1 (State.isArrayOf_alike hZ.alike Ar441.2.1) Ar441.2.2 hin441 hat441 (g := (mkF m 361 #[.val (.int p0), .val (.int p1), .val (.int p2), .val (.int p3), .val (.int (3 : Int32)), .val (.int (own_e0 p1)), .val (.int (own_e1 p1 p2)), .val (.int (own_e2 p1 p2 p3)), .val (.ref b300), .val (.ref b337), .val (.ref r414), .val (.int (1 : Int32)), .val (.int (0 : Int32)), .val (.int (0 : Int32)), .val (.int (3 : Int32))] [(.int (2 : Int32)), (.ref r414)])) rfl rfl (hb hby at_361) _ ?_
        show Steps p.tables e below (T413.setTop (mkF m 362 #[.val (.int p0), .val (.int p1), .val (.int p2), .val (.int p3), .val (.int (3 : Int32)), .val (.int (own_e0 p1)), .val (.int (own_e1 p1 p2)), .val (.int (own_e2 p1 p2 p3)), .val (.ref b300), .val (.ref b337), .val (.ref r414), .val (.int (1 : Int32)), .val (.int (0 : Int32)), .val (.int (0 : Int32)), .val (.int (3 : Int32))] [(.int ((own_e2 p1 p2 p3) - (1 : Int32)))])) _
        refine XS.aload X413.here hx rfl (hb hby at_362) rfl rfl ?_
        show Steps p.tables e below (T413.setTop (mkF m 364 #[.val (.int p0), .val (.int p1), .val (.int p2), .val (.int p3), .val (.int (3 : Int32)), .val (.int (own_e0 p1)), .val (.int (own_e1 p1 p2)), .val (.int (own_e2 p1 p2 p3)), .val (.ref b300), .val (.ref b337), .val (.ref r414), .val (.int (1 : Int32)), .val (.int (0 : Int32)), .val (.int (0 : Int32)), .val (.int (3 : Int32))] [(.ref b337), (.int ((own_e2 p1 p2 p3) - (1 : Int32)))])) _
        refine XS.iload X413.here hx rfl (hb hby at_364) rfl ?_
        show Steps p.tables e below (T413.setTop (mkF m 366 #[.val (.int p0), .val (.int p1), .val (.int p2), .val (.int p3), .val (.int (3 : Int32)), .val (.int (own_e0 p1)), .val (.int (own_e1 p1 p2)), .val (.int (own_e2 p1 p2 p3)), .val (.ref b300), .val (.ref b337), .val (.ref r414), .val (.int (1 : Int32)), .val (.int (0 : Int32)), .val (.int (0 : Int32)), .val (.int (3 : Int32))] [(.int (0 : Int32)), (.ref b337), (.int ((own_e2 p1 p2 p3) - (1 : Int32)))])) _
        refine XS.iconst X413.here hx rfl (hb hby at_366) ?_
        show Steps p.tables e below (T413.setTop (mkF m 367 #[.val (.int p0), .val (.int p1), .val (.int p2), .val (.int p3), .val (.int (3 : Int32)), .val (.int (own_e0 p1)), .val (.int (own_e1 p1 p2)), .val (.int (own_e2 p1 p2 p3)), .val (.ref b300), .val (.ref b337), .val (.ref r414), .val (.int (1 : Int32)), .val (.int (0 : Int32)), .val (.int (0 : Int32)), .val (.int (3 : Int32))] [(.int (2 : Int32)), (.int (0 : Int32)), (.ref b337), (.int ((own_e2 p1 p2 p3) - (1 : Int32)))])) _
        refine XS.iadd X413.here hx rfl (hb hby at_367) rfl ?_
        show Steps p.tables e below (T413.setTop (mkF m 368 #[.val (.int p0), .val (.int p1), .val (.int p2), .val (.int p3), .val (.int (3 : Int32)), .val (.int (own_e0 p1)), .val (.int (own_e1 p1 p2)), .val (.int (own_e2 p1 p2 p3)), .val (.ref b300), .val (.ref b337), .val (.ref r414), .val (.int (1 : Int32)), .val (.int (0 : Int32)), .val (.int (0 : Int32)), .val (.int (3 : Int32))] [(.int (2 : Int32)), (.ref b337), (.int ((own_e2 p1 p2 p3) - (1 : Int32)))])) _
        refine X413.iaload hx (j := (2 : Int32)) (v := (.int (own_e2 p1 p2 p3))) Ar442.1 (State.isArrayOf_alike hZ.alike Ar442.2.1) Ar442.2.2 hin442 hat442 (g := (mkF m 368 #[.val (.int p0), .val (.int p1), .val (.int p2), .val (.int p3), .val (.int (3 : Int32)), .val (.int (own_e0 p1)), .val (.int (own_e1 p1 p2)), .val (.int (own_e2 p1 p2 p3)), .val (.ref b300), .val (.ref b337), .val (.ref r414), .val (.int (1 : Int32)), .val (.int (0 : Int32)), .val (.int (0 : Int32)), .val (.int (3 : Int32))] [(.int (2 : Int32)), (.ref b337), (.int ((own_e2 p1 p2 p3) - (1 : Int32)))])) rfl rfl (hb hby at_368) _ ?_
        show Steps p.tables e below (T413.setTop (mkF m 369 #[.val (.int p0), .val (.int p1), .val (.int p2), .val (.int p3), .val (.int (3 : Int32)), .val (.int (own_e0 p1)), .val (.int (own_e1 p1 p2)), .val (.int (own_e2 p1 p2 p3)), .val (.ref b300), .val (.ref b337), .val (.ref r414), .val (.int (1 : Int32)), .val (.int (0 : Int32)), .val (.int (0 : Int32)), .val (.int (3 : Int32))] [(.int (own_e2 p1 p2 p3)), (.int ((own_e2 p1 p2 p3) - (1 : Int32)))])) _
        refine XS.iconst X413.here hx rfl (hb hby at_369) ?_
        show Steps p.tables e below (T413.setTop (mkF m 370 #[.val (.int p0), .val (.int p1), .val (.int p2), .val (.int p3), .val (.int (3 : Int32)), .val (.int (own_e0 p1)), .val (.int (own_e1 p1 p2)), .val (.int (own_e2 p1 p2 p3)), .val (.ref b300), .val (.ref b337), .val (.ref r414), .val (.int (1 : Int32)), .val (.int (0 : Int32)), .val (.int (0 : Int32)), .val (.int (3 : Int32))] [(.int (1 : Int32)), (.int (own_e2 p1 p2 p3)), (.int ((own_e2 p1 p2 p3) - (1 : Int32)))])) _
        refine XS.isub X413.here hx rfl (hb hby at_370) rfl ?_
        show Steps p.tables e below (T413.setTop (mkF m 371 #[.val (.int p0), .val (.int p1), .val (.int p2), .val (.int p3), .val (.int (3 : Int32)), .val (.int (own_e0 p1)), .val (.int (own_e1 p1 p2)), .val (.int (own_e2 p1 p2 p3)), .val (.ref b300), .val (.ref b337), .val (.ref r414), .val (.int (1 : Int32)), .val (.int (0 : Int32)), .val (.int (0 : Int32)), .val (.int (3 : Int32))] [(.int ((own_e2 p1 p2 p3) - (1 : Int32))), (.int ((own_e2 p1 p2 p3) - (1 : Int32)))])) _
        refine XS.icmpNo X413.here hx rfl (hb hby at_371) rfl (teq (rfl : ((own_e2 p1 p2 p3) - (1 : Int32)) = ((own_e2 p1 p2 p3) - (1 : Int32)))).2 ?_
        show Steps p.tables e below (T413.setTop (mkF m 374 #[.val (.int p0), .val (.int p1), .val (.int p2), .val (.int p3), .val (.int (3 : Int32)), .val (.int (own_e0 p1)), .val (.int (own_e1 p1 p2)), .val (.int (own_e2 p1 p2 p3)), .val (.ref b300), .val (.ref b337), .val (.ref r414), .val (.int (1 : Int32)), .val (.int (0 : Int32)), .val (.int (0 : Int32)), .val (.int (3 : Int32))] [])) _
        refine XS.iconst X413.here hx rfl (hb hby at_374) ?_
        exact kt
      have pre444 : ∀ t, Steps p.tables e below (T413.setTop (mkF m 383 #[.val (.int p0), .val (.int p1), .val (.int p2), .val (.int p3), .val (.int (3 : Int32)), .val (.int (own_e0 p1)), .val (.int (own_e1 p1 p2)), .val (.int (own_e2 p1 p2 p3)), .val (.ref b300), .val (.ref b337), .val (.ref r414), .val (.int (1 : Int32)), .val (.int (0 : Int32)), .val (.int (0 : Int32)), .val (.int (3 : Int32))] [(.int (1 : Int32))])) t → Steps p.tables e below (s₁.setTop (entryFrame m #[(.int p0), (.int p1), (.int p2), (.int p3)] maxLocals)) t := by
        intro t kt
        refine pre443 t ?_
        show Steps p.tables e below (T413.setTop (mkF m 375 #[.val (.int p0), .val (.int p1), .val (.int p2), .val (.int p3), .val (.int (3 : Int32)), .val (.int (own_e0 p1)), .val (.int (own_e1 p1 p2)), .val (.int (own_e2 p1 p2 p3)), .val (.ref b300), .val (.ref b337), .val (.ref r414), .val (.int (1 : Int32)), .val (.int (0 : Int32)), .val (.int (0 : Int32)), .val (.int (3 : Int32))] [(.int (1 : Int32))])) _
        refine XS.goto X413.here hx rfl (pc0 := 375) (pc' := 379) rfl (hb hby at_375) (by decide) (by decide) ?_
        show Steps p.tables e below (T413.setTop (mkF m 379 #[.val (.int p0), .val (.int p1), .val (.int p2), .val (.int p3), .val (.int (3 : Int32)), .val (.int (own_e0 p1)), .val (.int (own_e1 p1 p2)), .val (.int (own_e2 p1 p2 p3)), .val (.ref b300), .val (.ref b337), .val (.ref r414), .val (.int (1 : Int32)), .val (.int (0 : Int32)), .val (.int (0 : Int32)), .val (.int (3 : Int32))] [(.int (1 : Int32))])) _
        refine XS.istore X413.here hx rfl (hb hby at_379) rfl (l' := #[.val (.int p0), .val (.int p1), .val (.int p2), .val (.int p3), .val (.int (3 : Int32)), .val (.int (own_e0 p1)), .val (.int (own_e1 p1 p2)), .val (.int (own_e2 p1 p2 p3)), .val (.ref b300), .val (.ref b337), .val (.ref r414), .val (.int (1 : Int32)), .val (.int (0 : Int32)), .val (.int (0 : Int32)), .val (.int (3 : Int32))]) rfl ?_
        show Steps p.tables e below (T413.setTop (mkF m 381 #[.val (.int p0), .val (.int p1), .val (.int p2), .val (.int p3), .val (.int (3 : Int32)), .val (.int (own_e0 p1)), .val (.int (own_e1 p1 p2)), .val (.int (own_e2 p1 p2 p3)), .val (.ref b300), .val (.ref b337), .val (.ref r414), .val (.int (1 : Int32)), .val (.int (0 : Int32)), .val (.int (0 : Int32)), .val (.int (3 : Int32))] [])) _
        refine XS.iload X413.here hx rfl (hb hby at_381) rfl ?_
        exact kt
      obtain ⟨fs, hr, hrun, hended, hW, hsame⟩ := X413.leave (v := some (.int (1 : Int32))) (fun h => by rw [Bd.returns] at h; cases h)
      refine ⟨_, _, pre444 _ ?_, hrun, hended, _, _, rfl, ?_, ⟨_, rfl⟩, hW, hsame.mono (by decide) (by decide)⟩
      · show Steps p.tables e below (T413.setTop (mkF m 383 #[.val (.int p0), .val (.int p1), .val (.int p2), .val (.int p3), .val (.int (3 : Int32)), .val (.int (own_e0 p1)), .val (.int (own_e1 p1 p2)), .val (.int (own_e2 p1 p2 p3)), .val (.ref b300), .val (.ref b337), .val (.ref r414), .val (.int (1 : Int32)), .val (.int (0 : Int32)), .val (.int (0 : Int32)), .val (.int (3 : Int32))] [(.int (1 : Int32))])) _
        exact retN X413 hx (t := .boolean) Bd.returns (by simp) (hb hby at_383) hr
      · show own_Q_law Z p0 p1 p2 p3 aS h0 n0 (some (.int (1 : Int32))) T413.heap _
        skip
        exact ⟨rfl, nf422⟩
set_option maxRecDepth 65536 in
set_option maxHeartbeats 40000000 in
theorem own_comes {Post : Tables → Env → Array Value → State → Outcome → State → Prop} (hpost : ∀ tb e args s v u, (limb_1_1.after args s (.returned v) u = true ∧ limb_1_2.after args s (.returned v) u = true ∧ True) → FrameEnd s (.returned v) u (Jvm.fieldLocs frame_1_writes args s ++ Jvm.arrayLocs frame_1_arrays args s ++ Jvm.staticLocs frame_1_statics s) 16 128 → Post tb e args s (.returned v) u) :
    ArmFor flags0 classFile x code maxLocals ret World_1 tables_1 room_1 Calls_1 rest_1 Pre_1 Post := by
  intro l hfl _ _ p e ha hc hk s m args below hf hA hF happ hP
  obtain ⟨hcalls, hrest, hpre⟩ := hP
  obtain ⟨-, -, -, hnamed, -, -, -, hat⟩ := (Spec.applies_iff hf).mp happ
  obtain ⟨hg, hn⟩ := and_e (Cond.before_iff.mp (show (Jvm.Cond.and given_1 narrow_1).before args s = true from hpre))
  obtain ⟨hcount, hq0⟩ := and_e hg
  obtain ⟨hi0, hq1⟩ := and_e hq0
  obtain ⟨hi1, hq2⟩ := and_e hq1
  obtain ⟨hi2, hq3⟩ := and_e hq2
  have hi3 := hq3
  obtain ⟨w0, w1, w2, w3, rfl⟩ : ∃ w0 w1 w2 w3 : Value, args = #[w0, w1, w2, w3] := by
    have hs : args.size = 4 := by simpa [Cond.value, given_1] using hcount
    obtain ⟨L⟩ := args
    match L, hs with
    | [w0, w1, w2, w3], _ => exact ⟨w0, w1, w2, w3, rfl⟩
  have hw := fun d (hd : d ∈ tables_1) => atoms_spec (ws := Jvm.Cond.code x code maxLocals ret :: tables_1) hat d (List.mem_cons_of_mem _ hd)
  have hfit : Fit s := fun {y c} hc i hi => by
    obtain ⟨ha, rfl⟩ := Array.getElem?_eq_some_iff.mp hc
    have q := List.all_eq_true.mp ((Array.all_eq_true_iff_forall_mem.mp hF) _ (Array.getElem_mem ha)) i (List.mem_range.mpr hi)
    simpa [Array.getElem?_eq_getElem hi] using q
  obtain ⟨i0, ei0⟩ := is_v hi0
  obtain rfl : w0 = (.int i0) := Option.some.inj ei0
  obtain ⟨i1, ei1⟩ := is_v hi1
  obtain rfl : w1 = (.int i1) := Option.some.inj ei1
  obtain ⟨i2, ei2⟩ := is_v hi2
  obtain rfl : w2 = (.int i2) := Option.some.inj ei2
  obtain ⟨i3, ei3⟩ := is_v hi3
  obtain rfl : w3 = (.int i3) := Option.some.inj ei3
  obtain ⟨c1, c2⟩ := and_e hn
  obtain ⟨aS, evS⟩ := arr_v c1
  have S0 := Sta.start evS (Or.inr ⟨(hw _ (List.mem_of_getElem? (i := 5) rfl)), (hw _ (List.mem_of_getElem? (i := 8) rfl))⟩)
  have AS := own_emp evS c1 c2
  obtain ⟨n, o, h1, h2, h3, _, L, rfl, ⟨rfl, N⟩, hq⟩ := own_rm_law l s _ hw tables_1 i0 i1 i2 i3 aS s.heap s.heap.size (Nat.le_refl _) S0 AS p e ha hc hk s m _ below hf ((Spec.applies_iff_loose hf).mp happ).1 ⟨rfl, State.Warmed39.refl s, rfl⟩ trivial
  refine ⟨n, _, h1, h2, h3, hpost _ _ _ _ _ _ ⟨Cond.after_iff.mpr rfl, Cond.after_iff.mpr (eq_i res_at (Term.int_eval (1)) rfl), trivial⟩ ⟨hq.1, hq.2.1, (hq.2.2.sift fun y hy => Or.inr (N y hy)).mono (by decide) (by decide)⟩⟩
theorem main_1_1 : Claimed_1_1 := own_comes fun _ _ _ _ _ _ h hF => ⟨h.1, hF⟩
theorem main_1_2 : Claimed_1_2 := own_comes fun _ _ _ _ _ _ h hF => ⟨h.2.1, hF⟩
end Jvm.Pilot.@@N@@
namespace Jvm.Pilot.@@N@@
open Jvm Jvm.ClassFile Sem Op Lib Jvm.Free Jvm.Stand Jvm.Pilot.@@N@@.Jvm.D
/-! MADE BY PROGRAM (witnessworld.py) out of the Statement's table words and the real class files: 9 classes; the members and pool entries that the words name. The judged class is class 1, her method 1. -/
namespace start1
open Jvm.ClassFile
def u (s : String) : CpInfo := .utf8 (stringToUtf16 s)
/-- a pool by its gaps: so many unusable entries, then the entry; so many at the end -/
def gap : Nat → List CpInfo → List CpInfo
  | 0, r => r
  | n + 1, r => .unusable :: gap n r
def poolList (es : List (Nat × CpInfo)) (last : Nat) : List CpInfo := es.foldr (fun e r => gap e.1 (e.2 :: r)) (gap last [])
def pool (es : List (Nat × CpInfo)) (last : Nat) : Array CpInfo := ⟨poolList es last⟩
def fileOf (pool : Array CpInfo) (this : Nat) (attrs : Array Attribute := #[]) (ms : Array MethodInfo := #[]) (fl : Nat := 33) (sup : Nat := 0) (ifs : Array Nat := #[]) (fds : Array FieldInfo := #[]) : ClassFile where
  minorVersion := 0
  majorVersion := 65
  constantPool := pool
  accessFlags := fl
  thisClass := this
  superClass := sup
  interfaces := ifs
  fields := fds
  methods := ms
  attributes := attrs
def plain (name : String) (sup : Option ClassId) : Class where
  name := name
  kind := .ordinary
  loader := none
  accessFlags := 33
  super := sup
  interfaces := #[]
  cf := none
  fields := #[]
  methods := #[]
  instanceTypes := #[]
  staticTypes := #[]
  resolved := #[]
  callSites := []
  init := .initialized
  statics := none
  mirror := none

def pool0 : Array CpInfo := pool [(5, u "<init>"), (0, u "()V"), (1, .class_ 10), (1, u "java/lang/Object")] 113

def k0m0 : Method := { name := "<init>", desc := "()V", sig := { parameters := [], returnType := none }, accessFlags := 1, code := none }
/-- java/lang/Object -/
def k0 : Class := { plain "java/lang/Object" none with
  accessFlags := 33
  interfaces := #[]
  cf := some (fileOf pool0 8 #[] #[{ accessFlags := 1, nameIndex := 5, descriptorIndex := 6, attributes := #[] }] 33 0 #[] #[])
  fields := #[]
  methods := #[k0m0]
  instanceTypes := #[]
  staticTypes := #[]
  resolved := Array.replicate 124 none
  statics := none }

def pool1 : Array CpInfo := pool [(2, .class_ 4), (1, u "java/lang/Object"), (0, u "<init>"), (0, u "()V"), (0, .integer 1073741823), (0, .integer 536870911), (0, .methodref 10 11), (0, .class_ 12), (0, .nameAndType 13 14), (0, u "com/example/unfold/unfold/semantics/GateSets"), (0, u "outsideHide"), (0, u "([I)[I"), (0, .class_ 16), (0, u "com/example/unfold/unfold/semantics/GateSetsOutsideHidePinLaw"), (2, u "law"), (0, u "(IIII)Z")] 5

def k1m0 : Method := { name := "<init>", desc := "()V", sig := { parameters := [], returnType := none }, accessFlags := 2, code := none }
def k1c1 : Code := { maxStack := 4, maxLocals := 15, code := code, exceptionTable := #[], attributes := #[] }
def k1m1 : Method := { name := "law", desc := "(IIII)Z", sig := { parameters := [.int, .int, .int, .int], returnType := some .boolean }, accessFlags := 9, code := some k1c1 }
/-- com/example/unfold/unfold/semantics/GateSetsOutsideHidePinLaw -/
def k1 : Class := { plain "com/example/unfold/unfold/semantics/GateSetsOutsideHidePinLaw" (some 0) with
  accessFlags := 49
  interfaces := #[]
  cf := some (fileOf pool1 15 #[] #[{ accessFlags := 2, nameIndex := 5, descriptorIndex := 6, attributes := #[] }, { accessFlags := 9, nameIndex := 19, descriptorIndex := 20, attributes := #[] }] 49 2 #[] #[])
  fields := #[]
  methods := #[k1m0, k1m1]
  instanceTypes := #[]
  staticTypes := #[]
  resolved := Array.replicate 26 none
  statics := none }

def pool2 : Array CpInfo := pool [(2, .class_ 4), (1, u "java/lang/Object"), (0, u "<init>"), (0, u "()V"), (3, u "[I"), (8, .fieldref 20 21), (0, .class_ 22), (0, .nameAndType 23 10), (0, u "com/example/unfold/unfold/semantics/GateSets"), (0, u "EMPTY"), (17, u "([I)[I"), (8, u "outsideHide")] 9

def k2m0 : Method := { name := "<init>", desc := "()V", sig := { parameters := [], returnType := none }, accessFlags := 2, code := none }
def k2c1 : Code := { maxStack := 5, maxLocals := 4, code := prog_142_method_4_code, exceptionTable := #[], attributes := #[] }
def k2m1 : Method := { name := "outsideHide", desc := "([I)[I", sig := { parameters := [(.array .int)], returnType := some (.array .int) }, accessFlags := 8, code := some k2c1 }
/-- com/example/unfold/unfold/semantics/GateSets -/
def k2 : Class := { plain "com/example/unfold/unfold/semantics/GateSets" (some 0) with
  accessFlags := 32
  interfaces := #[]
  cf := some (fileOf pool2 20 #[] #[{ accessFlags := 2, nameIndex := 5, descriptorIndex := 6, attributes := #[] }, { accessFlags := 8, nameIndex := 50, descriptorIndex := 41, attributes := #[] }] 32 2 #[] #[{ accessFlags := 24, nameIndex := 23, descriptorIndex := 10, attributes := #[] }])
  fields := #[{ name := "EMPTY", type := (.array .int), accessFlags := 24, slot := 0, constantValue := 0 }]
  methods := #[k2m0, k2m1]
  instanceTypes := #[]
  staticTypes := #[(.array .int)]
  resolved := Array.replicate 60 none
  statics := some 0 }

def pool3 : Array CpInfo := pool [(1, u "java/lang/Cloneable"), (0, .class_ 1), (0, u "java/lang/Object"), (0, .class_ 3)] 3

/-- java/lang/Cloneable -/
def k3 : Class := { plain "java/lang/Cloneable" (some 0) with
  accessFlags := 1537
  interfaces := #[]
  cf := some (fileOf pool3 2 #[] #[] 1537 4 #[] #[])
  fields := #[]
  methods := #[]
  instanceTypes := #[]
  staticTypes := #[]
  resolved := Array.replicate 8 none
  statics := none }

def pool4 : Array CpInfo := pool [(1, u "java/io/Serializable"), (0, .class_ 1), (0, u "java/lang/Object"), (0, .class_ 3)] 3

/-- java/io/Serializable -/
def k4 : Class := { plain "java/io/Serializable" (some 0) with
  accessFlags := 1537
  interfaces := #[]
  cf := some (fileOf pool4 2 #[] #[] 1537 4 #[] #[])
  fields := #[]
  methods := #[]
  instanceTypes := #[]
  staticTypes := #[]
  resolved := Array.replicate 8 none
  statics := none }

/-- the primitive byte -/
def k5 : Class := { plain "byte" none with kind := .primitive 'B', accessFlags := 0x411 }
/-- [B -/
def k6 : Class := { plain "[B" (some 0) with kind := .array 5 .byte, interfaces := #[3, 4], accessFlags := 1041 }

/-- the primitive int -/
def k7 : Class := { plain "int" none with kind := .primitive 'I', accessFlags := 0x411 }
/-- [I -/
def k8 : Class := { plain "[I" (some 0) with kind := .array 7 .int, interfaces := #[3, 4], accessFlags := 1041 }

def heap : Heap := #[{ cls := 2, slots := #[.ref 1], vm := .statics 2 },
  { cls := 8, slots := #[], vm := .none }]
def classes : Array Class := #[k0, k1, k2, k3, k4, k5, k6, k7, k8]
def interned : List (Array UInt16 × Addr) := []
def slotsUsed : Nat := 1
def theMethod : MethodId := ⟨1, 1⟩
def args0 : Array Value := #[.int 3, .int 6, .int 2, .int 1]
def aboutOver (below : List Frame) : State where
  vm := { classes := classes, interned := interned.toArray }
  heap := heap
  slotsUsed := slotsUsed
  threads := #[{ frames := .invoking theMethod args0 :: below }]
def below0 : List Frame := [.native { method := ⟨0, 0⟩, args := #[] }]
def about1 : State := aboutOver below0
def p0 : Program := .bare "" "" ""
def e0 : Env := launch0.env 0 0 0
theorem w_frames : about1.frames = Frame.invoking theMethod args0 :: below0 := rfl
set_option maxRecDepth 65536 in
theorem w_args : argsFit about1.vm theMethod args0 = true := by decide +kernel
set_option maxRecDepth 65536 in
theorem w_heap : heapFits about1 = true := by decide +kernel
set_option maxRecDepth 65536 in
theorem w_runnable : about1.curStatus? = some .runnable := by decide +kernel
set_option maxRecDepth 65536 in
theorem w_alone : about1.alone = true := by decide +kernel
set_option maxRecDepth 65536 in
theorem w_named : about1.methodNamed? x = some theMethod := by decide +kernel
set_option maxRecDepth 65536 in
theorem w_hears : about1.hears theMethod below0 = true := by decide +kernel
set_option maxRecDepth 65536 in
theorem w_ripe : about1.ripe theMethod args0 below0 = true := by decide +kernel
theorem w_running : about1.status = .running := rfl
set_option maxRecDepth 65536 in
theorem w_room : about1.hasRoom e0.platform room_1 = true :=
  launch0.hasRoom_least _ room_1 (by decide +kernel) (by decide +kernel) (by decide +kernel) (by decide +kernel) (by decide +kernel) (by decide +kernel)
theorem allAtoms_all (ts : List Jvm.Cond) (a : Array Jvm.Value) (st : Jvm.State) : (allAtoms ts).before a st = ts.all (fun c => c.before a st) := by
  induction ts with
  | nil => rfl
  | cons c t ih =>
    show (Jvm.Cond.and c (allAtoms t)).before a st = _
    rw [Jvm.Cond.before_and, ih, List.all_cons]
def words1 : List Jvm.Cond := Jvm.Cond.code x code maxLocals ret :: tables_1
/-- a 'code' word, met by the world's own term for the bytes: nothing is compared byte by byte -/
theorem code_word {y : MethodName} {bytes : ByteArray} {mx : Nat} {rt : Option FieldType} {a : Array Value} {s : State} {m : MethodId} {meth : Method} {c : Code} (h1 : s.methodNamed? y = some m) (h2 : s.vm.method? m = some meth) (h3 : meth.code = some c) (h4 : c.code = bytes)
    (h5 : (c.maxLocals == mx && c.exceptionTable.isEmpty && decide (c.maxStack ≤ mostOperands) && decide (meth.sig.returnType = rt) && !meth.locks && decide (parseMethodDescriptor y.desc = some meth.sig)) = true) : (Jvm.Cond.code y bytes mx rt).before a s = true := by
  simp only [Bool.and_eq_true, beq_iff_eq, Bool.not_eq_true', decide_eq_true_eq] at h5
  obtain ⟨⟨⟨⟨⟨g1, g2⟩, g3⟩, g4⟩, g5⟩, g6⟩ := h5
  simp [Cond.before, Cond.holds, Cond.value, h1, h2, h3, h4, g1, g2, g3, g4, g5, g6]
def isCode : Jvm.Cond → Bool
  | .code _ _ _ _ => true
  | _ => false
theorem all_split {L : List Jvm.Cond} {P : Jvm.Cond → Bool} (h1 : L.all (fun c => isCode c || P c) = true) (h2 : ∀ c ∈ L.filter isCode, P c = true) : L.all P = true := by
  refine List.all_eq_true.mpr fun c hc => ?_
  have h := List.all_eq_true.mp h1 c hc
  rcases Bool.eq_false_or_eq_true (isCode c) with hi | hi
  · exact h2 c (List.mem_filter.mpr ⟨hc, hi⟩)
  · simpa [hi] using h
set_option maxRecDepth 65536 in
theorem w_c0 : (Jvm.Cond.code x code maxLocals ret).before args0 about1 = true := code_word (m := ⟨1, 1⟩) (meth := k1m1) (c := k1c1) (by decide +kernel) rfl rfl rfl (by decide +kernel)
set_option maxRecDepth 65536 in
theorem w_c1 : (Jvm.Cond.code ({ cls := "com/example/unfold/unfold/semantics/GateSets", name := "outsideHide", desc := "([I)[I" } : Jvm.MethodName) prog_142_method_4_code (4 : Nat) (Option.some (Jvm.ClassFile.FieldType.array Jvm.ClassFile.FieldType.int))).before args0 about1 = true := code_word (m := ⟨2, 1⟩) (meth := k2m1) (c := k2c1) (by decide +kernel) rfl rfl rfl (by decide +kernel)
def codes1 : List Jvm.Cond := [Jvm.Cond.code x code maxLocals ret, Jvm.Cond.code ({ cls := "com/example/unfold/unfold/semantics/GateSets", name := "outsideHide", desc := "([I)[I" } : Jvm.MethodName) prog_142_method_4_code (4 : Nat) (Option.some (Jvm.ClassFile.FieldType.array Jvm.ClassFile.FieldType.int))]
set_option maxRecDepth 65536 in
theorem codes_eq : words1.filter isCode = codes1 := rfl
theorem w_codes : ∀ c ∈ words1.filter isCode, c.before args0 about1 = true := by
  rw [codes_eq]
  intro c hc
  simp only [codes1, List.mem_cons, List.not_mem_nil, or_false] at hc
  rcases hc with rfl | rfl
  · exact w_c0
  · exact w_c1
set_option maxRecDepth 65536 in
theorem w_t1 : words1.all (fun c => isCode c || c.before args0 about1) = true := by decide +kernel
theorem w_tables : (allAtoms (Jvm.Cond.code x code maxLocals ret :: tables_1)).before args0 about1 = true := by
  rw [allAtoms_all]
  show words1.all (fun c => c.before args0 about1) = true
  refine all_split ?_ w_codes
  rw [w_t1]
set_option maxRecDepth 65536 in
theorem w_case : (Jvm.Cond.and given_1 narrow_1).before args0 about1 = true := by decide +kernel
theorem w_applies : (headSpec (Jvm.Cond.code x code maxLocals ret :: tables_1) room_1).applies x e0.platform about1 = true :=
  (Spec.applies_iff w_frames).mpr ⟨w_running, w_runnable, w_alone, w_named, w_hears, w_ripe, w_room, w_tables⟩
theorem atStart : AtStart classFile x code maxLocals ret World_1 tables_1 room_1 Calls_1 rest_1 Pre_1 launch0 p0 e0 about1 theMethod args0 below0 :=
  ⟨lists_1, trivial, launch0.admits_env _ _ _, launch0.least_env, fairChoices_fair.cas, fairChoices_fair.clock, w_frames, w_args, w_heap, w_applies, trivial, trivial, w_case⟩
end start1
theorem witness_1 : WitnessClaimed_1 := ⟨start1.p0, start1.e0, start1.about1, start1.theMethod, start1.args0, start1.below0, start1.atStart⟩
end Jvm.Pilot.@@N@@
