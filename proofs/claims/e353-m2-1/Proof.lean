import JvmDerived
import JvmDerived.Pilot.@@N@@Statement
import JvmDerived.Pilot.@@N@@Code
set_option linter.unusedVariables false
set_option linter.unusedSimpArgs false
namespace Jvm.RoadKit
open Sem ClassFile Op Lib Jvm.Stand Jvm.Free Jvm.LawKit
section New
variable {p : Program} {l : Launch} {e : Env} {R : Room} {s : State} {m : MethodId} {args : Array Value} {below : List Frame} {meth : Method} {c : Code} {T : State} {locs : List Loc} {cells slots : Nat}
theorem retI (X : Stand p l e R s m args below meth c T locs cells slots) (hx : p.tables.exec = Jvm.exec) {pc : Nat} {Ls : Array Slot} {z : Int32} {rest : List Value} (hret : meth.sig.returnType = some .int) (hd : decode c.code pc = .ok (.ireturn, 1)) {fs : List Frame}
    (hl : ∀ (f : JFrame) (acts : List Action), f.method = m → f.locked = none → f.entered = [] → (doReturn e (T.setTop f) acts (some (.int z))).1 = T.setFrames fs) : Steps p.tables e below (T.setTop (mkF m pc Ls (.int z :: rest))) (T.setFrames fs) := by
  have hm' : T.vm.method? m = some meth := X.method'
  have hn : narrow .int (.int z) = .int z := rfl
  show Steps p.tables e below (T.setTop { method := m, pc := pc, locals := Ls, stack := _ :: rest, locked := none }) _
  jvm_step X.here [X.here.top, hx, hd, hm', hret, hn]
  first | (intro acts; rw [hl _ acts rfl rfl rfl]) | rw [hl _ _ rfl rfl rfl]
  exact Steps.refl _
end New
end Jvm.RoadKit
namespace Jvm.Pilot.@@N@@
open Jvm Jvm.ClassFile Sem Op Lib Jvm.Free Jvm.Stand Jvm.LawKit Jvm.RoadKit Bundle Jvm.Pilot.@@N@@.Jvm.D
def own_A (Z : State) (h : Heap) (a : Addr) (n : Nat) (f : Nat → Int32) : Prop := ∃ c : Cell, Arr Z h a c .int ∧ c.slots.size = n ∧ ∀ j, j < n → c.slots[j]? = some (.int (f j))
def own_upd (f : Nat → Int32) (i : Nat) (x : Int32) : Nat → Int32 := fun j => if j = i then x else f j
section OwnA
variable {Z : State} {h h' : Heap} {a b : Addr} {n : Nat} {f g : Nat → Int32} {sl : Nat} {v : Value} {ws : List Addr} {c : Cell} {j x z : Int32}
theorem own_A.lt (F : own_A Z h a n f) : a < h.size := by obtain ⟨c, A, -⟩ := F; exact A.lt
theorem own_A.ext (F : own_A Z h a n f) (E : Ext h h') : own_A Z h' a n f := by obtain ⟨c, A, r⟩ := F; exact ⟨c, A.ext E, r⟩
theorem own_A.other (F : own_A Z h b n f) (W : Wr h h' a sl v) (q : b ≠ a) : own_A Z h' b n f := by obtain ⟨c, A, r⟩ := F; exact ⟨c, A.other W q, r⟩
theorem own_A.keep (F : own_A Z h a n f) (K : Keep h h' ws) (q : a ∉ ws) : own_A Z h' a n f := by obtain ⟨c, A, r⟩ := F; exact ⟨c, ⟨K.2.1 a c A.1 q, A.2⟩, r⟩
theorem own_A.set {i : Nat} (F : own_A Z h a n f) (W : Wr h h' a i (.int x)) : own_A Z h' a n (own_upd f i x) := by
  obtain ⟨c, A, S, H⟩ := F
  have hi : i < c.slots.size := by obtain ⟨c2, e1, -, e3, -⟩ := W; cases A.1.symm.trans e1; exact e3
  refine ⟨_, A.same W, by rw [sz_set]; exact S, fun k hk => ?_⟩
  by_cases u : k = i
  · subst u; simp [Cell.setSlot, own_upd, hi]
  · simp only [Cell.setSlot, own_upd, if_neg u]; rw [Array.getElem?_setIfInBounds_ne (Ne.symm u)]; exact H k hk
theorem own_A.congr (F : own_A Z h a n f) (q : ∀ j, j < n → f j = g j) : own_A Z h a n g := by obtain ⟨c, A, S, H⟩ := F; exact ⟨c, A, S, fun j hj => by rw [← q j hj]; exact H j hj⟩
theorem own_A.new {k : ClassId} (A : Arr Z h a (newA k .int z) .int) (e : z.toNatClampNeg = n) : own_A Z h a n (fun _ => 0) := ⟨_, A, by rw [sz_new]; exact e, fun i hi => by simp [newA, e, hi, defaultValue]⟩
theorem own_inb (S : c.slots.size = n) (q1 : ¬ j < 0) (q2 : j.toNatClampNeg < n) : ¬ (j < 0 ∨ c.slots.size ≤ j.toNatClampNeg) := by rw [S]; intro y; rcases y with y | y; exact q1 y; omega
theorem own_len (S : c.slots.size = n) (q : n.toInt32 = z) : c.slots.size.toInt32 = z := by rw [S]; exact q
theorem own_A.arv (F : own_A Z h a n f) (hn : n < 2 ^ 31) : ∃ k, Arv Z h a k .int (Int32.ofNat n) ((List.range n).map fun j => .int (f j)) (.int 0) := by
  obtain ⟨c, A, S, H⟩ := F
  have e : (Int32.ofNat n).toInt = n := Int32.toInt_ofNat_of_lt (by omega)
  have gt : ∀ i, i < n → ((List.range n).map fun j => Value.int (f j)).getD i (.int 0) = .int (f i) := fun i hi => by simp [List.getD_eq_getElem?_getD, hi]
  refine ⟨c.cls, c, A, rfl, by simp only [Int32.toNatClampNeg, e]; omega, by rw [Int32.lt_iff_toInt_lt, e]; show ¬ (n : Int) < 0; omega, fun i hi => ?_, fun i hi => ?_⟩
  · rw [gt i (by omega)]; exact H i (by omega)
  · rw [gt i (by omega)]; rfl
end OwnA
def own_v0 : Nat → Int32 := fun _ => 0
def own_v1 (x0 : Int32) : Nat → Int32
  | _ => x0
def own_v2 (x0 x1 : Int32) : Nat → Int32
  | 0 => x0
  | _ => x1
def own_v3 (x0 x1 x2 : Int32) : Nat → Int32
  | 0 => x0
  | 1 => x1
  | _ => x2
def own_n (p0 : Int32) : Int32 := p0 &&& (3 : Int32)
def own_e0 (p1 : Int32) : Int32 := p1 &&& (1073741823 : Int32)
def own_e1 (p1 p2 : Int32) : Int32 := (own_e0 p1 + (1 : Int32)) + (p2 &&& (536870911 : Int32))
def own_e2 (p1 p2 p3 : Int32) : Int32 := (own_e1 p1 p2 + (1 : Int32)) + (p3 &&& (536870911 : Int32))
theorem own_nc (p0 : Int32) : own_n p0 = 0 ∨ own_n p0 = 1 ∨ own_n p0 = 2 ∨ own_n p0 = 3 := by
  have q := c_and p0 3 (by decide)
  have e : (3 : Int32).toInt = 3 := rfl
  have h : (own_n p0).toInt = 0 ∨ (own_n p0).toInt = 1 ∨ (own_n p0).toInt = 2 ∨ (own_n p0).toInt = 3 := by
    show (p0 &&& 3).toInt = 0 ∨ (p0 &&& 3).toInt = 1 ∨ (p0 &&& 3).toInt = 2 ∨ (p0 &&& 3).toInt = 3
    omega
  rcases h with h | h | h | h
  · exact Or.inl (Int32.toInt_inj.mp h)
  · exact Or.inr (Or.inl (Int32.toInt_inj.mp h))
  · exact Or.inr (Or.inr (Or.inl (Int32.toInt_inj.mp h)))
  · exact Or.inr (Or.inr (Or.inr (Int32.toInt_inj.mp h)))
theorem own_emp {args : Array Value} {Z : State} {t : Term} {a : Addr} (ev : t.eval args Z none [] Z = some (.ref a)) (h1 : (Jvm.Cond.arrayOf t .int).value args Z none Z [] = some true) (h2 : (Jvm.Cond.eq (Term.length t) (Term.int 0)).value args Z none Z [] = some true) : own_A Z Z.heap a 0 own_v0 := by
  obtain ⟨c, A⟩ := Arr.start ev h1
  obtain ⟨x, y, e1, e2, k1, k2⟩ := cmp_v (Or.inl h2)
  have e2' : y = .int 0 := (Option.some.inj e2).symm
  subst e2'
  obtain ⟨z, rfl⟩ := k2
  have q : z = 0 := by simpa [Jvm.Cond.value, e1, e2] using h2
  subst q
  have ha := A.fin (Vm.Alike.refl _)
  have hs : c.slots.size = 0 := by
    by_cases hl : c.slots.size < 2 ^ 31
    · have e3 := len_f ev ha hl
      have e4 : c.slots.size.toInt32 = 0 := by have := Option.some.inj (e3.symm.trans e1); exact Value.int.inj this
      have e5 := congrArg Int32.toInt e4
      rw [len_toInt hl] at e5
      have : (0 : Int32).toInt = 0 := rfl
      omega
    · simp [Term.eval, ev, ha, hl] at e1
  exact ⟨c, A, hs, fun j hj => by omega⟩
theorem own_d_prog_142_method_4_0 : decode prog_142_method_4_code 0 = .ok (.aload_n 0, 1) := by decide +kernel
theorem own_d_prog_142_method_4_1 : decode prog_142_method_4_code 1 = .ok (.arraylength, 1) := by decide +kernel
theorem own_d_prog_142_method_4_2 : decode prog_142_method_4_code 2 = .ok (.ifCond .le 13, 3) := by decide +kernel
theorem own_d_prog_142_method_4_5 : decode prog_142_method_4_code 5 = .ok (.aload_n 0, 1) := by decide +kernel
theorem own_d_prog_142_method_4_6 : decode prog_142_method_4_code 6 = .ok (.iconst 0, 1) := by decide +kernel
theorem own_d_prog_142_method_4_7 : decode prog_142_method_4_code 7 = .ok (.iaload, 1) := by decide +kernel
theorem own_d_prog_142_method_4_8 : decode prog_142_method_4_code 8 = .ok (.ifCond .ne 7, 3) := by decide +kernel
theorem own_d_prog_142_method_4_11 : decode prog_142_method_4_code 11 = .ok (.iconst 1, 1) := by decide +kernel
theorem own_d_prog_142_method_4_12 : decode prog_142_method_4_code 12 = .ok (.goto 4, 3) := by decide +kernel
theorem own_d_prog_142_method_4_15 : decode prog_142_method_4_code 15 = .ok (.iconst 0, 1) := by decide +kernel
theorem own_d_prog_142_method_4_16 : decode prog_142_method_4_code 16 = .ok (.istore_n 1, 1) := by decide +kernel
theorem own_d_prog_142_method_4_17 : decode prog_142_method_4_code 17 = .ok (.aload_n 0, 1) := by decide +kernel
theorem own_d_prog_142_method_4_18 : decode prog_142_method_4_code 18 = .ok (.arraylength, 1) := by decide +kernel
theorem own_d_prog_142_method_4_19 : decode prog_142_method_4_code 19 = .ok (.iload_n 1, 1) := by decide +kernel
theorem own_d_prog_142_method_4_20 : decode prog_142_method_4_code 20 = .ok (.isub, 1) := by decide +kernel
theorem own_d_prog_142_method_4_21 : decode prog_142_method_4_code 21 = .ok (.newarray .int, 2) := by decide +kernel
theorem own_d_prog_142_method_4_23 : decode prog_142_method_4_code 23 = .ok (.astore_n 2, 1) := by decide +kernel
theorem own_d_prog_142_method_4_24 : decode prog_142_method_4_code 24 = .ok (.iconst 0, 1) := by decide +kernel
theorem own_d_prog_142_method_4_25 : decode prog_142_method_4_code 25 = .ok (.istore_n 3, 1) := by decide +kernel
theorem own_d_prog_142_method_4_26 : decode prog_142_method_4_code 26 = .ok (.iload_n 3, 1) := by decide +kernel
theorem own_d_prog_142_method_4_27 : decode prog_142_method_4_code 27 = .ok (.aload_n 2, 1) := by decide +kernel
theorem own_d_prog_142_method_4_28 : decode prog_142_method_4_code 28 = .ok (.arraylength, 1) := by decide +kernel
theorem own_d_prog_142_method_4_29 : decode prog_142_method_4_code 29 = .ok (.if_icmp .ge 19, 3) := by decide +kernel
theorem own_d_prog_142_method_4_32 : decode prog_142_method_4_code 32 = .ok (.aload_n 2, 1) := by decide +kernel
theorem own_d_prog_142_method_4_33 : decode prog_142_method_4_code 33 = .ok (.iload_n 3, 1) := by decide +kernel
theorem own_d_prog_142_method_4_34 : decode prog_142_method_4_code 34 = .ok (.aload_n 0, 1) := by decide +kernel
theorem own_d_prog_142_method_4_35 : decode prog_142_method_4_code 35 = .ok (.iload_n 1, 1) := by decide +kernel
theorem own_d_prog_142_method_4_36 : decode prog_142_method_4_code 36 = .ok (.iload_n 3, 1) := by decide +kernel
theorem own_d_prog_142_method_4_37 : decode prog_142_method_4_code 37 = .ok (.iadd, 1) := by decide +kernel
theorem own_d_prog_142_method_4_38 : decode prog_142_method_4_code 38 = .ok (.iaload, 1) := by decide +kernel
theorem own_d_prog_142_method_4_39 : decode prog_142_method_4_code 39 = .ok (.iconst 1, 1) := by decide +kernel
theorem own_d_prog_142_method_4_40 : decode prog_142_method_4_code 40 = .ok (.isub, 1) := by decide +kernel
theorem own_d_prog_142_method_4_41 : decode prog_142_method_4_code 41 = .ok (.iastore, 1) := by decide +kernel
theorem own_d_prog_142_method_4_42 : decode prog_142_method_4_code 42 = .ok (.iinc 3 1, 3) := by decide +kernel
theorem own_d_prog_142_method_4_45 : decode prog_142_method_4_code 45 = .ok (.goto (-19), 3) := by decide +kernel
theorem own_d_prog_142_method_4_48 : decode prog_142_method_4_code 48 = .ok (.aload_n 2, 1) := by decide +kernel
theorem own_d_prog_142_method_4_49 : decode prog_142_method_4_code 49 = .ok (.arraylength, 1) := by decide +kernel
theorem own_d_prog_142_method_4_50 : decode prog_142_method_4_code 50 = .ok (.ifCond .ne 9, 3) := by decide +kernel
theorem own_d_prog_142_method_4_53 : decode prog_142_method_4_code 53 = .ok (.getstatic 19, 3) := by decide +kernel
theorem own_d_prog_142_method_4_56 : decode prog_142_method_4_code 56 = .ok (.goto 4, 3) := by decide +kernel
theorem own_d_prog_142_method_4_59 : decode prog_142_method_4_code 59 = .ok (.aload_n 2, 1) := by decide +kernel
theorem own_d_prog_142_method_4_60 : decode prog_142_method_4_code 60 = .ok (.areturn, 1) := by decide +kernel
theorem own_pn0 : plainName "com/example/unfold/unfold/semantics/GateSets" = true := by first | (simp [plainName, overriddenIn]; done) | decide +kernel
theorem own_ef_oh0n (m : MethodId) (a1 : Addr) : entryFrame m #[(.ref a1)] 4 = mkF m 0 #[.val (.ref a1), .unset, .unset, .unset] [] := by first | (simp [entryFrame, mkF, argsToLocals, Value.category]; done) | rfl
def own_Q_oh0n (Z : State) (a1 : Addr) (aS : Addr) (h0 : Heap) (n0 : Nat) (v : Option Value) (h : Heap) (L : List Loc) : Prop := v = some (.ref aS) ∧ Fr n0 L ∧ Keep h0 h []
set_option maxRecDepth 65536 in
set_option maxHeartbeats 40000000 in
theorem own_rm_oh0n (l : Launch) (Z : State) (a0 : Array Value) (hw : ∀ d ∈ tables_1, d.before a0 Z = true) (ws : List Jvm.Cond) (a1 : Addr) (aS : Addr) (h0 : Heap) (n0 : Nat) (Z0 : n0 ≤ h0.size) (A1 : own_A Z h0 a1 0 own_v0) (S0 : Sta Z h0 "com/example/unfold/unfold/semantics/GateSets" "EMPTY" "[I" (.ref aS)) :
    MetFree l (⟨"com/example/unfold/unfold/semantics/GateSets", "outsideHide", "([I)[I"⟩ : MethodName) (head1 (Jvm.Cond.code (⟨"com/example/unfold/unfold/semantics/GateSets", "outsideHide", "([I)[I"⟩ : MethodName) prog_142_method_4_code 4 (some (.array .int)) :: ws) ({ frames := 0, cells := 1, slots := 0, locals := 0 } : Room)) (fun a U => a = #[(.ref a1)] ∧ Z.Warmed39 U.vm ∧ U.heap = h0) (fun _ _ _ _ _ => True) (fun _ U o U' => ∃ v L, o = .returned v ∧ own_Q_oh0n Z a1 aS h0 n0 v U'.heap L ∧ FrameEnd U o U' L ({ frames := 0, cells := 1, slots := 0, locals := 0 } : Room).cells ({ frames := 0, cells := 1, slots := 0, locals := 0 } : Room).slots) := by
  refine MetFree.of_bodySF (plainFor_of_name own_pn0) hisR ?_
  intro p e s m args below meth c s₁ Bd hml0 hP hK
  obtain ⟨rfl, hZ, hh⟩ := hP
  have hx := Bd.exec
  have hby := Bd.bytes
  have hml : c.maxLocals = 4 := hml0
  have hown : s.vm.findClass "com/example/unfold/unfold/semantics/GateSets" = some m.cls := findClass_of_methodNamed Bd.named
  have hnm := (name_of_methodNamed Bd.named Bd.method).1
  have X0 : Stand p l e ({ frames := 0, cells := 1, slots := 0, locals := 0 } : Room) s m #[(.ref a1)] below meth c s₁ [] 0 0 := Stand.of_body Bd
  have e0 : s₁.heap = h0 := by rw [← hh, Bd.state]; rfl
  have N0 := Fr.nil n0
  have K0 : Keep h0 h0 [] := Keep.refl _ _
  have pre0 : ∀ t, Steps p.tables e below (s₁.setTop (mkF m 0 #[.val (.ref a1), .unset, .unset, .unset] [])) t → Steps p.tables e below (s₁.setTop (entryFrame m #[(.ref a1)] 4)) t := fun t k => castTop (own_ef_oh0n m a1) k
  obtain ⟨cl1, Ar1, S1, -⟩ := id A1
  obtain ⟨cl2, Ar2, S2, -⟩ := id A1
  obtain ⟨T3, h3, k3, X3, e3, E3, A3, I3, st3⟩ := newPE X0 hx hZ (hw _ (List.mem_of_getElem? (i := 2) rfl)) e0 (g := (mkF m 21 #[.val (.ref a1), .val (.int (0 : Int32)), .unset, .unset] [(.int (0 : Int32))])) rfl (hb hby own_d_prog_142_method_4_21) rfl (by decide) (cap := 0) (by decide) (by decide) (by decide) (by decide) (ad := "[I") rfl
  obtain ⟨b3, g3⟩ : ∃ z, z = h0.size := ⟨_, rfl⟩
  rw [← g3] at A3 I3 st3
  have sz_b3 : h0.size ≤ b3 := Nat.le_trans K0.1 (Nat.le_of_eq g3.symm)
  have gn_b3 : n0 ≤ b3 := Nat.le_trans Z0 sz_b3
  have ne_a1_b3 : a1 ≠ b3 := Nat.ne_of_lt (Nat.lt_of_lt_of_le A1.lt (Nat.le_of_eq g3.symm))
  have f4 := A1.ext E3
  have f5 := S0.ext E3
  have k6 := K0.ext E3
  have f7 : own_A Z h3 b3 0 own_v0 := (own_A.new A3 rfl).congr (fun j hj => by rcases j with j <;> first | rfl | (simp [own_upd]; done) | omega)
  obtain ⟨cl8, Ar8, S8, -⟩ := id f7
  obtain ⟨cl9, Ar9, S9, -⟩ := id f7
  obtain ⟨T10, X10, e10, st10⟩ := getS2 X3 hx hZ hown (host := "") (Or.inl (hw _ (List.mem_of_getElem? (i := 7) rfl))) Via.refl e3 f5 (g := (mkF m 53 #[.val (.ref a1), .val (.int (0 : Int32)), .val (.ref b3), .val (.int (0 : Int32))] [])) rfl (hb hby own_d_prog_142_method_4_53)
  have pre11 : ∀ t, Steps p.tables e below (T10.setTop (mkF m 60 #[.val (.ref a1), .val (.int (0 : Int32)), .val (.ref b3), .val (.int (0 : Int32))] [(.ref aS)])) t → Steps p.tables e below (s₁.setTop (entryFrame m #[(.ref a1)] 4)) t := by
    intro t kt
    refine pre0 t ?_
    show Steps p.tables e below (s₁.setTop (mkF m 0 #[.val (.ref a1), .unset, .unset, .unset] [])) _
    refine XS.aloadN X0.here hx rfl (hb hby own_d_prog_142_method_4_0) rfl rfl ?_
    show Steps p.tables e below (s₁.setTop (mkF m 1 #[.val (.ref a1), .unset, .unset, .unset] [(.ref a1)])) _
    refine X0.arraylength hx (by rw [e0]; exact Ar1.1) (State.isArrayOf_alike hZ.alike Ar1.2.1) (g := (mkF m 1 #[.val (.ref a1), .unset, .unset, .unset] [(.ref a1)])) rfl rfl (hb hby own_d_prog_142_method_4_1) _ ?_
    rw [own_len (z := (0 : Int32)) S1 rfl]
    show Steps p.tables e below (s₁.setTop (mkF m 2 #[.val (.ref a1), .unset, .unset, .unset] [(.int (0 : Int32))])) _
    refine XS.ifYes X0.here hx rfl (pc0 := 2) (pc' := 15) rfl (hb hby own_d_prog_142_method_4_2) rfl ((if0 _ _).trans (flt (by decide : ¬ ((0 : Int32) < (0 : Int32)))).2.2.2) (by decide) (by decide) ?_
    show Steps p.tables e below (s₁.setTop (mkF m 15 #[.val (.ref a1), .unset, .unset, .unset] [])) _
    refine XS.iconst X0.here hx rfl (hb hby own_d_prog_142_method_4_15) ?_
    show Steps p.tables e below (s₁.setTop (mkF m 16 #[.val (.ref a1), .unset, .unset, .unset] [(.int (0 : Int32))])) _
    refine XS.istoreN X0.here hx rfl (hb hby own_d_prog_142_method_4_16) rfl (l' := #[.val (.ref a1), .val (.int (0 : Int32)), .unset, .unset]) rfl ?_
    show Steps p.tables e below (s₁.setTop (mkF m 17 #[.val (.ref a1), .val (.int (0 : Int32)), .unset, .unset] [])) _
    refine XS.aloadN X0.here hx rfl (hb hby own_d_prog_142_method_4_17) rfl rfl ?_
    show Steps p.tables e below (s₁.setTop (mkF m 18 #[.val (.ref a1), .val (.int (0 : Int32)), .unset, .unset] [(.ref a1)])) _
    refine X0.arraylength hx (by rw [e0]; exact Ar2.1) (State.isArrayOf_alike hZ.alike Ar2.2.1) (g := (mkF m 18 #[.val (.ref a1), .val (.int (0 : Int32)), .unset, .unset] [(.ref a1)])) rfl rfl (hb hby own_d_prog_142_method_4_18) _ ?_
    rw [own_len (z := (0 : Int32)) S2 rfl]
    show Steps p.tables e below (s₁.setTop (mkF m 19 #[.val (.ref a1), .val (.int (0 : Int32)), .unset, .unset] [(.int (0 : Int32))])) _
    refine XS.iloadN X0.here hx rfl (hb hby own_d_prog_142_method_4_19) rfl ?_
    show Steps p.tables e below (s₁.setTop (mkF m 20 #[.val (.ref a1), .val (.int (0 : Int32)), .unset, .unset] [(.int (0 : Int32)), (.int (0 : Int32))])) _
    refine XS.isub X0.here hx rfl (hb hby own_d_prog_142_method_4_20) rfl ?_
    show Steps p.tables e below (s₁.setTop (mkF m 21 #[.val (.ref a1), .val (.int (0 : Int32)), .unset, .unset] [(.int (0 : Int32))])) _
    refine st3 _ ?_
    show Steps p.tables e below (T3.setTop (mkF m 23 #[.val (.ref a1), .val (.int (0 : Int32)), .unset, .unset] [(.ref b3)])) _
    refine XS.astoreN X3.here hx rfl (hb hby own_d_prog_142_method_4_23) rfl rfl (l' := #[.val (.ref a1), .val (.int (0 : Int32)), .val (.ref b3), .unset]) rfl ?_
    show Steps p.tables e below (T3.setTop (mkF m 24 #[.val (.ref a1), .val (.int (0 : Int32)), .val (.ref b3), .unset] [])) _
    refine XS.iconst X3.here hx rfl (hb hby own_d_prog_142_method_4_24) ?_
    show Steps p.tables e below (T3.setTop (mkF m 25 #[.val (.ref a1), .val (.int (0 : Int32)), .val (.ref b3), .unset] [(.int (0 : Int32))])) _
    refine XS.istoreN X3.here hx rfl (hb hby own_d_prog_142_method_4_25) rfl (l' := #[.val (.ref a1), .val (.int (0 : Int32)), .val (.ref b3), .val (.int (0 : Int32))]) rfl ?_
    show Steps p.tables e below (T3.setTop (mkF m 26 #[.val (.ref a1), .val (.int (0 : Int32)), .val (.ref b3), .val (.int (0 : Int32))] [])) _
    refine XS.iloadN X3.here hx rfl (hb hby own_d_prog_142_method_4_26) rfl ?_
    show Steps p.tables e below (T3.setTop (mkF m 27 #[.val (.ref a1), .val (.int (0 : Int32)), .val (.ref b3), .val (.int (0 : Int32))] [(.int (0 : Int32))])) _
    refine XS.aloadN X3.here hx rfl (hb hby own_d_prog_142_method_4_27) rfl rfl ?_
    show Steps p.tables e below (T3.setTop (mkF m 28 #[.val (.ref a1), .val (.int (0 : Int32)), .val (.ref b3), .val (.int (0 : Int32))] [(.ref b3), (.int (0 : Int32))])) _
    refine X3.arraylength hx (by rw [e3]; exact Ar8.1) (State.isArrayOf_alike hZ.alike Ar8.2.1) (g := (mkF m 28 #[.val (.ref a1), .val (.int (0 : Int32)), .val (.ref b3), .val (.int (0 : Int32))] [(.ref b3), (.int (0 : Int32))])) rfl rfl (hb hby own_d_prog_142_method_4_28) _ ?_
    rw [own_len (z := (0 : Int32)) S8 rfl]
    show Steps p.tables e below (T3.setTop (mkF m 29 #[.val (.ref a1), .val (.int (0 : Int32)), .val (.ref b3), .val (.int (0 : Int32))] [(.int (0 : Int32)), (.int (0 : Int32))])) _
    refine XS.icmpYes X3.here hx rfl (pc0 := 29) (pc' := 48) rfl (hb hby own_d_prog_142_method_4_29) rfl (flt (by decide : ¬ ((0 : Int32) < (0 : Int32)))).2.1 (by decide) (by decide) ?_
    show Steps p.tables e below (T3.setTop (mkF m 48 #[.val (.ref a1), .val (.int (0 : Int32)), .val (.ref b3), .val (.int (0 : Int32))] [])) _
    refine XS.aloadN X3.here hx rfl (hb hby own_d_prog_142_method_4_48) rfl rfl ?_
    show Steps p.tables e below (T3.setTop (mkF m 49 #[.val (.ref a1), .val (.int (0 : Int32)), .val (.ref b3), .val (.int (0 : Int32))] [(.ref b3)])) _
    refine X3.arraylength hx (by rw [e3]; exact Ar9.1) (State.isArrayOf_alike hZ.alike Ar9.2.1) (g := (mkF m 49 #[.val (.ref a1), .val (.int (0 : Int32)), .val (.ref b3), .val (.int (0 : Int32))] [(.ref b3)])) rfl rfl (hb hby own_d_prog_142_method_4_49) _ ?_
    rw [own_len (z := (0 : Int32)) S9 rfl]
    show Steps p.tables e below (T3.setTop (mkF m 50 #[.val (.ref a1), .val (.int (0 : Int32)), .val (.ref b3), .val (.int (0 : Int32))] [(.int (0 : Int32))])) _
    refine XS.ifNo X3.here hx rfl (hb hby own_d_prog_142_method_4_50) rfl ((if0 _ _).trans (teq (rfl : (0 : Int32) = (0 : Int32))).2) ?_
    show Steps p.tables e below (T3.setTop (mkF m 53 #[.val (.ref a1), .val (.int (0 : Int32)), .val (.ref b3), .val (.int (0 : Int32))] [])) _
    refine st10 _ ?_
    show Steps p.tables e below (T10.setTop (mkF m 56 #[.val (.ref a1), .val (.int (0 : Int32)), .val (.ref b3), .val (.int (0 : Int32))] [(.ref aS)])) _
    refine XS.goto X10.here hx rfl (pc0 := 56) (pc' := 60) rfl (hb hby own_d_prog_142_method_4_56) (by decide) (by decide) ?_
    exact kt
  obtain ⟨fs, hr, hrun, hended, hW, hsame⟩ := X10.leave (v := some (.ref aS)) (fun h => by rw [Bd.returns] at h; cases h)
  refine ⟨_, _, pre11 _ ?_, hrun, hended, _, _, rfl, ?_, ⟨_, rfl⟩, hW, hsame.mono (by decide) (by decide)⟩
  · show Steps p.tables e below (T10.setTop (mkF m 60 #[.val (.ref a1), .val (.int (0 : Int32)), .val (.ref b3), .val (.int (0 : Int32))] [(.ref aS)])) _
    jvm_step X10.here [X10.here.top, hx, (hb hby own_d_prog_142_method_4_60), X10.method', Bd.returns, Value.isRef, FieldType.isReference]
    first | (intro acts; rw [hr _ acts rfl rfl rfl]) | rw [hr _ _ rfl rfl rfl]
    exact Steps.refl _
  · show own_Q_oh0n Z a1 aS h0 n0 (some (.ref aS)) T10.heap _
    rw [e10]
    exact ⟨rfl, N0, k6⟩
theorem own_ef_oh1n (m : MethodId) (a1 : Addr) : entryFrame m #[(.ref a1)] 4 = mkF m 0 #[.val (.ref a1), .unset, .unset, .unset] [] := by first | (simp [entryFrame, mkF, argsToLocals, Value.category]; done) | rfl
def own_Q_oh1n (Z : State) (a1 : Addr) (x0 : Int32) (h0 : Heap) (n0 : Nat) (v : Option Value) (h : Heap) (L : List Loc) : Prop := ∃ r : Addr, v = some (.ref r) ∧ Fr n0 L ∧ Keep h0 h [] ∧ h0.size ≤ r ∧ own_A Z h r 1 (own_v1 (x0 - (1 : Int32)))
set_option maxRecDepth 65536 in
set_option maxHeartbeats 40000000 in
theorem own_rm_oh1n (l : Launch) (Z : State) (a0 : Array Value) (hw : ∀ d ∈ tables_1, d.before a0 Z = true) (ws : List Jvm.Cond) (a1 : Addr) (x0 : Int32) (h0 : Heap) (n0 : Nat) (Z0 : n0 ≤ h0.size) (A1 : own_A Z h0 a1 1 (own_v1 x0)) (hz : ¬ x0 = (0 : Int32)) :
    MetFree l (⟨"com/example/unfold/unfold/semantics/GateSets", "outsideHide", "([I)[I"⟩ : MethodName) (head1 (Jvm.Cond.code (⟨"com/example/unfold/unfold/semantics/GateSets", "outsideHide", "([I)[I"⟩ : MethodName) prog_142_method_4_code 4 (some (.array .int)) :: ws) ({ frames := 0, cells := 1, slots := 1, locals := 0 } : Room)) (fun a U => a = #[(.ref a1)] ∧ Z.Warmed39 U.vm ∧ U.heap = h0) (fun _ _ _ _ _ => True) (fun _ U o U' => ∃ v L, o = .returned v ∧ own_Q_oh1n Z a1 x0 h0 n0 v U'.heap L ∧ FrameEnd U o U' L ({ frames := 0, cells := 1, slots := 1, locals := 0 } : Room).cells ({ frames := 0, cells := 1, slots := 1, locals := 0 } : Room).slots) := by
  refine MetFree.of_bodySF (plainFor_of_name own_pn0) hisR ?_
  intro p e s m args below meth c s₁ Bd hml0 hP hK
  obtain ⟨rfl, hZ, hh⟩ := hP
  have hx := Bd.exec
  have hby := Bd.bytes
  have hml : c.maxLocals = 4 := hml0
  have hown : s.vm.findClass "com/example/unfold/unfold/semantics/GateSets" = some m.cls := findClass_of_methodNamed Bd.named
  have hnm := (name_of_methodNamed Bd.named Bd.method).1
  have X0 : Stand p l e ({ frames := 0, cells := 1, slots := 1, locals := 0 } : Room) s m #[(.ref a1)] below meth c s₁ [] 0 0 := Stand.of_body Bd
  have e0 : s₁.heap = h0 := by rw [← hh, Bd.state]; rfl
  have N0 := Fr.nil n0
  have K0 : Keep h0 h0 [] := Keep.refl _ _
  have pre0 : ∀ t, Steps p.tables e below (s₁.setTop (mkF m 0 #[.val (.ref a1), .unset, .unset, .unset] [])) t → Steps p.tables e below (s₁.setTop (entryFrame m #[(.ref a1)] 4)) t := fun t k => castTop (own_ef_oh1n m a1) k
  obtain ⟨cl1, Ar1, S1, -⟩ := id A1
  obtain ⟨cl2, Ar2, S2, H2⟩ := id A1
  have hin2 : ¬ ((0 : Int32) < 0 ∨ cl2.slots.size ≤ ((0 : Int32)).toNatClampNeg) := own_inb S2 (by decide) (by decide)
  have hat2 : cl2.slots[((0 : Int32)).toNatClampNeg]? = some (.int x0) := H2 _ (by decide)
  obtain ⟨cl3, Ar3, S3, -⟩ := id A1
  obtain ⟨T4, h4, k4, X4, e4, E4, A4, I4, st4⟩ := newPE X0 hx hZ (hw _ (List.mem_of_getElem? (i := 2) rfl)) e0 (g := (mkF m 21 #[.val (.ref a1), .val (.int (0 : Int32)), .unset, .unset] [(.int (1 : Int32))])) rfl (hb hby own_d_prog_142_method_4_21) rfl (by decide) (cap := 1) (by decide) (by decide) (by decide) (by decide) (ad := "[I") rfl
  obtain ⟨b4, g4⟩ : ∃ z, z = h0.size := ⟨_, rfl⟩
  rw [← g4] at A4 I4 st4
  have sz_b4 : h0.size ≤ b4 := Nat.le_trans K0.1 (Nat.le_of_eq g4.symm)
  have gn_b4 : n0 ≤ b4 := Nat.le_trans Z0 sz_b4
  have ne_a1_b4 : a1 ≠ b4 := Nat.ne_of_lt (Nat.lt_of_lt_of_le A1.lt (Nat.le_of_eq g4.symm))
  have f5 := A1.ext E4
  have k6 := K0.ext E4
  have f7 : own_A Z h4 b4 1 (own_v1 (0 : Int32)) := (own_A.new A4 rfl).congr (fun j hj => by rcases j with _ | j <;> first | rfl | (simp [own_upd]; done) | omega)
  obtain ⟨cl8, Ar8, S8, -⟩ := id f7
  obtain ⟨cl9, Ar9, S9, H9⟩ := id f5
  have hin9 : ¬ ((0 : Int32) < 0 ∨ cl9.slots.size ≤ ((0 : Int32)).toNatClampNeg) := own_inb S9 (by decide) (by decide)
  have hat9 : cl9.slots[((0 : Int32)).toNatClampNeg]? = some (.int x0) := H9 _ (by decide)
  obtain ⟨cl10, Ar10, S10, H10⟩ := id f7
  have hin10 : ¬ ((0 : Int32) < 0 ∨ cl10.slots.size ≤ ((0 : Int32)).toNatClampNeg) := own_inb S10 (by decide) (by decide)
  obtain ⟨T11, h11, X11, e11, W11, st11⟩ := stI X4 hx hZ e4 Ar10 (j := (0 : Int32)) hin10 (g := (mkF m 41 #[.val (.ref a1), .val (.int (0 : Int32)), .val (.ref b4), .val (.int (0 : Int32))] [(.int (x0 - (1 : Int32))), (.int (0 : Int32)), (.ref b4)])) rfl rfl (hb hby own_d_prog_142_method_4_41)
  have f12 := f5.other W11 ne_a1_b4
  have f13 := I4.wr W11
  have k15 := k6.wr W11 (Or.inr sz_b4)
  have nf16 := Fr.snoc X11 N0 gn_b4
  have f17 := f7.set W11
  have f18 : own_A Z h11 b4 1 (own_v1 (x0 - (1 : Int32))) := f17.congr (fun j hj => by rcases j with _ | j <;> first | rfl | (simp [own_upd]; done) | omega)
  obtain ⟨cl19, Ar19, S19, -⟩ := id f18
  obtain ⟨cl20, Ar20, S20, -⟩ := id f18
  have pre21 : ∀ t, Steps p.tables e below (T11.setTop (mkF m 60 #[.val (.ref a1), .val (.int (0 : Int32)), .val (.ref b4), .val (.int (1 : Int32))] [(.ref b4)])) t → Steps p.tables e below (s₁.setTop (entryFrame m #[(.ref a1)] 4)) t := by
    intro t kt
    refine pre0 t ?_
    show Steps p.tables e below (s₁.setTop (mkF m 0 #[.val (.ref a1), .unset, .unset, .unset] [])) _
    refine XS.aloadN X0.here hx rfl (hb hby own_d_prog_142_method_4_0) rfl rfl ?_
    show Steps p.tables e below (s₁.setTop (mkF m 1 #[.val (.ref a1), .unset, .unset, .unset] [(.ref a1)])) _
    refine X0.arraylength hx (by rw [e0]; exact Ar1.1) (State.isArrayOf_alike hZ.alike Ar1.2.1) (g := (mkF m 1 #[.val (.ref a1), .unset, .unset, .unset] [(.ref a1)])) rfl rfl (hb hby own_d_prog_142_method_4_1) _ ?_
    rw [own_len (z := (1 : Int32)) S1 rfl]
    show Steps p.tables e below (s₁.setTop (mkF m 2 #[.val (.ref a1), .unset, .unset, .unset] [(.int (1 : Int32))])) _
    refine XS.ifNo X0.here hx rfl (hb hby own_d_prog_142_method_4_2) rfl ((if0 _ _).trans (tlt (by decide : (0 : Int32) < (1 : Int32))).2.2.2) ?_
    show Steps p.tables e below (s₁.setTop (mkF m 5 #[.val (.ref a1), .unset, .unset, .unset] [])) _
    refine XS.aloadN X0.here hx rfl (hb hby own_d_prog_142_method_4_5) rfl rfl ?_
    show Steps p.tables e below (s₁.setTop (mkF m 6 #[.val (.ref a1), .unset, .unset, .unset] [(.ref a1)])) _
    refine XS.iconst X0.here hx rfl (hb hby own_d_prog_142_method_4_6) ?_
    show Steps p.tables e below (s₁.setTop (mkF m 7 #[.val (.ref a1), .unset, .unset, .unset] [(.int (0 : Int32)), (.ref a1)])) _
    refine X0.iaload hx (j := (0 : Int32)) (v := (.int x0)) (by rw [e0]; exact Ar2.1) (State.isArrayOf_alike hZ.alike Ar2.2.1) Ar2.2.2 hin2 hat2 (g := (mkF m 7 #[.val (.ref a1), .unset, .unset, .unset] [(.int (0 : Int32)), (.ref a1)])) rfl rfl (hb hby own_d_prog_142_method_4_7) _ ?_
    show Steps p.tables e below (s₁.setTop (mkF m 8 #[.val (.ref a1), .unset, .unset, .unset] [(.int x0)])) _
    refine XS.ifYes X0.here hx rfl (pc0 := 8) (pc' := 15) rfl (hb hby own_d_prog_142_method_4_8) rfl ((if0 _ _).trans (feq hz).2) (by decide) (by decide) ?_
    show Steps p.tables e below (s₁.setTop (mkF m 15 #[.val (.ref a1), .unset, .unset, .unset] [])) _
    refine XS.iconst X0.here hx rfl (hb hby own_d_prog_142_method_4_15) ?_
    show Steps p.tables e below (s₁.setTop (mkF m 16 #[.val (.ref a1), .unset, .unset, .unset] [(.int (0 : Int32))])) _
    refine XS.istoreN X0.here hx rfl (hb hby own_d_prog_142_method_4_16) rfl (l' := #[.val (.ref a1), .val (.int (0 : Int32)), .unset, .unset]) rfl ?_
    show Steps p.tables e below (s₁.setTop (mkF m 17 #[.val (.ref a1), .val (.int (0 : Int32)), .unset, .unset] [])) _
    refine XS.aloadN X0.here hx rfl (hb hby own_d_prog_142_method_4_17) rfl rfl ?_
    show Steps p.tables e below (s₁.setTop (mkF m 18 #[.val (.ref a1), .val (.int (0 : Int32)), .unset, .unset] [(.ref a1)])) _
    refine X0.arraylength hx (by rw [e0]; exact Ar3.1) (State.isArrayOf_alike hZ.alike Ar3.2.1) (g := (mkF m 18 #[.val (.ref a1), .val (.int (0 : Int32)), .unset, .unset] [(.ref a1)])) rfl rfl (hb hby own_d_prog_142_method_4_18) _ ?_
    rw [own_len (z := (1 : Int32)) S3 rfl]
    show Steps p.tables e below (s₁.setTop (mkF m 19 #[.val (.ref a1), .val (.int (0 : Int32)), .unset, .unset] [(.int (1 : Int32))])) _
    refine XS.iloadN X0.here hx rfl (hb hby own_d_prog_142_method_4_19) rfl ?_
    show Steps p.tables e below (s₁.setTop (mkF m 20 #[.val (.ref a1), .val (.int (0 : Int32)), .unset, .unset] [(.int (0 : Int32)), (.int (1 : Int32))])) _
    refine XS.isub X0.here hx rfl (hb hby own_d_prog_142_method_4_20) rfl ?_
    show Steps p.tables e below (s₁.setTop (mkF m 21 #[.val (.ref a1), .val (.int (0 : Int32)), .unset, .unset] [(.int (1 : Int32))])) _
    refine st4 _ ?_
    show Steps p.tables e below (T4.setTop (mkF m 23 #[.val (.ref a1), .val (.int (0 : Int32)), .unset, .unset] [(.ref b4)])) _
    refine XS.astoreN X4.here hx rfl (hb hby own_d_prog_142_method_4_23) rfl rfl (l' := #[.val (.ref a1), .val (.int (0 : Int32)), .val (.ref b4), .unset]) rfl ?_
    show Steps p.tables e below (T4.setTop (mkF m 24 #[.val (.ref a1), .val (.int (0 : Int32)), .val (.ref b4), .unset] [])) _
    refine XS.iconst X4.here hx rfl (hb hby own_d_prog_142_method_4_24) ?_
    show Steps p.tables e below (T4.setTop (mkF m 25 #[.val (.ref a1), .val (.int (0 : Int32)), .val (.ref b4), .unset] [(.int (0 : Int32))])) _
    refine XS.istoreN X4.here hx rfl (hb hby own_d_prog_142_method_4_25) rfl (l' := #[.val (.ref a1), .val (.int (0 : Int32)), .val (.ref b4), .val (.int (0 : Int32))]) rfl ?_
    show Steps p.tables e below (T4.setTop (mkF m 26 #[.val (.ref a1), .val (.int (0 : Int32)), .val (.ref b4), .val (.int (0 : Int32))] [])) _
    refine XS.iloadN X4.here hx rfl (hb hby own_d_prog_142_method_4_26) rfl ?_
    show Steps p.tables e below (T4.setTop (mkF m 27 #[.val (.ref a1), .val (.int (0 : Int32)), .val (.ref b4), .val (.int (0 : Int32))] [(.int (0 : Int32))])) _
    refine XS.aloadN X4.here hx rfl (hb hby own_d_prog_142_method_4_27) rfl rfl ?_
    show Steps p.tables e below (T4.setTop (mkF m 28 #[.val (.ref a1), .val (.int (0 : Int32)), .val (.ref b4), .val (.int (0 : Int32))] [(.ref b4), (.int (0 : Int32))])) _
    refine X4.arraylength hx (by rw [e4]; exact Ar8.1) (State.isArrayOf_alike hZ.alike Ar8.2.1) (g := (mkF m 28 #[.val (.ref a1), .val (.int (0 : Int32)), .val (.ref b4), .val (.int (0 : Int32))] [(.ref b4), (.int (0 : Int32))])) rfl rfl (hb hby own_d_prog_142_method_4_28) _ ?_
    rw [own_len (z := (1 : Int32)) S8 rfl]
    show Steps p.tables e below (T4.setTop (mkF m 29 #[.val (.ref a1), .val (.int (0 : Int32)), .val (.ref b4), .val (.int (0 : Int32))] [(.int (1 : Int32)), (.int (0 : Int32))])) _
    refine XS.icmpNo X4.here hx rfl (hb hby own_d_prog_142_method_4_29) rfl (tlt (by decide : (0 : Int32) < (1 : Int32))).2.1 ?_
    show Steps p.tables e below (T4.setTop (mkF m 32 #[.val (.ref a1), .val (.int (0 : Int32)), .val (.ref b4), .val (.int (0 : Int32))] [])) _
    refine XS.aloadN X4.here hx rfl (hb hby own_d_prog_142_method_4_32) rfl rfl ?_
    show Steps p.tables e below (T4.setTop (mkF m 33 #[.val (.ref a1), .val (.int (0 : Int32)), .val (.ref b4), .val (.int (0 : Int32))] [(.ref b4)])) _
    refine XS.iloadN X4.here hx rfl (hb hby own_d_prog_142_method_4_33) rfl ?_
    show Steps p.tables e below (T4.setTop (mkF m 34 #[.val (.ref a1), .val (.int (0 : Int32)), .val (.ref b4), .val (.int (0 : Int32))] [(.int (0 : Int32)), (.ref b4)])) _
    refine XS.aloadN X4.here hx rfl (hb hby own_d_prog_142_method_4_34) rfl rfl ?_
    show Steps p.tables e below (T4.setTop (mkF m 35 #[.val (.ref a1), .val (.int (0 : Int32)), .val (.ref b4), .val (.int (0 : Int32))] [(.ref a1), (.int (0 : Int32)), (.ref b4)])) _
    refine XS.iloadN X4.here hx rfl (hb hby own_d_prog_142_method_4_35) rfl ?_
    show Steps p.tables e below (T4.setTop (mkF m 36 #[.val (.ref a1), .val (.int (0 : Int32)), .val (.ref b4), .val (.int (0 : Int32))] [(.int (0 : Int32)), (.ref a1), (.int (0 : Int32)), (.ref b4)])) _
    refine XS.iloadN X4.here hx rfl (hb hby own_d_prog_142_method_4_36) rfl ?_
    show Steps p.tables e below (T4.setTop (mkF m 37 #[.val (.ref a1), .val (.int (0 : Int32)), .val (.ref b4), .val (.int (0 : Int32))] [(.int (0 : Int32)), (.int (0 : Int32)), (.ref a1), (.int (0 : Int32)), (.ref b4)])) _
    refine XS.iadd X4.here hx rfl (hb hby own_d_prog_142_method_4_37) rfl ?_
    show Steps p.tables e below (T4.setTop (mkF m 38 #[.val (.ref a1), .val (.int (0 : Int32)), .val (.ref b4), .val (.int (0 : Int32))] [(.int (0 : Int32)), (.ref a1), (.int (0 : Int32)), (.ref b4)])) _
    refine X4.iaload hx (j := (0 : Int32)) (v := (.int x0)) (by rw [e4]; exact Ar9.1) (State.isArrayOf_alike hZ.alike Ar9.2.1) Ar9.2.2 hin9 hat9 (g := (mkF m 38 #[.val (.ref a1), .val (.int (0 : Int32)), .val (.ref b4), .val (.int (0 : Int32))] [(.int (0 : Int32)), (.ref a1), (.int (0 : Int32)), (.ref b4)])) rfl rfl (hb hby own_d_prog_142_method_4_38) _ ?_
    show Steps p.tables e below (T4.setTop (mkF m 39 #[.val (.ref a1), .val (.int (0 : Int32)), .val (.ref b4), .val (.int (0 : Int32))] [(.int x0), (.int (0 : Int32)), (.ref b4)])) _
    refine XS.iconst X4.here hx rfl (hb hby own_d_prog_142_method_4_39) ?_
    show Steps p.tables e below (T4.setTop (mkF m 40 #[.val (.ref a1), .val (.int (0 : Int32)), .val (.ref b4), .val (.int (0 : Int32))] [(.int (1 : Int32)), (.int x0), (.int (0 : Int32)), (.ref b4)])) _
    refine XS.isub X4.here hx rfl (hb hby own_d_prog_142_method_4_40) rfl ?_
    show Steps p.tables e below (T4.setTop (mkF m 41 #[.val (.ref a1), .val (.int (0 : Int32)), .val (.ref b4), .val (.int (0 : Int32))] [(.int (x0 - (1 : Int32))), (.int (0 : Int32)), (.ref b4)])) _
    refine st11 _ ?_
    show Steps p.tables e below (T11.setTop (mkF m 42 #[.val (.ref a1), .val (.int (0 : Int32)), .val (.ref b4), .val (.int (0 : Int32))] [])) _
    refine XS.iinc X11.here hx rfl (hb hby own_d_prog_142_method_4_42) rfl (l' := #[.val (.ref a1), .val (.int (0 : Int32)), .val (.ref b4), .val (.int (1 : Int32))]) rfl ?_
    show Steps p.tables e below (T11.setTop (mkF m 45 #[.val (.ref a1), .val (.int (0 : Int32)), .val (.ref b4), .val (.int (1 : Int32))] [])) _
    refine XS.goto X11.here hx rfl (pc0 := 45) (pc' := 26) rfl (hb hby own_d_prog_142_method_4_45) (by decide) (by decide) ?_
    show Steps p.tables e below (T11.setTop (mkF m 26 #[.val (.ref a1), .val (.int (0 : Int32)), .val (.ref b4), .val (.int (1 : Int32))] [])) _
    refine XS.iloadN X11.here hx rfl (hb hby own_d_prog_142_method_4_26) rfl ?_
    show Steps p.tables e below (T11.setTop (mkF m 27 #[.val (.ref a1), .val (.int (0 : Int32)), .val (.ref b4), .val (.int (1 : Int32))] [(.int (1 : Int32))])) _
    refine XS.aloadN X11.here hx rfl (hb hby own_d_prog_142_method_4_27) rfl rfl ?_
    show Steps p.tables e below (T11.setTop (mkF m 28 #[.val (.ref a1), .val (.int (0 : Int32)), .val (.ref b4), .val (.int (1 : Int32))] [(.ref b4), (.int (1 : Int32))])) _
    refine X11.arraylength hx (by rw [e11]; exact Ar19.1) (State.isArrayOf_alike hZ.alike Ar19.2.1) (g := (mkF m 28 #[.val (.ref a1), .val (.int (0 : Int32)), .val (.ref b4), .val (.int (1 : Int32))] [(.ref b4), (.int (1 : Int32))])) rfl rfl (hb hby own_d_prog_142_method_4_28) _ ?_
    rw [own_len (z := (1 : Int32)) S19 rfl]
    show Steps p.tables e below (T11.setTop (mkF m 29 #[.val (.ref a1), .val (.int (0 : Int32)), .val (.ref b4), .val (.int (1 : Int32))] [(.int (1 : Int32)), (.int (1 : Int32))])) _
    refine XS.icmpYes X11.here hx rfl (pc0 := 29) (pc' := 48) rfl (hb hby own_d_prog_142_method_4_29) rfl (flt (by decide : ¬ ((1 : Int32) < (1 : Int32)))).2.1 (by decide) (by decide) ?_
    show Steps p.tables e below (T11.setTop (mkF m 48 #[.val (.ref a1), .val (.int (0 : Int32)), .val (.ref b4), .val (.int (1 : Int32))] [])) _
    refine XS.aloadN X11.here hx rfl (hb hby own_d_prog_142_method_4_48) rfl rfl ?_
    show Steps p.tables e below (T11.setTop (mkF m 49 #[.val (.ref a1), .val (.int (0 : Int32)), .val (.ref b4), .val (.int (1 : Int32))] [(.ref b4)])) _
    refine X11.arraylength hx (by rw [e11]; exact Ar20.1) (State.isArrayOf_alike hZ.alike Ar20.2.1) (g := (mkF m 49 #[.val (.ref a1), .val (.int (0 : Int32)), .val (.ref b4), .val (.int (1 : Int32))] [(.ref b4)])) rfl rfl (hb hby own_d_prog_142_method_4_49) _ ?_
    rw [own_len (z := (1 : Int32)) S20 rfl]
    show Steps p.tables e below (T11.setTop (mkF m 50 #[.val (.ref a1), .val (.int (0 : Int32)), .val (.ref b4), .val (.int (1 : Int32))] [(.int (1 : Int32))])) _
    refine XS.ifYes X11.here hx rfl (pc0 := 50) (pc' := 59) rfl (hb hby own_d_prog_142_method_4_50) rfl ((if0 _ _).trans (feq (by decide : ¬ ((1 : Int32) = (0 : Int32)))).2) (by decide) (by decide) ?_
    show Steps p.tables e below (T11.setTop (mkF m 59 #[.val (.ref a1), .val (.int (0 : Int32)), .val (.ref b4), .val (.int (1 : Int32))] [])) _
    refine XS.aloadN X11.here hx rfl (hb hby own_d_prog_142_method_4_59) rfl rfl ?_
    exact kt
  obtain ⟨fs, hr, hrun, hended, hW, hsame⟩ := X11.leave (v := some (.ref b4)) (fun h => by rw [Bd.returns] at h; cases h)
  refine ⟨_, _, pre21 _ ?_, hrun, hended, _, _, rfl, ?_, ⟨_, rfl⟩, hW, hsame.mono (by decide) (by decide)⟩
  · show Steps p.tables e below (T11.setTop (mkF m 60 #[.val (.ref a1), .val (.int (0 : Int32)), .val (.ref b4), .val (.int (1 : Int32))] [(.ref b4)])) _
    jvm_step X11.here [X11.here.top, hx, (hb hby own_d_prog_142_method_4_60), X11.method', Bd.returns, Value.isRef, FieldType.isReference]
    first | (intro acts; rw [hr _ acts rfl rfl rfl]) | rw [hr _ _ rfl rfl rfl]
    exact Steps.refl _
  · show own_Q_oh1n Z a1 x0 h0 n0 (some (.ref b4)) T11.heap _
    rw [e11]
    exact ⟨_, rfl, nf16, k15, sz_b4, f18⟩
theorem own_ef_oh1z (m : MethodId) (a1 : Addr) : entryFrame m #[(.ref a1)] 4 = mkF m 0 #[.val (.ref a1), .unset, .unset, .unset] [] := by first | (simp [entryFrame, mkF, argsToLocals, Value.category]; done) | rfl
def own_Q_oh1z (Z : State) (a1 : Addr) (x0 : Int32) (aS : Addr) (h0 : Heap) (n0 : Nat) (v : Option Value) (h : Heap) (L : List Loc) : Prop := v = some (.ref aS) ∧ Fr n0 L ∧ Keep h0 h []
set_option maxRecDepth 65536 in
set_option maxHeartbeats 40000000 in
theorem own_rm_oh1z (l : Launch) (Z : State) (a0 : Array Value) (hw : ∀ d ∈ tables_1, d.before a0 Z = true) (ws : List Jvm.Cond) (a1 : Addr) (x0 : Int32) (aS : Addr) (h0 : Heap) (n0 : Nat) (Z0 : n0 ≤ h0.size) (A1 : own_A Z h0 a1 1 (own_v1 x0)) (hz : x0 = (0 : Int32)) (S0 : Sta Z h0 "com/example/unfold/unfold/semantics/GateSets" "EMPTY" "[I" (.ref aS)) :
    MetFree l (⟨"com/example/unfold/unfold/semantics/GateSets", "outsideHide", "([I)[I"⟩ : MethodName) (head1 (Jvm.Cond.code (⟨"com/example/unfold/unfold/semantics/GateSets", "outsideHide", "([I)[I"⟩ : MethodName) prog_142_method_4_code 4 (some (.array .int)) :: ws) ({ frames := 0, cells := 1, slots := 0, locals := 0 } : Room)) (fun a U => a = #[(.ref a1)] ∧ Z.Warmed39 U.vm ∧ U.heap = h0) (fun _ _ _ _ _ => True) (fun _ U o U' => ∃ v L, o = .returned v ∧ own_Q_oh1z Z a1 x0 aS h0 n0 v U'.heap L ∧ FrameEnd U o U' L ({ frames := 0, cells := 1, slots := 0, locals := 0 } : Room).cells ({ frames := 0, cells := 1, slots := 0, locals := 0 } : Room).slots) := by
  refine MetFree.of_bodySF (plainFor_of_name own_pn0) hisR ?_
  intro p e s m args below meth c s₁ Bd hml0 hP hK
  obtain ⟨rfl, hZ, hh⟩ := hP
  have hx := Bd.exec
  have hby := Bd.bytes
  have hml : c.maxLocals = 4 := hml0
  have hown : s.vm.findClass "com/example/unfold/unfold/semantics/GateSets" = some m.cls := findClass_of_methodNamed Bd.named
  have hnm := (name_of_methodNamed Bd.named Bd.method).1
  have X0 : Stand p l e ({ frames := 0, cells := 1, slots := 0, locals := 0 } : Room) s m #[(.ref a1)] below meth c s₁ [] 0 0 := Stand.of_body Bd
  have e0 : s₁.heap = h0 := by rw [← hh, Bd.state]; rfl
  have N0 := Fr.nil n0
  have K0 : Keep h0 h0 [] := Keep.refl _ _
  have pre0 : ∀ t, Steps p.tables e below (s₁.setTop (mkF m 0 #[.val (.ref a1), .unset, .unset, .unset] [])) t → Steps p.tables e below (s₁.setTop (entryFrame m #[(.ref a1)] 4)) t := fun t k => castTop (own_ef_oh1z m a1) k
  obtain ⟨cl1, Ar1, S1, -⟩ := id A1
  obtain ⟨cl2, Ar2, S2, H2⟩ := id A1
  have hin2 : ¬ ((0 : Int32) < 0 ∨ cl2.slots.size ≤ ((0 : Int32)).toNatClampNeg) := own_inb S2 (by decide) (by decide)
  have hat2 : cl2.slots[((0 : Int32)).toNatClampNeg]? = some (.int x0) := H2 _ (by decide)
  obtain ⟨cl3, Ar3, S3, -⟩ := id A1
  obtain ⟨T4, h4, k4, X4, e4, E4, A4, I4, st4⟩ := newPE X0 hx hZ (hw _ (List.mem_of_getElem? (i := 2) rfl)) e0 (g := (mkF m 21 #[.val (.ref a1), .val (.int (1 : Int32)), .unset, .unset] [(.int (0 : Int32))])) rfl (hb hby own_d_prog_142_method_4_21) rfl (by decide) (cap := 0) (by decide) (by decide) (by decide) (by decide) (ad := "[I") rfl
  obtain ⟨b4, g4⟩ : ∃ z, z = h0.size := ⟨_, rfl⟩
  rw [← g4] at A4 I4 st4
  have sz_b4 : h0.size ≤ b4 := Nat.le_trans K0.1 (Nat.le_of_eq g4.symm)
  have gn_b4 : n0 ≤ b4 := Nat.le_trans Z0 sz_b4
  have ne_a1_b4 : a1 ≠ b4 := Nat.ne_of_lt (Nat.lt_of_lt_of_le A1.lt (Nat.le_of_eq g4.symm))
  have f5 := A1.ext E4
  have f6 := S0.ext E4
  have k7 := K0.ext E4
  have f8 : own_A Z h4 b4 0 own_v0 := (own_A.new A4 rfl).congr (fun j hj => by rcases j with j <;> first | rfl | (simp [own_upd]; done) | omega)
  obtain ⟨cl9, Ar9, S9, -⟩ := id f8
  obtain ⟨cl10, Ar10, S10, -⟩ := id f8
  obtain ⟨T11, X11, e11, st11⟩ := getS2 X4 hx hZ hown (host := "") (Or.inl (hw _ (List.mem_of_getElem? (i := 7) rfl))) Via.refl e4 f6 (g := (mkF m 53 #[.val (.ref a1), .val (.int (1 : Int32)), .val (.ref b4), .val (.int (0 : Int32))] [])) rfl (hb hby own_d_prog_142_method_4_53)
  have pre12 : ∀ t, Steps p.tables e below (T11.setTop (mkF m 60 #[.val (.ref a1), .val (.int (1 : Int32)), .val (.ref b4), .val (.int (0 : Int32))] [(.ref aS)])) t → Steps p.tables e below (s₁.setTop (entryFrame m #[(.ref a1)] 4)) t := by
    intro t kt
    refine pre0 t ?_
    show Steps p.tables e below (s₁.setTop (mkF m 0 #[.val (.ref a1), .unset, .unset, .unset] [])) _
    refine XS.aloadN X0.here hx rfl (hb hby own_d_prog_142_method_4_0) rfl rfl ?_
    show Steps p.tables e below (s₁.setTop (mkF m 1 #[.val (.ref a1), .unset, .unset, .unset] [(.ref a1)])) _
    refine X0.arraylength hx (by rw [e0]; exact Ar1.1) (State.isArrayOf_alike hZ.alike Ar1.2.1) (g := (mkF m 1 #[.val (.ref a1), .unset, .unset, .unset] [(.ref a1)])) rfl rfl (hb hby own_d_prog_142_method_4_1) _ ?_
    rw [own_len (z := (1 : Int32)) S1 rfl]
    show Steps p.tables e below (s₁.setTop (mkF m 2 #[.val (.ref a1), .unset, .unset, .unset] [(.int (1 : Int32))])) _
    refine XS.ifNo X0.here hx rfl (hb hby own_d_prog_142_method_4_2) rfl ((if0 _ _).trans (tlt (by decide : (0 : Int32) < (1 : Int32))).2.2.2) ?_
    show Steps p.tables e below (s₁.setTop (mkF m 5 #[.val (.ref a1), .unset, .unset, .unset] [])) _
    refine XS.aloadN X0.here hx rfl (hb hby own_d_prog_142_method_4_5) rfl rfl ?_
    show Steps p.tables e below (s₁.setTop (mkF m 6 #[.val (.ref a1), .unset, .unset, .unset] [(.ref a1)])) _
    refine XS.iconst X0.here hx rfl (hb hby own_d_prog_142_method_4_6) ?_
    show Steps p.tables e below (s₁.setTop (mkF m 7 #[.val (.ref a1), .unset, .unset, .unset] [(.int (0 : Int32)), (.ref a1)])) _
    refine X0.iaload hx (j := (0 : Int32)) (v := (.int x0)) (by rw [e0]; exact Ar2.1) (State.isArrayOf_alike hZ.alike Ar2.2.1) Ar2.2.2 hin2 hat2 (g := (mkF m 7 #[.val (.ref a1), .unset, .unset, .unset] [(.int (0 : Int32)), (.ref a1)])) rfl rfl (hb hby own_d_prog_142_method_4_7) _ ?_
    show Steps p.tables e below (s₁.setTop (mkF m 8 #[.val (.ref a1), .unset, .unset, .unset] [(.int x0)])) _
    refine XS.ifNo X0.here hx rfl (hb hby own_d_prog_142_method_4_8) rfl ((if0 _ _).trans (teq hz).2) ?_
    show Steps p.tables e below (s₁.setTop (mkF m 11 #[.val (.ref a1), .unset, .unset, .unset] [])) _
    refine XS.iconst X0.here hx rfl (hb hby own_d_prog_142_method_4_11) ?_
    show Steps p.tables e below (s₁.setTop (mkF m 12 #[.val (.ref a1), .unset, .unset, .unset] [(.int (1 : Int32))])) _
    refine XS.goto X0.here hx rfl (pc0 := 12) (pc' := 16) rfl (hb hby own_d_prog_142_method_4_12) (by decide) (by decide) ?_
    show Steps p.tables e below (s₁.setTop (mkF m 16 #[.val (.ref a1), .unset, .unset, .unset] [(.int (1 : Int32))])) _
    refine XS.istoreN X0.here hx rfl (hb hby own_d_prog_142_method_4_16) rfl (l' := #[.val (.ref a1), .val (.int (1 : Int32)), .unset, .unset]) rfl ?_
    show Steps p.tables e below (s₁.setTop (mkF m 17 #[.val (.ref a1), .val (.int (1 : Int32)), .unset, .unset] [])) _
    refine XS.aloadN X0.here hx rfl (hb hby own_d_prog_142_method_4_17) rfl rfl ?_
    show Steps p.tables e below (s₁.setTop (mkF m 18 #[.val (.ref a1), .val (.int (1 : Int32)), .unset, .unset] [(.ref a1)])) _
    refine X0.arraylength hx (by rw [e0]; exact Ar3.1) (State.isArrayOf_alike hZ.alike Ar3.2.1) (g := (mkF m 18 #[.val (.ref a1), .val (.int (1 : Int32)), .unset, .unset] [(.ref a1)])) rfl rfl (hb hby own_d_prog_142_method_4_18) _ ?_
    rw [own_len (z := (1 : Int32)) S3 rfl]
    show Steps p.tables e below (s₁.setTop (mkF m 19 #[.val (.ref a1), .val (.int (1 : Int32)), .unset, .unset] [(.int (1 : Int32))])) _
    refine XS.iloadN X0.here hx rfl (hb hby own_d_prog_142_method_4_19) rfl ?_
    show Steps p.tables e below (s₁.setTop (mkF m 20 #[.val (.ref a1), .val (.int (1 : Int32)), .unset, .unset] [(.int (1 : Int32)), (.int (1 : Int32))])) _
    refine XS.isub X0.here hx rfl (hb hby own_d_prog_142_method_4_20) rfl ?_
    show Steps p.tables e below (s₁.setTop (mkF m 21 #[.val (.ref a1), .val (.int (1 : Int32)), .unset, .unset] [(.int (0 : Int32))])) _
    refine st4 _ ?_
    show Steps p.tables e below (T4.setTop (mkF m 23 #[.val (.ref a1), .val (.int (1 : Int32)), .unset, .unset] [(.ref b4)])) _
    refine XS.astoreN X4.here hx rfl (hb hby own_d_prog_142_method_4_23) rfl rfl (l' := #[.val (.ref a1), .val (.int (1 : Int32)), .val (.ref b4), .unset]) rfl ?_
    show Steps p.tables e below (T4.setTop (mkF m 24 #[.val (.ref a1), .val (.int (1 : Int32)), .val (.ref b4), .unset] [])) _
    refine XS.iconst X4.here hx rfl (hb hby own_d_prog_142_method_4_24) ?_
    show Steps p.tables e below (T4.setTop (mkF m 25 #[.val (.ref a1), .val (.int (1 : Int32)), .val (.ref b4), .unset] [(.int (0 : Int32))])) _
    refine XS.istoreN X4.here hx rfl (hb hby own_d_prog_142_method_4_25) rfl (l' := #[.val (.ref a1), .val (.int (1 : Int32)), .val (.ref b4), .val (.int (0 : Int32))]) rfl ?_
    show Steps p.tables e below (T4.setTop (mkF m 26 #[.val (.ref a1), .val (.int (1 : Int32)), .val (.ref b4), .val (.int (0 : Int32))] [])) _
    refine XS.iloadN X4.here hx rfl (hb hby own_d_prog_142_method_4_26) rfl ?_
    show Steps p.tables e below (T4.setTop (mkF m 27 #[.val (.ref a1), .val (.int (1 : Int32)), .val (.ref b4), .val (.int (0 : Int32))] [(.int (0 : Int32))])) _
    refine XS.aloadN X4.here hx rfl (hb hby own_d_prog_142_method_4_27) rfl rfl ?_
    show Steps p.tables e below (T4.setTop (mkF m 28 #[.val (.ref a1), .val (.int (1 : Int32)), .val (.ref b4), .val (.int (0 : Int32))] [(.ref b4), (.int (0 : Int32))])) _
    refine X4.arraylength hx (by rw [e4]; exact Ar9.1) (State.isArrayOf_alike hZ.alike Ar9.2.1) (g := (mkF m 28 #[.val (.ref a1), .val (.int (1 : Int32)), .val (.ref b4), .val (.int (0 : Int32))] [(.ref b4), (.int (0 : Int32))])) rfl rfl (hb hby own_d_prog_142_method_4_28) _ ?_
    rw [own_len (z := (0 : Int32)) S9 rfl]
    show Steps p.tables e below (T4.setTop (mkF m 29 #[.val (.ref a1), .val (.int (1 : Int32)), .val (.ref b4), .val (.int (0 : Int32))] [(.int (0 : Int32)), (.int (0 : Int32))])) _
    refine XS.icmpYes X4.here hx rfl (pc0 := 29) (pc' := 48) rfl (hb hby own_d_prog_142_method_4_29) rfl (flt (by decide : ¬ ((0 : Int32) < (0 : Int32)))).2.1 (by decide) (by decide) ?_
    show Steps p.tables e below (T4.setTop (mkF m 48 #[.val (.ref a1), .val (.int (1 : Int32)), .val (.ref b4), .val (.int (0 : Int32))] [])) _
    refine XS.aloadN X4.here hx rfl (hb hby own_d_prog_142_method_4_48) rfl rfl ?_
    show Steps p.tables e below (T4.setTop (mkF m 49 #[.val (.ref a1), .val (.int (1 : Int32)), .val (.ref b4), .val (.int (0 : Int32))] [(.ref b4)])) _
    refine X4.arraylength hx (by rw [e4]; exact Ar10.1) (State.isArrayOf_alike hZ.alike Ar10.2.1) (g := (mkF m 49 #[.val (.ref a1), .val (.int (1 : Int32)), .val (.ref b4), .val (.int (0 : Int32))] [(.ref b4)])) rfl rfl (hb hby own_d_prog_142_method_4_49) _ ?_
    rw [own_len (z := (0 : Int32)) S10 rfl]
    show Steps p.tables e below (T4.setTop (mkF m 50 #[.val (.ref a1), .val (.int (1 : Int32)), .val (.ref b4), .val (.int (0 : Int32))] [(.int (0 : Int32))])) _
    refine XS.ifNo X4.here hx rfl (hb hby own_d_prog_142_method_4_50) rfl ((if0 _ _).trans (teq (rfl : (0 : Int32) = (0 : Int32))).2) ?_
    show Steps p.tables e below (T4.setTop (mkF m 53 #[.val (.ref a1), .val (.int (1 : Int32)), .val (.ref b4), .val (.int (0 : Int32))] [])) _
    refine st11 _ ?_
    show Steps p.tables e below (T11.setTop (mkF m 56 #[.val (.ref a1), .val (.int (1 : Int32)), .val (.ref b4), .val (.int (0 : Int32))] [(.ref aS)])) _
    refine XS.goto X11.here hx rfl (pc0 := 56) (pc' := 60) rfl (hb hby own_d_prog_142_method_4_56) (by decide) (by decide) ?_
    exact kt
  obtain ⟨fs, hr, hrun, hended, hW, hsame⟩ := X11.leave (v := some (.ref aS)) (fun h => by rw [Bd.returns] at h; cases h)
  refine ⟨_, _, pre12 _ ?_, hrun, hended, _, _, rfl, ?_, ⟨_, rfl⟩, hW, hsame.mono (by decide) (by decide)⟩
  · show Steps p.tables e below (T11.setTop (mkF m 60 #[.val (.ref a1), .val (.int (1 : Int32)), .val (.ref b4), .val (.int (0 : Int32))] [(.ref aS)])) _
    jvm_step X11.here [X11.here.top, hx, (hb hby own_d_prog_142_method_4_60), X11.method', Bd.returns, Value.isRef, FieldType.isReference]
    first | (intro acts; rw [hr _ acts rfl rfl rfl]) | rw [hr _ _ rfl rfl rfl]
    exact Steps.refl _
  · show own_Q_oh1z Z a1 x0 aS h0 n0 (some (.ref aS)) T11.heap _
    rw [e11]
    exact ⟨rfl, N0, k7⟩
theorem own_ef_oh2n (m : MethodId) (a1 : Addr) : entryFrame m #[(.ref a1)] 4 = mkF m 0 #[.val (.ref a1), .unset, .unset, .unset] [] := by first | (simp [entryFrame, mkF, argsToLocals, Value.category]; done) | rfl
def own_Q_oh2n (Z : State) (a1 : Addr) (x0 : Int32) (x1 : Int32) (h0 : Heap) (n0 : Nat) (v : Option Value) (h : Heap) (L : List Loc) : Prop := ∃ r : Addr, v = some (.ref r) ∧ Fr n0 L ∧ Keep h0 h [] ∧ h0.size ≤ r ∧ own_A Z h r 2 (own_v2 (x0 - (1 : Int32)) (x1 - (1 : Int32)))
set_option maxRecDepth 65536 in
set_option maxHeartbeats 40000000 in
theorem own_rm_oh2n (l : Launch) (Z : State) (a0 : Array Value) (hw : ∀ d ∈ tables_1, d.before a0 Z = true) (ws : List Jvm.Cond) (a1 : Addr) (x0 : Int32) (x1 : Int32) (h0 : Heap) (n0 : Nat) (Z0 : n0 ≤ h0.size) (A1 : own_A Z h0 a1 2 (own_v2 x0 x1)) (hz : ¬ x0 = (0 : Int32)) :
    MetFree l (⟨"com/example/unfold/unfold/semantics/GateSets", "outsideHide", "([I)[I"⟩ : MethodName) (head1 (Jvm.Cond.code (⟨"com/example/unfold/unfold/semantics/GateSets", "outsideHide", "([I)[I"⟩ : MethodName) prog_142_method_4_code 4 (some (.array .int)) :: ws) ({ frames := 0, cells := 1, slots := 2, locals := 0 } : Room)) (fun a U => a = #[(.ref a1)] ∧ Z.Warmed39 U.vm ∧ U.heap = h0) (fun _ _ _ _ _ => True) (fun _ U o U' => ∃ v L, o = .returned v ∧ own_Q_oh2n Z a1 x0 x1 h0 n0 v U'.heap L ∧ FrameEnd U o U' L ({ frames := 0, cells := 1, slots := 2, locals := 0 } : Room).cells ({ frames := 0, cells := 1, slots := 2, locals := 0 } : Room).slots) := by
  refine MetFree.of_bodySF (plainFor_of_name own_pn0) hisR ?_
  intro p e s m args below meth c s₁ Bd hml0 hP hK
  obtain ⟨rfl, hZ, hh⟩ := hP
  have hx := Bd.exec
  have hby := Bd.bytes
  have hml : c.maxLocals = 4 := hml0
  have hown : s.vm.findClass "com/example/unfold/unfold/semantics/GateSets" = some m.cls := findClass_of_methodNamed Bd.named
  have hnm := (name_of_methodNamed Bd.named Bd.method).1
  have X0 : Stand p l e ({ frames := 0, cells := 1, slots := 2, locals := 0 } : Room) s m #[(.ref a1)] below meth c s₁ [] 0 0 := Stand.of_body Bd
  have e0 : s₁.heap = h0 := by rw [← hh, Bd.state]; rfl
  have N0 := Fr.nil n0
  have K0 : Keep h0 h0 [] := Keep.refl _ _
  have pre0 : ∀ t, Steps p.tables e below (s₁.setTop (mkF m 0 #[.val (.ref a1), .unset, .unset, .unset] [])) t → Steps p.tables e below (s₁.setTop (entryFrame m #[(.ref a1)] 4)) t := fun t k => castTop (own_ef_oh2n m a1) k
  obtain ⟨cl1, Ar1, S1, -⟩ := id A1
  obtain ⟨cl2, Ar2, S2, H2⟩ := id A1
  have hin2 : ¬ ((0 : Int32) < 0 ∨ cl2.slots.size ≤ ((0 : Int32)).toNatClampNeg) := own_inb S2 (by decide) (by decide)
  have hat2 : cl2.slots[((0 : Int32)).toNatClampNeg]? = some (.int x0) := H2 _ (by decide)
  obtain ⟨cl3, Ar3, S3, -⟩ := id A1
  obtain ⟨T4, h4, k4, X4, e4, E4, A4, I4, st4⟩ := newPE X0 hx hZ (hw _ (List.mem_of_getElem? (i := 2) rfl)) e0 (g := (mkF m 21 #[.val (.ref a1), .val (.int (0 : Int32)), .unset, .unset] [(.int (2 : Int32))])) rfl (hb hby own_d_prog_142_method_4_21) rfl (by decide) (cap := 2) (by decide) (by decide) (by decide) (by decide) (ad := "[I") rfl
  obtain ⟨b4, g4⟩ : ∃ z, z = h0.size := ⟨_, rfl⟩
  rw [← g4] at A4 I4 st4
  have sz_b4 : h0.size ≤ b4 := Nat.le_trans K0.1 (Nat.le_of_eq g4.symm)
  have gn_b4 : n0 ≤ b4 := Nat.le_trans Z0 sz_b4
  have ne_a1_b4 : a1 ≠ b4 := Nat.ne_of_lt (Nat.lt_of_lt_of_le A1.lt (Nat.le_of_eq g4.symm))
  have f5 := A1.ext E4
  have k6 := K0.ext E4
  have f7 : own_A Z h4 b4 2 (own_v2 (0 : Int32) (0 : Int32)) := (own_A.new A4 rfl).congr (fun j hj => by rcases j with _ | _ | j <;> first | rfl | (simp [own_upd]; done) | omega)
  obtain ⟨cl8, Ar8, S8, -⟩ := id f7
  obtain ⟨cl9, Ar9, S9, H9⟩ := id f5
  have hin9 : ¬ ((0 : Int32) < 0 ∨ cl9.slots.size ≤ ((0 : Int32)).toNatClampNeg) := own_inb S9 (by decide) (by decide)
  have hat9 : cl9.slots[((0 : Int32)).toNatClampNeg]? = some (.int x0) := H9 _ (by decide)
  obtain ⟨cl10, Ar10, S10, H10⟩ := id f7
  have hin10 : ¬ ((0 : Int32) < 0 ∨ cl10.slots.size ≤ ((0 : Int32)).toNatClampNeg) := own_inb S10 (by decide) (by decide)
  obtain ⟨T11, h11, X11, e11, W11, st11⟩ := stI X4 hx hZ e4 Ar10 (j := (0 : Int32)) hin10 (g := (mkF m 41 #[.val (.ref a1), .val (.int (0 : Int32)), .val (.ref b4), .val (.int (0 : Int32))] [(.int (x0 - (1 : Int32))), (.int (0 : Int32)), (.ref b4)])) rfl rfl (hb hby own_d_prog_142_method_4_41)
  have f12 := f5.other W11 ne_a1_b4
  have f13 := I4.wr W11
  have k15 := k6.wr W11 (Or.inr sz_b4)
  have nf16 := Fr.snoc X11 N0 gn_b4
  have f17 := f7.set W11
  have f18 : own_A Z h11 b4 2 (own_v2 (x0 - (1 : Int32)) (0 : Int32)) := f17.congr (fun j hj => by rcases j with _ | _ | j <;> first | rfl | (simp [own_upd]; done) | omega)
  obtain ⟨cl19, Ar19, S19, -⟩ := id f18
  obtain ⟨cl20, Ar20, S20, H20⟩ := id f12
  have hin20 : ¬ ((1 : Int32) < 0 ∨ cl20.slots.size ≤ ((1 : Int32)).toNatClampNeg) := own_inb S20 (by decide) (by decide)
  have hat20 : cl20.slots[((1 : Int32)).toNatClampNeg]? = some (.int x1) := H20 _ (by decide)
  obtain ⟨cl21, Ar21, S21, H21⟩ := id f18
  have hin21 : ¬ ((1 : Int32) < 0 ∨ cl21.slots.size ≤ ((1 : Int32)).toNatClampNeg) := own_inb S21 (by decide) (by decide)
  obtain ⟨T22, h22, X22, e22, W22, st22⟩ := stI X11 hx hZ e11 Ar21 (j := (1 : Int32)) hin21 (g := (mkF m 41 #[.val (.ref a1), .val (.int (0 : Int32)), .val (.ref b4), .val (.int (1 : Int32))] [(.int (x1 - (1 : Int32))), (.int (1 : Int32)), (.ref b4)])) rfl rfl (hb hby own_d_prog_142_method_4_41)
  have f23 := f12.other W22 ne_a1_b4
  have f24 := f13.wr W22
  have k26 := k15.wr W22 (Or.inr sz_b4)
  have nf27 := Fr.snoc X22 nf16 gn_b4
  have f28 := f18.set W22
  have f29 : own_A Z h22 b4 2 (own_v2 (x0 - (1 : Int32)) (x1 - (1 : Int32))) := f28.congr (fun j hj => by rcases j with _ | _ | j <;> first | rfl | (simp [own_upd]; done) | omega)
  obtain ⟨cl30, Ar30, S30, -⟩ := id f29
  obtain ⟨cl31, Ar31, S31, -⟩ := id f29
  have pre32 : ∀ t, Steps p.tables e below (T22.setTop (mkF m 60 #[.val (.ref a1), .val (.int (0 : Int32)), .val (.ref b4), .val (.int (2 : Int32))] [(.ref b4)])) t → Steps p.tables e below (s₁.setTop (entryFrame m #[(.ref a1)] 4)) t := by
    intro t kt
    refine pre0 t ?_
    show Steps p.tables e below (s₁.setTop (mkF m 0 #[.val (.ref a1), .unset, .unset, .unset] [])) _
    refine XS.aloadN X0.here hx rfl (hb hby own_d_prog_142_method_4_0) rfl rfl ?_
    show Steps p.tables e below (s₁.setTop (mkF m 1 #[.val (.ref a1), .unset, .unset, .unset] [(.ref a1)])) _
    refine X0.arraylength hx (by rw [e0]; exact Ar1.1) (State.isArrayOf_alike hZ.alike Ar1.2.1) (g := (mkF m 1 #[.val (.ref a1), .unset, .unset, .unset] [(.ref a1)])) rfl rfl (hb hby own_d_prog_142_method_4_1) _ ?_
    rw [own_len (z := (2 : Int32)) S1 rfl]
    show Steps p.tables e below (s₁.setTop (mkF m 2 #[.val (.ref a1), .unset, .unset, .unset] [(.int (2 : Int32))])) _
    refine XS.ifNo X0.here hx rfl (hb hby own_d_prog_142_method_4_2) rfl ((if0 _ _).trans (tlt (by decide : (0 : Int32) < (2 : Int32))).2.2.2) ?_
    show Steps p.tables e below (s₁.setTop (mkF m 5 #[.val (.ref a1), .unset, .unset, .unset] [])) _
    refine XS.aloadN X0.here hx rfl (hb hby own_d_prog_142_method_4_5) rfl rfl ?_
    show Steps p.tables e below (s₁.setTop (mkF m 6 #[.val (.ref a1), .unset, .unset, .unset] [(.ref a1)])) _
    refine XS.iconst X0.here hx rfl (hb hby own_d_prog_142_method_4_6) ?_
    show Steps p.tables e below (s₁.setTop (mkF m 7 #[.val (.ref a1), .unset, .unset, .unset] [(.int (0 : Int32)), (.ref a1)])) _
    refine X0.iaload hx (j := (0 : Int32)) (v := (.int x0)) (by rw [e0]; exact Ar2.1) (State.isArrayOf_alike hZ.alike Ar2.2.1) Ar2.2.2 hin2 hat2 (g := (mkF m 7 #[.val (.ref a1), .unset, .unset, .unset] [(.int (0 : Int32)), (.ref a1)])) rfl rfl (hb hby own_d_prog_142_method_4_7) _ ?_
    show Steps p.tables e below (s₁.setTop (mkF m 8 #[.val (.ref a1), .unset, .unset, .unset] [(.int x0)])) _
    refine XS.ifYes X0.here hx rfl (pc0 := 8) (pc' := 15) rfl (hb hby own_d_prog_142_method_4_8) rfl ((if0 _ _).trans (feq hz).2) (by decide) (by decide) ?_
    show Steps p.tables e below (s₁.setTop (mkF m 15 #[.val (.ref a1), .unset, .unset, .unset] [])) _
    refine XS.iconst X0.here hx rfl (hb hby own_d_prog_142_method_4_15) ?_
    show Steps p.tables e below (s₁.setTop (mkF m 16 #[.val (.ref a1), .unset, .unset, .unset] [(.int (0 : Int32))])) _
    refine XS.istoreN X0.here hx rfl (hb hby own_d_prog_142_method_4_16) rfl (l' := #[.val (.ref a1), .val (.int (0 : Int32)), .unset, .unset]) rfl ?_
    show Steps p.tables e below (s₁.setTop (mkF m 17 #[.val (.ref a1), .val (.int (0 : Int32)), .unset, .unset] [])) _
    refine XS.aloadN X0.here hx rfl (hb hby own_d_prog_142_method_4_17) rfl rfl ?_
    show Steps p.tables e below (s₁.setTop (mkF m 18 #[.val (.ref a1), .val (.int (0 : Int32)), .unset, .unset] [(.ref a1)])) _
    refine X0.arraylength hx (by rw [e0]; exact Ar3.1) (State.isArrayOf_alike hZ.alike Ar3.2.1) (g := (mkF m 18 #[.val (.ref a1), .val (.int (0 : Int32)), .unset, .unset] [(.ref a1)])) rfl rfl (hb hby own_d_prog_142_method_4_18) _ ?_
    rw [own_len (z := (2 : Int32)) S3 rfl]
    show Steps p.tables e below (s₁.setTop (mkF m 19 #[.val (.ref a1), .val (.int (0 : Int32)), .unset, .unset] [(.int (2 : Int32))])) _
    refine XS.iloadN X0.here hx rfl (hb hby own_d_prog_142_method_4_19) rfl ?_
    show Steps p.tables e below (s₁.setTop (mkF m 20 #[.val (.ref a1), .val (.int (0 : Int32)), .unset, .unset] [(.int (0 : Int32)), (.int (2 : Int32))])) _
    refine XS.isub X0.here hx rfl (hb hby own_d_prog_142_method_4_20) rfl ?_
    show Steps p.tables e below (s₁.setTop (mkF m 21 #[.val (.ref a1), .val (.int (0 : Int32)), .unset, .unset] [(.int (2 : Int32))])) _
    refine st4 _ ?_
    show Steps p.tables e below (T4.setTop (mkF m 23 #[.val (.ref a1), .val (.int (0 : Int32)), .unset, .unset] [(.ref b4)])) _
    refine XS.astoreN X4.here hx rfl (hb hby own_d_prog_142_method_4_23) rfl rfl (l' := #[.val (.ref a1), .val (.int (0 : Int32)), .val (.ref b4), .unset]) rfl ?_
    show Steps p.tables e below (T4.setTop (mkF m 24 #[.val (.ref a1), .val (.int (0 : Int32)), .val (.ref b4), .unset] [])) _
    refine XS.iconst X4.here hx rfl (hb hby own_d_prog_142_method_4_24) ?_
    show Steps p.tables e below (T4.setTop (mkF m 25 #[.val (.ref a1), .val (.int (0 : Int32)), .val (.ref b4), .unset] [(.int (0 : Int32))])) _
    refine XS.istoreN X4.here hx rfl (hb hby own_d_prog_142_method_4_25) rfl (l' := #[.val (.ref a1), .val (.int (0 : Int32)), .val (.ref b4), .val (.int (0 : Int32))]) rfl ?_
    show Steps p.tables e below (T4.setTop (mkF m 26 #[.val (.ref a1), .val (.int (0 : Int32)), .val (.ref b4), .val (.int (0 : Int32))] [])) _
    refine XS.iloadN X4.here hx rfl (hb hby own_d_prog_142_method_4_26) rfl ?_
    show Steps p.tables e below (T4.setTop (mkF m 27 #[.val (.ref a1), .val (.int (0 : Int32)), .val (.ref b4), .val (.int (0 : Int32))] [(.int (0 : Int32))])) _
    refine XS.aloadN X4.here hx rfl (hb hby own_d_prog_142_method_4_27) rfl rfl ?_
    show Steps p.tables e below (T4.setTop (mkF m 28 #[.val (.ref a1), .val (.int (0 : Int32)), .val (.ref b4), .val (.int (0 : Int32))] [(.ref b4), (.int (0 : Int32))])) _
    refine X4.arraylength hx (by rw [e4]; exact Ar8.1) (State.isArrayOf_alike hZ.alike Ar8.2.1) (g := (mkF m 28 #[.val (.ref a1), .val (.int (0 : Int32)), .val (.ref b4), .val (.int (0 : Int32))] [(.ref b4), (.int (0 : Int32))])) rfl rfl (hb hby own_d_prog_142_method_4_28) _ ?_
    rw [own_len (z := (2 : Int32)) S8 rfl]
    show Steps p.tables e below (T4.setTop (mkF m 29 #[.val (.ref a1), .val (.int (0 : Int32)), .val (.ref b4), .val (.int (0 : Int32))] [(.int (2 : Int32)), (.int (0 : Int32))])) _
    refine XS.icmpNo X4.here hx rfl (hb hby own_d_prog_142_method_4_29) rfl (tlt (by decide : (0 : Int32) < (2 : Int32))).2.1 ?_
    show Steps p.tables e below (T4.setTop (mkF m 32 #[.val (.ref a1), .val (.int (0 : Int32)), .val (.ref b4), .val (.int (0 : Int32))] [])) _
    refine XS.aloadN X4.here hx rfl (hb hby own_d_prog_142_method_4_32) rfl rfl ?_
    show Steps p.tables e below (T4.setTop (mkF m 33 #[.val (.ref a1), .val (.int (0 : Int32)), .val (.ref b4), .val (.int (0 : Int32))] [(.ref b4)])) _
    refine XS.iloadN X4.here hx rfl (hb hby own_d_prog_142_method_4_33) rfl ?_
    show Steps p.tables e below (T4.setTop (mkF m 34 #[.val (.ref a1), .val (.int (0 : Int32)), .val (.ref b4), .val (.int (0 : Int32))] [(.int (0 : Int32)), (.ref b4)])) _
    refine XS.aloadN X4.here hx rfl (hb hby own_d_prog_142_method_4_34) rfl rfl ?_
    show Steps p.tables e below (T4.setTop (mkF m 35 #[.val (.ref a1), .val (.int (0 : Int32)), .val (.ref b4), .val (.int (0 : Int32))] [(.ref a1), (.int (0 : Int32)), (.ref b4)])) _
    refine XS.iloadN X4.here hx rfl (hb hby own_d_prog_142_method_4_35) rfl ?_
    show Steps p.tables e below (T4.setTop (mkF m 36 #[.val (.ref a1), .val (.int (0 : Int32)), .val (.ref b4), .val (.int (0 : Int32))] [(.int (0 : Int32)), (.ref a1), (.int (0 : Int32)), (.ref b4)])) _
    refine XS.iloadN X4.here hx rfl (hb hby own_d_prog_142_method_4_36) rfl ?_
    show Steps p.tables e below (T4.setTop (mkF m 37 #[.val (.ref a1), .val (.int (0 : Int32)), .val (.ref b4), .val (.int (0 : Int32))] [(.int (0 : Int32)), (.int (0 : Int32)), (.ref a1), (.int (0 : Int32)), (.ref b4)])) _
    refine XS.iadd X4.here hx rfl (hb hby own_d_prog_142_method_4_37) rfl ?_
    show Steps p.tables e below (T4.setTop (mkF m 38 #[.val (.ref a1), .val (.int (0 : Int32)), .val (.ref b4), .val (.int (0 : Int32))] [(.int (0 : Int32)), (.ref a1), (.int (0 : Int32)), (.ref b4)])) _
    refine X4.iaload hx (j := (0 : Int32)) (v := (.int x0)) (by rw [e4]; exact Ar9.1) (State.isArrayOf_alike hZ.alike Ar9.2.1) Ar9.2.2 hin9 hat9 (g := (mkF m 38 #[.val (.ref a1), .val (.int (0 : Int32)), .val (.ref b4), .val (.int (0 : Int32))] [(.int (0 : Int32)), (.ref a1), (.int (0 : Int32)), (.ref b4)])) rfl rfl (hb hby own_d_prog_142_method_4_38) _ ?_
    show Steps p.tables e below (T4.setTop (mkF m 39 #[.val (.ref a1), .val (.int (0 : Int32)), .val (.ref b4), .val (.int (0 : Int32))] [(.int x0), (.int (0 : Int32)), (.ref b4)])) _
    refine XS.iconst X4.here hx rfl (hb hby own_d_prog_142_method_4_39) ?_
    show Steps p.tables e below (T4.setTop (mkF m 40 #[.val (.ref a1), .val (.int (0 : Int32)), .val (.ref b4), .val (.int (0 : Int32))] [(.int (1 : Int32)), (.int x0), (.int (0 : Int32)), (.ref b4)])) _
    refine XS.isub X4.here hx rfl (hb hby own_d_prog_142_method_4_40) rfl ?_
    show Steps p.tables e below (T4.setTop (mkF m 41 #[.val (.ref a1), .val (.int (0 : Int32)), .val (.ref b4), .val (.int (0 : Int32))] [(.int (x0 - (1 : Int32))), (.int (0 : Int32)), (.ref b4)])) _
    refine st11 _ ?_
    show Steps p.tables e below (T11.setTop (mkF m 42 #[.val (.ref a1), .val (.int (0 : Int32)), .val (.ref b4), .val (.int (0 : Int32))] [])) _
    refine XS.iinc X11.here hx rfl (hb hby own_d_prog_142_method_4_42) rfl (l' := #[.val (.ref a1), .val (.int (0 : Int32)), .val (.ref b4), .val (.int (1 : Int32))]) rfl ?_
    show Steps p.tables e below (T11.setTop (mkF m 45 #[.val (.ref a1), .val (.int (0 : Int32)), .val (.ref b4), .val (.int (1 : Int32))] [])) _
    refine XS.goto X11.here hx rfl (pc0 := 45) (pc' := 26) rfl (hb hby own_d_prog_142_method_4_45) (by decide) (by decide) ?_
    show Steps p.tables e below (T11.setTop (mkF m 26 #[.val (.ref a1), .val (.int (0 : Int32)), .val (.ref b4), .val (.int (1 : Int32))] [])) _
    refine XS.iloadN X11.here hx rfl (hb hby own_d_prog_142_method_4_26) rfl ?_
    show Steps p.tables e below (T11.setTop (mkF m 27 #[.val (.ref a1), .val (.int (0 : Int32)), .val (.ref b4), .val (.int (1 : Int32))] [(.int (1 : Int32))])) _
    refine XS.aloadN X11.here hx rfl (hb hby own_d_prog_142_method_4_27) rfl rfl ?_
    show Steps p.tables e below (T11.setTop (mkF m 28 #[.val (.ref a1), .val (.int (0 : Int32)), .val (.ref b4), .val (.int (1 : Int32))] [(.ref b4), (.int (1 : Int32))])) _
    refine X11.arraylength hx (by rw [e11]; exact Ar19.1) (State.isArrayOf_alike hZ.alike Ar19.2.1) (g := (mkF m 28 #[.val (.ref a1), .val (.int (0 : Int32)), .val (.ref b4), .val (.int (1 : Int32))] [(.ref b4), (.int (1 : Int32))])) rfl rfl (hb hby own_d_prog_142_method_4_28) _ ?_
    rw [own_len (z := (2 : Int32)) S19 rfl]
    show Steps p.tables e below (T11.setTop (mkF m 29 #[.val (.ref a1), .val (.int (0 : Int32)), .val (.ref b4), .val (.int (1 : Int32))] [(.int (2 : Int32)), (.int (1 : Int32))])) _
    refine XS.icmpNo X11.here hx rfl (hb hby own_d_prog_142_method_4_29) rfl (tlt (by decide : (1 : Int32) < (2 : Int32))).2.1 ?_
    show Steps p.tables e below (T11.setTop (mkF m 32 #[.val (.ref a1), .val (.int (0 : Int32)), .val (.ref b4), .val (.int (1 : Int32))] [])) _
    refine XS.aloadN X11.here hx rfl (hb hby own_d_prog_142_method_4_32) rfl rfl ?_
    show Steps p.tables e below (T11.setTop (mkF m 33 #[.val (.ref a1), .val (.int (0 : Int32)), .val (.ref b4), .val (.int (1 : Int32))] [(.ref b4)])) _
    refine XS.iloadN X11.here hx rfl (hb hby own_d_prog_142_method_4_33) rfl ?_
    show Steps p.tables e below (T11.setTop (mkF m 34 #[.val (.ref a1), .val (.int (0 : Int32)), .val (.ref b4), .val (.int (1 : Int32))] [(.int (1 : Int32)), (.ref b4)])) _
    refine XS.aloadN X11.here hx rfl (hb hby own_d_prog_142_method_4_34) rfl rfl ?_
    show Steps p.tables e below (T11.setTop (mkF m 35 #[.val (.ref a1), .val (.int (0 : Int32)), .val (.ref b4), .val (.int (1 : Int32))] [(.ref a1), (.int (1 : Int32)), (.ref b4)])) _
    refine XS.iloadN X11.here hx rfl (hb hby own_d_prog_142_method_4_35) rfl ?_
    show Steps p.tables e below (T11.setTop (mkF m 36 #[.val (.ref a1), .val (.int (0 : Int32)), .val (.ref b4), .val (.int (1 : Int32))] [(.int (0 : Int32)), (.ref a1), (.int (1 : Int32)), (.ref b4)])) _
    refine XS.iloadN X11.here hx rfl (hb hby own_d_prog_142_method_4_36) rfl ?_
    show Steps p.tables e below (T11.setTop (mkF m 37 #[.val (.ref a1), .val (.int (0 : Int32)), .val (.ref b4), .val (.int (1 : Int32))] [(.int (1 : Int32)), (.int (0 : Int32)), (.ref a1), (.int (1 : Int32)), (.ref b4)])) _
    refine XS.iadd X11.here hx rfl (hb hby own_d_prog_142_method_4_37) rfl ?_
    show Steps p.tables e below (T11.setTop (mkF m 38 #[.val (.ref a1), .val (.int (0 : Int32)), .val (.ref b4), .val (.int (1 : Int32))] [(.int (1 : Int32)), (.ref a1), (.int (1 : Int32)), (.ref b4)])) _
    refine X11.iaload hx (j := (1 : Int32)) (v := (.int x1)) (by rw [e11]; exact Ar20.1) (State.isArrayOf_alike hZ.alike Ar20.2.1) Ar20.2.2 hin20 hat20 (g := (mkF m 38 #[.val (.ref a1), .val (.int (0 : Int32)), .val (.ref b4), .val (.int (1 : Int32))] [(.int (1 : Int32)), (.ref a1), (.int (1 : Int32)), (.ref b4)])) rfl rfl (hb hby own_d_prog_142_method_4_38) _ ?_
    show Steps p.tables e below (T11.setTop (mkF m 39 #[.val (.ref a1), .val (.int (0 : Int32)), .val (.ref b4), .val (.int (1 : Int32))] [(.int x1), (.int (1 : Int32)), (.ref b4)])) _
    refine XS.iconst X11.here hx rfl (hb hby own_d_prog_142_method_4_39) ?_
    show Steps p.tables e below (T11.setTop (mkF m 40 #[.val (.ref a1), .val (.int (0 : Int32)), .val (.ref b4), .val (.int (1 : Int32))] [(.int (1 : Int32)), (.int x1), (.int (1 : Int32)), (.ref b4)])) _
    refine XS.isub X11.here hx rfl (hb hby own_d_prog_142_method_4_40) rfl ?_
    show Steps p.tables e below (T11.setTop (mkF m 41 #[.val (.ref a1), .val (.int (0 : Int32)), .val (.ref b4), .val (.int (1 : Int32))] [(.int (x1 - (1 : Int32))), (.int (1 : Int32)), (.ref b4)])) _
    refine st22 _ ?_
    show Steps p.tables e below (T22.setTop (mkF m 42 #[.val (.ref a1), .val (.int (0 : Int32)), .val (.ref b4), .val (.int (1 : Int32))] [])) _
    refine XS.iinc X22.here hx rfl (hb hby own_d_prog_142_method_4_42) rfl (l' := #[.val (.ref a1), .val (.int (0 : Int32)), .val (.ref b4), .val (.int (2 : Int32))]) rfl ?_
    show Steps p.tables e below (T22.setTop (mkF m 45 #[.val (.ref a1), .val (.int (0 : Int32)), .val (.ref b4), .val (.int (2 : Int32))] [])) _
    refine XS.goto X22.here hx rfl (pc0 := 45) (pc' := 26) rfl (hb hby own_d_prog_142_method_4_45) (by decide) (by decide) ?_
    show Steps p.tables e below (T22.setTop (mkF m 26 #[.val (.ref a1), .val (.int (0 : Int32)), .val (.ref b4), .val (.int (2 : Int32))] [])) _
    refine XS.iloadN X22.here hx rfl (hb hby own_d_prog_142_method_4_26) rfl ?_
    show Steps p.tables e below (T22.setTop (mkF m 27 #[.val (.ref a1), .val (.int (0 : Int32)), .val (.ref b4), .val (.int (2 : Int32))] [(.int (2 : Int32))])) _
    refine XS.aloadN X22.here hx rfl (hb hby own_d_prog_142_method_4_27) rfl rfl ?_
    show Steps p.tables e below (T22.setTop (mkF m 28 #[.val (.ref a1), .val (.int (0 : Int32)), .val (.ref b4), .val (.int (2 : Int32))] [(.ref b4), (.int (2 : Int32))])) _
    refine X22.arraylength hx (by rw [e22]; exact Ar30.1) (State.isArrayOf_alike hZ.alike Ar30.2.1) (g := (mkF m 28 #[.val (.ref a1), .val (.int (0 : Int32)), .val (.ref b4), .val (.int (2 : Int32))] [(.ref b4), (.int (2 : Int32))])) rfl rfl (hb hby own_d_prog_142_method_4_28) _ ?_
    rw [own_len (z := (2 : Int32)) S30 rfl]
    show Steps p.tables e below (T22.setTop (mkF m 29 #[.val (.ref a1), .val (.int (0 : Int32)), .val (.ref b4), .val (.int (2 : Int32))] [(.int (2 : Int32)), (.int (2 : Int32))])) _
    refine XS.icmpYes X22.here hx rfl (pc0 := 29) (pc' := 48) rfl (hb hby own_d_prog_142_method_4_29) rfl (flt (by decide : ¬ ((2 : Int32) < (2 : Int32)))).2.1 (by decide) (by decide) ?_
    show Steps p.tables e below (T22.setTop (mkF m 48 #[.val (.ref a1), .val (.int (0 : Int32)), .val (.ref b4), .val (.int (2 : Int32))] [])) _
    refine XS.aloadN X22.here hx rfl (hb hby own_d_prog_142_method_4_48) rfl rfl ?_
    show Steps p.tables e below (T22.setTop (mkF m 49 #[.val (.ref a1), .val (.int (0 : Int32)), .val (.ref b4), .val (.int (2 : Int32))] [(.ref b4)])) _
    refine X22.arraylength hx (by rw [e22]; exact Ar31.1) (State.isArrayOf_alike hZ.alike Ar31.2.1) (g := (mkF m 49 #[.val (.ref a1), .val (.int (0 : Int32)), .val (.ref b4), .val (.int (2 : Int32))] [(.ref b4)])) rfl rfl (hb hby own_d_prog_142_method_4_49) _ ?_
    rw [own_len (z := (2 : Int32)) S31 rfl]
    show Steps p.tables e below (T22.setTop (mkF m 50 #[.val (.ref a1), .val (.int (0 : Int32)), .val (.ref b4), .val (.int (2 : Int32))] [(.int (2 : Int32))])) _
    refine XS.ifYes X22.here hx rfl (pc0 := 50) (pc' := 59) rfl (hb hby own_d_prog_142_method_4_50) rfl ((if0 _ _).trans (feq (by decide : ¬ ((2 : Int32) = (0 : Int32)))).2) (by decide) (by decide) ?_
    show Steps p.tables e below (T22.setTop (mkF m 59 #[.val (.ref a1), .val (.int (0 : Int32)), .val (.ref b4), .val (.int (2 : Int32))] [])) _
    refine XS.aloadN X22.here hx rfl (hb hby own_d_prog_142_method_4_59) rfl rfl ?_
    exact kt
  obtain ⟨fs, hr, hrun, hended, hW, hsame⟩ := X22.leave (v := some (.ref b4)) (fun h => by rw [Bd.returns] at h; cases h)
  refine ⟨_, _, pre32 _ ?_, hrun, hended, _, _, rfl, ?_, ⟨_, rfl⟩, hW, hsame.mono (by decide) (by decide)⟩
  · show Steps p.tables e below (T22.setTop (mkF m 60 #[.val (.ref a1), .val (.int (0 : Int32)), .val (.ref b4), .val (.int (2 : Int32))] [(.ref b4)])) _
    jvm_step X22.here [X22.here.top, hx, (hb hby own_d_prog_142_method_4_60), X22.method', Bd.returns, Value.isRef, FieldType.isReference]
    first | (intro acts; rw [hr _ acts rfl rfl rfl]) | rw [hr _ _ rfl rfl rfl]
    exact Steps.refl _
  · show own_Q_oh2n Z a1 x0 x1 h0 n0 (some (.ref b4)) T22.heap _
    rw [e22]
    exact ⟨_, rfl, nf27, k26, sz_b4, f29⟩
theorem own_ef_oh2z (m : MethodId) (a1 : Addr) : entryFrame m #[(.ref a1)] 4 = mkF m 0 #[.val (.ref a1), .unset, .unset, .unset] [] := by first | (simp [entryFrame, mkF, argsToLocals, Value.category]; done) | rfl
def own_Q_oh2z (Z : State) (a1 : Addr) (x0 : Int32) (x1 : Int32) (h0 : Heap) (n0 : Nat) (v : Option Value) (h : Heap) (L : List Loc) : Prop := ∃ r : Addr, v = some (.ref r) ∧ Fr n0 L ∧ Keep h0 h [] ∧ h0.size ≤ r ∧ own_A Z h r 1 (own_v1 (x1 - (1 : Int32)))
set_option maxRecDepth 65536 in
set_option maxHeartbeats 40000000 in
theorem own_rm_oh2z (l : Launch) (Z : State) (a0 : Array Value) (hw : ∀ d ∈ tables_1, d.before a0 Z = true) (ws : List Jvm.Cond) (a1 : Addr) (x0 : Int32) (x1 : Int32) (h0 : Heap) (n0 : Nat) (Z0 : n0 ≤ h0.size) (A1 : own_A Z h0 a1 2 (own_v2 x0 x1)) (hz : x0 = (0 : Int32)) :
    MetFree l (⟨"com/example/unfold/unfold/semantics/GateSets", "outsideHide", "([I)[I"⟩ : MethodName) (head1 (Jvm.Cond.code (⟨"com/example/unfold/unfold/semantics/GateSets", "outsideHide", "([I)[I"⟩ : MethodName) prog_142_method_4_code 4 (some (.array .int)) :: ws) ({ frames := 0, cells := 1, slots := 1, locals := 0 } : Room)) (fun a U => a = #[(.ref a1)] ∧ Z.Warmed39 U.vm ∧ U.heap = h0) (fun _ _ _ _ _ => True) (fun _ U o U' => ∃ v L, o = .returned v ∧ own_Q_oh2z Z a1 x0 x1 h0 n0 v U'.heap L ∧ FrameEnd U o U' L ({ frames := 0, cells := 1, slots := 1, locals := 0 } : Room).cells ({ frames := 0, cells := 1, slots := 1, locals := 0 } : Room).slots) := by
  refine MetFree.of_bodySF (plainFor_of_name own_pn0) hisR ?_
  intro p e s m args below meth c s₁ Bd hml0 hP hK
  obtain ⟨rfl, hZ, hh⟩ := hP
  have hx := Bd.exec
  have hby := Bd.bytes
  have hml : c.maxLocals = 4 := hml0
  have hown : s.vm.findClass "com/example/unfold/unfold/semantics/GateSets" = some m.cls := findClass_of_methodNamed Bd.named
  have hnm := (name_of_methodNamed Bd.named Bd.method).1
  have X0 : Stand p l e ({ frames := 0, cells := 1, slots := 1, locals := 0 } : Room) s m #[(.ref a1)] below meth c s₁ [] 0 0 := Stand.of_body Bd
  have e0 : s₁.heap = h0 := by rw [← hh, Bd.state]; rfl
  have N0 := Fr.nil n0
  have K0 : Keep h0 h0 [] := Keep.refl _ _
  have pre0 : ∀ t, Steps p.tables e below (s₁.setTop (mkF m 0 #[.val (.ref a1), .unset, .unset, .unset] [])) t → Steps p.tables e below (s₁.setTop (entryFrame m #[(.ref a1)] 4)) t := fun t k => castTop (own_ef_oh2z m a1) k
  obtain ⟨cl1, Ar1, S1, -⟩ := id A1
  obtain ⟨cl2, Ar2, S2, H2⟩ := id A1
  have hin2 : ¬ ((0 : Int32) < 0 ∨ cl2.slots.size ≤ ((0 : Int32)).toNatClampNeg) := own_inb S2 (by decide) (by decide)
  have hat2 : cl2.slots[((0 : Int32)).toNatClampNeg]? = some (.int x0) := H2 _ (by decide)
  obtain ⟨cl3, Ar3, S3, -⟩ := id A1
  obtain ⟨T4, h4, k4, X4, e4, E4, A4, I4, st4⟩ := newPE X0 hx hZ (hw _ (List.mem_of_getElem? (i := 2) rfl)) e0 (g := (mkF m 21 #[.val (.ref a1), .val (.int (1 : Int32)), .unset, .unset] [(.int (1 : Int32))])) rfl (hb hby own_d_prog_142_method_4_21) rfl (by decide) (cap := 1) (by decide) (by decide) (by decide) (by decide) (ad := "[I") rfl
  obtain ⟨b4, g4⟩ : ∃ z, z = h0.size := ⟨_, rfl⟩
  rw [← g4] at A4 I4 st4
  have sz_b4 : h0.size ≤ b4 := Nat.le_trans K0.1 (Nat.le_of_eq g4.symm)
  have gn_b4 : n0 ≤ b4 := Nat.le_trans Z0 sz_b4
  have ne_a1_b4 : a1 ≠ b4 := Nat.ne_of_lt (Nat.lt_of_lt_of_le A1.lt (Nat.le_of_eq g4.symm))
  have f5 := A1.ext E4
  have k6 := K0.ext E4
  have f7 : own_A Z h4 b4 1 (own_v1 (0 : Int32)) := (own_A.new A4 rfl).congr (fun j hj => by rcases j with _ | j <;> first | rfl | (simp [own_upd]; done) | omega)
  obtain ⟨cl8, Ar8, S8, -⟩ := id f7
  obtain ⟨cl9, Ar9, S9, H9⟩ := id f5
  have hin9 : ¬ ((1 : Int32) < 0 ∨ cl9.slots.size ≤ ((1 : Int32)).toNatClampNeg) := own_inb S9 (by decide) (by decide)
  have hat9 : cl9.slots[((1 : Int32)).toNatClampNeg]? = some (.int x1) := H9 _ (by decide)
  obtain ⟨cl10, Ar10, S10, H10⟩ := id f7
  have hin10 : ¬ ((0 : Int32) < 0 ∨ cl10.slots.size ≤ ((0 : Int32)).toNatClampNeg) := own_inb S10 (by decide) (by decide)
  obtain ⟨T11, h11, X11, e11, W11, st11⟩ := stI X4 hx hZ e4 Ar10 (j := (0 : Int32)) hin10 (g := (mkF m 41 #[.val (.ref a1), .val (.int (1 : Int32)), .val (.ref b4), .val (.int (0 : Int32))] [(.int (x1 - (1 : Int32))), (.int (0 : Int32)), (.ref b4)])) rfl rfl (hb hby own_d_prog_142_method_4_41)
  have f12 := f5.other W11 ne_a1_b4
  have f13 := I4.wr W11
  have k15 := k6.wr W11 (Or.inr sz_b4)
  have nf16 := Fr.snoc X11 N0 gn_b4
  have f17 := f7.set W11
  have f18 : own_A Z h11 b4 1 (own_v1 (x1 - (1 : Int32))) := f17.congr (fun j hj => by rcases j with _ | j <;> first | rfl | (simp [own_upd]; done) | omega)
  obtain ⟨cl19, Ar19, S19, -⟩ := id f18
  obtain ⟨cl20, Ar20, S20, -⟩ := id f18
  have pre21 : ∀ t, Steps p.tables e below (T11.setTop (mkF m 60 #[.val (.ref a1), .val (.int (1 : Int32)), .val (.ref b4), .val (.int (1 : Int32))] [(.ref b4)])) t → Steps p.tables e below (s₁.setTop (entryFrame m #[(.ref a1)] 4)) t := by
    intro t kt
    refine pre0 t ?_
    show Steps p.tables e below (s₁.setTop (mkF m 0 #[.val (.ref a1), .unset, .unset, .unset] [])) _
    refine XS.aloadN X0.here hx rfl (hb hby own_d_prog_142_method_4_0) rfl rfl ?_
    show Steps p.tables e below (s₁.setTop (mkF m 1 #[.val (.ref a1), .unset, .unset, .unset] [(.ref a1)])) _
    refine X0.arraylength hx (by rw [e0]; exact Ar1.1) (State.isArrayOf_alike hZ.alike Ar1.2.1) (g := (mkF m 1 #[.val (.ref a1), .unset, .unset, .unset] [(.ref a1)])) rfl rfl (hb hby own_d_prog_142_method_4_1) _ ?_
    rw [own_len (z := (2 : Int32)) S1 rfl]
    show Steps p.tables e below (s₁.setTop (mkF m 2 #[.val (.ref a1), .unset, .unset, .unset] [(.int (2 : Int32))])) _
    refine XS.ifNo X0.here hx rfl (hb hby own_d_prog_142_method_4_2) rfl ((if0 _ _).trans (tlt (by decide : (0 : Int32) < (2 : Int32))).2.2.2) ?_
    show Steps p.tables e below (s₁.setTop (mkF m 5 #[.val (.ref a1), .unset, .unset, .unset] [])) _
    refine XS.aloadN X0.here hx rfl (hb hby own_d_prog_142_method_4_5) rfl rfl ?_
    show Steps p.tables e below (s₁.setTop (mkF m 6 #[.val (.ref a1), .unset, .unset, .unset] [(.ref a1)])) _
    refine XS.iconst X0.here hx rfl (hb hby own_d_prog_142_method_4_6) ?_
    show Steps p.tables e below (s₁.setTop (mkF m 7 #[.val (.ref a1), .unset, .unset, .unset] [(.int (0 : Int32)), (.ref a1)])) _
    refine X0.iaload hx (j := (0 : Int32)) (v := (.int x0)) (by rw [e0]; exact Ar2.1) (State.isArrayOf_alike hZ.alike Ar2.2.1) Ar2.2.2 hin2 hat2 (g := (mkF m 7 #[.val (.ref a1), .unset, .unset, .unset] [(.int (0 : Int32)), (.ref a1)])) rfl rfl (hb hby own_d_prog_142_method_4_7) _ ?_
    show Steps p.tables e below (s₁.setTop (mkF m 8 #[.val (.ref a1), .unset, .unset, .unset] [(.int x0)])) _
    refine XS.ifNo X0.here hx rfl (hb hby own_d_prog_142_method_4_8) rfl ((if0 _ _).trans (teq hz).2) ?_
    show Steps p.tables e below (s₁.setTop (mkF m 11 #[.val (.ref a1), .unset, .unset, .unset] [])) _
    refine XS.iconst X0.here hx rfl (hb hby own_d_prog_142_method_4_11) ?_
    show Steps p.tables e below (s₁.setTop (mkF m 12 #[.val (.ref a1), .unset, .unset, .unset] [(.int (1 : Int32))])) _
    refine XS.goto X0.here hx rfl (pc0 := 12) (pc' := 16) rfl (hb hby own_d_prog_142_method_4_12) (by decide) (by decide) ?_
    show Steps p.tables e below (s₁.setTop (mkF m 16 #[.val (.ref a1), .unset, .unset, .unset] [(.int (1 : Int32))])) _
    refine XS.istoreN X0.here hx rfl (hb hby own_d_prog_142_method_4_16) rfl (l' := #[.val (.ref a1), .val (.int (1 : Int32)), .unset, .unset]) rfl ?_
    show Steps p.tables e below (s₁.setTop (mkF m 17 #[.val (.ref a1), .val (.int (1 : Int32)), .unset, .unset] [])) _
    refine XS.aloadN X0.here hx rfl (hb hby own_d_prog_142_method_4_17) rfl rfl ?_
    show Steps p.tables e below (s₁.setTop (mkF m 18 #[.val (.ref a1), .val (.int (1 : Int32)), .unset, .unset] [(.ref a1)])) _
    refine X0.arraylength hx (by rw [e0]; exact Ar3.1) (State.isArrayOf_alike hZ.alike Ar3.2.1) (g := (mkF m 18 #[.val (.ref a1), .val (.int (1 : Int32)), .unset, .unset] [(.ref a1)])) rfl rfl (hb hby own_d_prog_142_method_4_18) _ ?_
    rw [own_len (z := (2 : Int32)) S3 rfl]
    show Steps p.tables e below (s₁.setTop (mkF m 19 #[.val (.ref a1), .val (.int (1 : Int32)), .unset, .unset] [(.int (2 : Int32))])) _
    refine XS.iloadN X0.here hx rfl (hb hby own_d_prog_142_method_4_19) rfl ?_
    show Steps p.tables e below (s₁.setTop (mkF m 20 #[.val (.ref a1), .val (.int (1 : Int32)), .unset, .unset] [(.int (1 : Int32)), (.int (2 : Int32))])) _
    refine XS.isub X0.here hx rfl (hb hby own_d_prog_142_method_4_20) rfl ?_
    show Steps p.tables e below (s₁.setTop (mkF m 21 #[.val (.ref a1), .val (.int (1 : Int32)), .unset, .unset] [(.int (1 : Int32))])) _
    refine st4 _ ?_
    show Steps p.tables e below (T4.setTop (mkF m 23 #[.val (.ref a1), .val (.int (1 : Int32)), .unset, .unset] [(.ref b4)])) _
    refine XS.astoreN X4.here hx rfl (hb hby own_d_prog_142_method_4_23) rfl rfl (l' := #[.val (.ref a1), .val (.int (1 : Int32)), .val (.ref b4), .unset]) rfl ?_
    show Steps p.tables e below (T4.setTop (mkF m 24 #[.val (.ref a1), .val (.int (1 : Int32)), .val (.ref b4), .unset] [])) _
    refine XS.iconst X4.here hx rfl (hb hby own_d_prog_142_method_4_24) ?_
    show Steps p.tables e below (T4.setTop (mkF m 25 #[.val (.ref a1), .val (.int (1 : Int32)), .val (.ref b4), .unset] [(.int (0 : Int32))])) _
    refine XS.istoreN X4.here hx rfl (hb hby own_d_prog_142_method_4_25) rfl (l' := #[.val (.ref a1), .val (.int (1 : Int32)), .val (.ref b4), .val (.int (0 : Int32))]) rfl ?_
    show Steps p.tables e below (T4.setTop (mkF m 26 #[.val (.ref a1), .val (.int (1 : Int32)), .val (.ref b4), .val (.int (0 : Int32))] [])) _
    refine XS.iloadN X4.here hx rfl (hb hby own_d_prog_142_method_4_26) rfl ?_
    show Steps p.tables e below (T4.setTop (mkF m 27 #[.val (.ref a1), .val (.int (1 : Int32)), .val (.ref b4), .val (.int (0 : Int32))] [(.int (0 : Int32))])) _
    refine XS.aloadN X4.here hx rfl (hb hby own_d_prog_142_method_4_27) rfl rfl ?_
    show Steps p.tables e below (T4.setTop (mkF m 28 #[.val (.ref a1), .val (.int (1 : Int32)), .val (.ref b4), .val (.int (0 : Int32))] [(.ref b4), (.int (0 : Int32))])) _
    refine X4.arraylength hx (by rw [e4]; exact Ar8.1) (State.isArrayOf_alike hZ.alike Ar8.2.1) (g := (mkF m 28 #[.val (.ref a1), .val (.int (1 : Int32)), .val (.ref b4), .val (.int (0 : Int32))] [(.ref b4), (.int (0 : Int32))])) rfl rfl (hb hby own_d_prog_142_method_4_28) _ ?_
    rw [own_len (z := (1 : Int32)) S8 rfl]
    show Steps p.tables e below (T4.setTop (mkF m 29 #[.val (.ref a1), .val (.int (1 : Int32)), .val (.ref b4), .val (.int (0 : Int32))] [(.int (1 : Int32)), (.int (0 : Int32))])) _
    refine XS.icmpNo X4.here hx rfl (hb hby own_d_prog_142_method_4_29) rfl (tlt (by decide : (0 : Int32) < (1 : Int32))).2.1 ?_
    show Steps p.tables e below (T4.setTop (mkF m 32 #[.val (.ref a1), .val (.int (1 : Int32)), .val (.ref b4), .val (.int (0 : Int32))] [])) _
    refine XS.aloadN X4.here hx rfl (hb hby own_d_prog_142_method_4_32) rfl rfl ?_
    show Steps p.tables e below (T4.setTop (mkF m 33 #[.val (.ref a1), .val (.int (1 : Int32)), .val (.ref b4), .val (.int (0 : Int32))] [(.ref b4)])) _
    refine XS.iloadN X4.here hx rfl (hb hby own_d_prog_142_method_4_33) rfl ?_
    show Steps p.tables e below (T4.setTop (mkF m 34 #[.val (.ref a1), .val (.int (1 : Int32)), .val (.ref b4), .val (.int (0 : Int32))] [(.int (0 : Int32)), (.ref b4)])) _
    refine XS.aloadN X4.here hx rfl (hb hby own_d_prog_142_method_4_34) rfl rfl ?_
    show Steps p.tables e below (T4.setTop (mkF m 35 #[.val (.ref a1), .val (.int (1 : Int32)), .val (.ref b4), .val (.int (0 : Int32))] [(.ref a1), (.int (0 : Int32)), (.ref b4)])) _
    refine XS.iloadN X4.here hx rfl (hb hby own_d_prog_142_method_4_35) rfl ?_
    show Steps p.tables e below (T4.setTop (mkF m 36 #[.val (.ref a1), .val (.int (1 : Int32)), .val (.ref b4), .val (.int (0 : Int32))] [(.int (1 : Int32)), (.ref a1), (.int (0 : Int32)), (.ref b4)])) _
    refine XS.iloadN X4.here hx rfl (hb hby own_d_prog_142_method_4_36) rfl ?_
    show Steps p.tables e below (T4.setTop (mkF m 37 #[.val (.ref a1), .val (.int (1 : Int32)), .val (.ref b4), .val (.int (0 : Int32))] [(.int (0 : Int32)), (.int (1 : Int32)), (.ref a1), (.int (0 : Int32)), (.ref b4)])) _
    refine XS.iadd X4.here hx rfl (hb hby own_d_prog_142_method_4_37) rfl ?_
    show Steps p.tables e below (T4.setTop (mkF m 38 #[.val (.ref a1), .val (.int (1 : Int32)), .val (.ref b4), .val (.int (0 : Int32))] [(.int (1 : Int32)), (.ref a1), (.int (0 : Int32)), (.ref b4)])) _
    refine X4.iaload hx (j := (1 : Int32)) (v := (.int x1)) (by rw [e4]; exact Ar9.1) (State.isArrayOf_alike hZ.alike Ar9.2.1) Ar9.2.2 hin9 hat9 (g := (mkF m 38 #[.val (.ref a1), .val (.int (1 : Int32)), .val (.ref b4), .val (.int (0 : Int32))] [(.int (1 : Int32)), (.ref a1), (.int (0 : Int32)), (.ref b4)])) rfl rfl (hb hby own_d_prog_142_method_4_38) _ ?_
    show Steps p.tables e below (T4.setTop (mkF m 39 #[.val (.ref a1), .val (.int (1 : Int32)), .val (.ref b4), .val (.int (0 : Int32))] [(.int x1), (.int (0 : Int32)), (.ref b4)])) _
    refine XS.iconst X4.here hx rfl (hb hby own_d_prog_142_method_4_39) ?_
    show Steps p.tables e below (T4.setTop (mkF m 40 #[.val (.ref a1), .val (.int (1 : Int32)), .val (.ref b4), .val (.int (0 : Int32))] [(.int (1 : Int32)), (.int x1), (.int (0 : Int32)), (.ref b4)])) _
    refine XS.isub X4.here hx rfl (hb hby own_d_prog_142_method_4_40) rfl ?_
    show Steps p.tables e below (T4.setTop (mkF m 41 #[.val (.ref a1), .val (.int (1 : Int32)), .val (.ref b4), .val (.int (0 : Int32))] [(.int (x1 - (1 : Int32))), (.int (0 : Int32)), (.ref b4)])) _
    refine st11 _ ?_
    show Steps p.tables e below (T11.setTop (mkF m 42 #[.val (.ref a1), .val (.int (1 : Int32)), .val (.ref b4), .val (.int (0 : Int32))] [])) _
    refine XS.iinc X11.here hx rfl (hb hby own_d_prog_142_method_4_42) rfl (l' := #[.val (.ref a1), .val (.int (1 : Int32)), .val (.ref b4), .val (.int (1 : Int32))]) rfl ?_
    show Steps p.tables e below (T11.setTop (mkF m 45 #[.val (.ref a1), .val (.int (1 : Int32)), .val (.ref b4), .val (.int (1 : Int32))] [])) _
    refine XS.goto X11.here hx rfl (pc0 := 45) (pc' := 26) rfl (hb hby own_d_prog_142_method_4_45) (by decide) (by decide) ?_
    show Steps p.tables e below (T11.setTop (mkF m 26 #[.val (.ref a1), .val (.int (1 : Int32)), .val (.ref b4), .val (.int (1 : Int32))] [])) _
    refine XS.iloadN X11.here hx rfl (hb hby own_d_prog_142_method_4_26) rfl ?_
    show Steps p.tables e below (T11.setTop (mkF m 27 #[.val (.ref a1), .val (.int (1 : Int32)), .val (.ref b4), .val (.int (1 : Int32))] [(.int (1 : Int32))])) _
    refine XS.aloadN X11.here hx rfl (hb hby own_d_prog_142_method_4_27) rfl rfl ?_
    show Steps p.tables e below (T11.setTop (mkF m 28 #[.val (.ref a1), .val (.int (1 : Int32)), .val (.ref b4), .val (.int (1 : Int32))] [(.ref b4), (.int (1 : Int32))])) _
    refine X11.arraylength hx (by rw [e11]; exact Ar19.1) (State.isArrayOf_alike hZ.alike Ar19.2.1) (g := (mkF m 28 #[.val (.ref a1), .val (.int (1 : Int32)), .val (.ref b4), .val (.int (1 : Int32))] [(.ref b4), (.int (1 : Int32))])) rfl rfl (hb hby own_d_prog_142_method_4_28) _ ?_
    rw [own_len (z := (1 : Int32)) S19 rfl]
    show Steps p.tables e below (T11.setTop (mkF m 29 #[.val (.ref a1), .val (.int (1 : Int32)), .val (.ref b4), .val (.int (1 : Int32))] [(.int (1 : Int32)), (.int (1 : Int32))])) _
    refine XS.icmpYes X11.here hx rfl (pc0 := 29) (pc' := 48) rfl (hb hby own_d_prog_142_method_4_29) rfl (flt (by decide : ¬ ((1 : Int32) < (1 : Int32)))).2.1 (by decide) (by decide) ?_
    show Steps p.tables e below (T11.setTop (mkF m 48 #[.val (.ref a1), .val (.int (1 : Int32)), .val (.ref b4), .val (.int (1 : Int32))] [])) _
    refine XS.aloadN X11.here hx rfl (hb hby own_d_prog_142_method_4_48) rfl rfl ?_
    show Steps p.tables e below (T11.setTop (mkF m 49 #[.val (.ref a1), .val (.int (1 : Int32)), .val (.ref b4), .val (.int (1 : Int32))] [(.ref b4)])) _
    refine X11.arraylength hx (by rw [e11]; exact Ar20.1) (State.isArrayOf_alike hZ.alike Ar20.2.1) (g := (mkF m 49 #[.val (.ref a1), .val (.int (1 : Int32)), .val (.ref b4), .val (.int (1 : Int32))] [(.ref b4)])) rfl rfl (hb hby own_d_prog_142_method_4_49) _ ?_
    rw [own_len (z := (1 : Int32)) S20 rfl]
    show Steps p.tables e below (T11.setTop (mkF m 50 #[.val (.ref a1), .val (.int (1 : Int32)), .val (.ref b4), .val (.int (1 : Int32))] [(.int (1 : Int32))])) _
    refine XS.ifYes X11.here hx rfl (pc0 := 50) (pc' := 59) rfl (hb hby own_d_prog_142_method_4_50) rfl ((if0 _ _).trans (feq (by decide : ¬ ((1 : Int32) = (0 : Int32)))).2) (by decide) (by decide) ?_
    show Steps p.tables e below (T11.setTop (mkF m 59 #[.val (.ref a1), .val (.int (1 : Int32)), .val (.ref b4), .val (.int (1 : Int32))] [])) _
    refine XS.aloadN X11.here hx rfl (hb hby own_d_prog_142_method_4_59) rfl rfl ?_
    exact kt
  obtain ⟨fs, hr, hrun, hended, hW, hsame⟩ := X11.leave (v := some (.ref b4)) (fun h => by rw [Bd.returns] at h; cases h)
  refine ⟨_, _, pre21 _ ?_, hrun, hended, _, _, rfl, ?_, ⟨_, rfl⟩, hW, hsame.mono (by decide) (by decide)⟩
  · show Steps p.tables e below (T11.setTop (mkF m 60 #[.val (.ref a1), .val (.int (1 : Int32)), .val (.ref b4), .val (.int (1 : Int32))] [(.ref b4)])) _
    jvm_step X11.here [X11.here.top, hx, (hb hby own_d_prog_142_method_4_60), X11.method', Bd.returns, Value.isRef, FieldType.isReference]
    first | (intro acts; rw [hr _ acts rfl rfl rfl]) | rw [hr _ _ rfl rfl rfl]
    exact Steps.refl _
  · show own_Q_oh2z Z a1 x0 x1 h0 n0 (some (.ref b4)) T11.heap _
    rw [e11]
    exact ⟨_, rfl, nf16, k15, sz_b4, f18⟩
theorem own_ef_oh3n (m : MethodId) (a1 : Addr) : entryFrame m #[(.ref a1)] 4 = mkF m 0 #[.val (.ref a1), .unset, .unset, .unset] [] := by first | (simp [entryFrame, mkF, argsToLocals, Value.category]; done) | rfl
def own_Q_oh3n (Z : State) (a1 : Addr) (x0 : Int32) (x1 : Int32) (x2 : Int32) (h0 : Heap) (n0 : Nat) (v : Option Value) (h : Heap) (L : List Loc) : Prop := ∃ r : Addr, v = some (.ref r) ∧ Fr n0 L ∧ Keep h0 h [] ∧ h0.size ≤ r ∧ own_A Z h r 3 (own_v3 (x0 - (1 : Int32)) (x1 - (1 : Int32)) (x2 - (1 : Int32)))
set_option maxRecDepth 65536 in
set_option maxHeartbeats 40000000 in
theorem own_rm_oh3n (l : Launch) (Z : State) (a0 : Array Value) (hw : ∀ d ∈ tables_1, d.before a0 Z = true) (ws : List Jvm.Cond) (a1 : Addr) (x0 : Int32) (x1 : Int32) (x2 : Int32) (h0 : Heap) (n0 : Nat) (Z0 : n0 ≤ h0.size) (A1 : own_A Z h0 a1 3 (own_v3 x0 x1 x2)) (hz : ¬ x0 = (0 : Int32)) :
    MetFree l (⟨"com/example/unfold/unfold/semantics/GateSets", "outsideHide", "([I)[I"⟩ : MethodName) (head1 (Jvm.Cond.code (⟨"com/example/unfold/unfold/semantics/GateSets", "outsideHide", "([I)[I"⟩ : MethodName) prog_142_method_4_code 4 (some (.array .int)) :: ws) ({ frames := 0, cells := 1, slots := 3, locals := 0 } : Room)) (fun a U => a = #[(.ref a1)] ∧ Z.Warmed39 U.vm ∧ U.heap = h0) (fun _ _ _ _ _ => True) (fun _ U o U' => ∃ v L, o = .returned v ∧ own_Q_oh3n Z a1 x0 x1 x2 h0 n0 v U'.heap L ∧ FrameEnd U o U' L ({ frames := 0, cells := 1, slots := 3, locals := 0 } : Room).cells ({ frames := 0, cells := 1, slots := 3, locals := 0 } : Room).slots) := by
  refine MetFree.of_bodySF (plainFor_of_name own_pn0) hisR ?_
  intro p e s m args below meth c s₁ Bd hml0 hP hK
  obtain ⟨rfl, hZ, hh⟩ := hP
  have hx := Bd.exec
  have hby := Bd.bytes
  have hml : c.maxLocals = 4 := hml0
  have hown : s.vm.findClass "com/example/unfold/unfold/semantics/GateSets" = some m.cls := findClass_of_methodNamed Bd.named
  have hnm := (name_of_methodNamed Bd.named Bd.method).1
  have X0 : Stand p l e ({ frames := 0, cells := 1, slots := 3, locals := 0 } : Room) s m #[(.ref a1)] below meth c s₁ [] 0 0 := Stand.of_body Bd
  have e0 : s₁.heap = h0 := by rw [← hh, Bd.state]; rfl
  have N0 := Fr.nil n0
  have K0 : Keep h0 h0 [] := Keep.refl _ _
  have pre0 : ∀ t, Steps p.tables e below (s₁.setTop (mkF m 0 #[.val (.ref a1), .unset, .unset, .unset] [])) t → Steps p.tables e below (s₁.setTop (entryFrame m #[(.ref a1)] 4)) t := fun t k => castTop (own_ef_oh3n m a1) k
  obtain ⟨cl1, Ar1, S1, -⟩ := id A1
  obtain ⟨cl2, Ar2, S2, H2⟩ := id A1
  have hin2 : ¬ ((0 : Int32) < 0 ∨ cl2.slots.size ≤ ((0 : Int32)).toNatClampNeg) := own_inb S2 (by decide) (by decide)
  have hat2 : cl2.slots[((0 : Int32)).toNatClampNeg]? = some (.int x0) := H2 _ (by decide)
  obtain ⟨cl3, Ar3, S3, -⟩ := id A1
  obtain ⟨T4, h4, k4, X4, e4, E4, A4, I4, st4⟩ := newPE X0 hx hZ (hw _ (List.mem_of_getElem? (i := 2) rfl)) e0 (g := (mkF m 21 #[.val (.ref a1), .val (.int (0 : Int32)), .unset, .unset] [(.int (3 : Int32))])) rfl (hb hby own_d_prog_142_method_4_21) rfl (by decide) (cap := 3) (by decide) (by decide) (by decide) (by decide) (ad := "[I") rfl
  obtain ⟨b4, g4⟩ : ∃ z, z = h0.size := ⟨_, rfl⟩
  rw [← g4] at A4 I4 st4
  have sz_b4 : h0.size ≤ b4 := Nat.le_trans K0.1 (Nat.le_of_eq g4.symm)
  have gn_b4 : n0 ≤ b4 := Nat.le_trans Z0 sz_b4
  have ne_a1_b4 : a1 ≠ b4 := Nat.ne_of_lt (Nat.lt_of_lt_of_le A1.lt (Nat.le_of_eq g4.symm))
  have f5 := A1.ext E4
  have k6 := K0.ext E4
  have f7 : own_A Z h4 b4 3 (own_v3 (0 : Int32) (0 : Int32) (0 : Int32)) := (own_A.new A4 rfl).congr (fun j hj => by rcases j with _ | _ | _ | j <;> first | rfl | (simp [own_upd]; done) | omega)
  obtain ⟨cl8, Ar8, S8, -⟩ := id f7
  obtain ⟨cl9, Ar9, S9, H9⟩ := id f5
  have hin9 : ¬ ((0 : Int32) < 0 ∨ cl9.slots.size ≤ ((0 : Int32)).toNatClampNeg) := own_inb S9 (by decide) (by decide)
  have hat9 : cl9.slots[((0 : Int32)).toNatClampNeg]? = some (.int x0) := H9 _ (by decide)
  obtain ⟨cl10, Ar10, S10, H10⟩ := id f7
  have hin10 : ¬ ((0 : Int32) < 0 ∨ cl10.slots.size ≤ ((0 : Int32)).toNatClampNeg) := own_inb S10 (by decide) (by decide)
  obtain ⟨T11, h11, X11, e11, W11, st11⟩ := stI X4 hx hZ e4 Ar10 (j := (0 : Int32)) hin10 (g := (mkF m 41 #[.val (.ref a1), .val (.int (0 : Int32)), .val (.ref b4), .val (.int (0 : Int32))] [(.int (x0 - (1 : Int32))), (.int (0 : Int32)), (.ref b4)])) rfl rfl (hb hby own_d_prog_142_method_4_41)
  have f12 := f5.other W11 ne_a1_b4
  have f13 := I4.wr W11
  have k15 := k6.wr W11 (Or.inr sz_b4)
  have nf16 := Fr.snoc X11 N0 gn_b4
  have f17 := f7.set W11
  have f18 : own_A Z h11 b4 3 (own_v3 (x0 - (1 : Int32)) (0 : Int32) (0 : Int32)) := f17.congr (fun j hj => by rcases j with _ | _ | _ | j <;> first | rfl | (simp [own_upd]; done) | omega)
  obtain ⟨cl19, Ar19, S19, -⟩ := id f18
  obtain ⟨cl20, Ar20, S20, H20⟩ := id f12
  have hin20 : ¬ ((1 : Int32) < 0 ∨ cl20.slots.size ≤ ((1 : Int32)).toNatClampNeg) := own_inb S20 (by decide) (by decide)
  have hat20 : cl20.slots[((1 : Int32)).toNatClampNeg]? = some (.int x1) := H20 _ (by decide)
  obtain ⟨cl21, Ar21, S21, H21⟩ := id f18
  have hin21 : ¬ ((1 : Int32) < 0 ∨ cl21.slots.size ≤ ((1 : Int32)).toNatClampNeg) := own_inb S21 (by decide) (by decide)
  obtain ⟨T22, h22, X22, e22, W22, st22⟩ := stI X11 hx hZ e11 Ar21 (j := (1 : Int32)) hin21 (g := (mkF m 41 #[.val (.ref a1), .val (.int (0 : Int32)), .val (.ref b4), .val (.int (1 : Int32))] [(.int (x1 - (1 : Int32))), (.int (1 : Int32)), (.ref b4)])) rfl rfl (hb hby own_d_prog_142_method_4_41)
  have f23 := f12.other W22 ne_a1_b4
  have f24 := f13.wr W22
  have k26 := k15.wr W22 (Or.inr sz_b4)
  have nf27 := Fr.snoc X22 nf16 gn_b4
  have f28 := f18.set W22
  have f29 : own_A Z h22 b4 3 (own_v3 (x0 - (1 : Int32)) (x1 - (1 : Int32)) (0 : Int32)) := f28.congr (fun j hj => by rcases j with _ | _ | _ | j <;> first | rfl | (simp [own_upd]; done) | omega)
  obtain ⟨cl30, Ar30, S30, -⟩ := id f29
  obtain ⟨cl31, Ar31, S31, H31⟩ := id f23
  have hin31 : ¬ ((2 : Int32) < 0 ∨ cl31.slots.size ≤ ((2 : Int32)).toNatClampNeg) := own_inb S31 (by decide) (by decide)
  have hat31 : cl31.slots[((2 : Int32)).toNatClampNeg]? = some (.int x2) := H31 _ (by decide)
  obtain ⟨cl32, Ar32, S32, H32⟩ := id f29
  have hin32 : ¬ ((2 : Int32) < 0 ∨ cl32.slots.size ≤ ((2 : Int32)).toNatClampNeg) := own_inb S32 (by decide) (by decide)
  obtain ⟨T33, h33, X33, e33, W33, st33⟩ := stI X22 hx hZ e22 Ar32 (j := (2 : Int32)) hin32 (g := (mkF m 41 #[.val (.ref a1), .val (.int (0 : Int32)), .val (.ref b4), .val (.int (2 : Int32))] [(.int (x2 - (1 : Int32))), (.int (2 : Int32)), (.ref b4)])) rfl rfl (hb hby own_d_prog_142_method_4_41)
  have f34 := f23.other W33 ne_a1_b4
  have f35 := f24.wr W33
  have k37 := k26.wr W33 (Or.inr sz_b4)
  have nf38 := Fr.snoc X33 nf27 gn_b4
  have f39 := f29.set W33
  have f40 : own_A Z h33 b4 3 (own_v3 (x0 - (1 : Int32)) (x1 - (1 : Int32)) (x2 - (1 : Int32))) := f39.congr (fun j hj => by rcases j with _ | _ | _ | j <;> first | rfl | (simp [own_upd]; done) | omega)
  obtain ⟨cl41, Ar41, S41, -⟩ := id f40
  obtain ⟨cl42, Ar42, S42, -⟩ := id f40
  have pre43 : ∀ t, Steps p.tables e below (T33.setTop (mkF m 60 #[.val (.ref a1), .val (.int (0 : Int32)), .val (.ref b4), .val (.int (3 : Int32))] [(.ref b4)])) t → Steps p.tables e below (s₁.setTop (entryFrame m #[(.ref a1)] 4)) t := by
    intro t kt
    refine pre0 t ?_
    show Steps p.tables e below (s₁.setTop (mkF m 0 #[.val (.ref a1), .unset, .unset, .unset] [])) _
    refine XS.aloadN X0.here hx rfl (hb hby own_d_prog_142_method_4_0) rfl rfl ?_
    show Steps p.tables e below (s₁.setTop (mkF m 1 #[.val (.ref a1), .unset, .unset, .unset] [(.ref a1)])) _
    refine X0.arraylength hx (by rw [e0]; exact Ar1.1) (State.isArrayOf_alike hZ.alike Ar1.2.1) (g := (mkF m 1 #[.val (.ref a1), .unset, .unset, .unset] [(.ref a1)])) rfl rfl (hb hby own_d_prog_142_method_4_1) _ ?_
    rw [own_len (z := (3 : Int32)) S1 rfl]
    show Steps p.tables e below (s₁.setTop (mkF m 2 #[.val (.ref a1), .unset, .unset, .unset] [(.int (3 : Int32))])) _
    refine XS.ifNo X0.here hx rfl (hb hby own_d_prog_142_method_4_2) rfl ((if0 _ _).trans (tlt (by decide : (0 : Int32) < (3 : Int32))).2.2.2) ?_
    show Steps p.tables e below (s₁.setTop (mkF m 5 #[.val (.ref a1), .unset, .unset, .unset] [])) _
    refine XS.aloadN X0.here hx rfl (hb hby own_d_prog_142_method_4_5) rfl rfl ?_
    show Steps p.tables e below (s₁.setTop (mkF m 6 #[.val (.ref a1), .unset, .unset, .unset] [(.ref a1)])) _
    refine XS.iconst X0.here hx rfl (hb hby own_d_prog_142_method_4_6) ?_
    show Steps p.tables e below (s₁.setTop (mkF m 7 #[.val (.ref a1), .unset, .unset, .unset] [(.int (0 : Int32)), (.ref a1)])) _
    refine X0.iaload hx (j := (0 : Int32)) (v := (.int x0)) (by rw [e0]; exact Ar2.1) (State.isArrayOf_alike hZ.alike Ar2.2.1) Ar2.2.2 hin2 hat2 (g := (mkF m 7 #[.val (.ref a1), .unset, .unset, .unset] [(.int (0 : Int32)), (.ref a1)])) rfl rfl (hb hby own_d_prog_142_method_4_7) _ ?_
    show Steps p.tables e below (s₁.setTop (mkF m 8 #[.val (.ref a1), .unset, .unset, .unset] [(.int x0)])) _
    refine XS.ifYes X0.here hx rfl (pc0 := 8) (pc' := 15) rfl (hb hby own_d_prog_142_method_4_8) rfl ((if0 _ _).trans (feq hz).2) (by decide) (by decide) ?_
    show Steps p.tables e below (s₁.setTop (mkF m 15 #[.val (.ref a1), .unset, .unset, .unset] [])) _
    refine XS.iconst X0.here hx rfl (hb hby own_d_prog_142_method_4_15) ?_
    show Steps p.tables e below (s₁.setTop (mkF m 16 #[.val (.ref a1), .unset, .unset, .unset] [(.int (0 : Int32))])) _
    refine XS.istoreN X0.here hx rfl (hb hby own_d_prog_142_method_4_16) rfl (l' := #[.val (.ref a1), .val (.int (0 : Int32)), .unset, .unset]) rfl ?_
    show Steps p.tables e below (s₁.setTop (mkF m 17 #[.val (.ref a1), .val (.int (0 : Int32)), .unset, .unset] [])) _
    refine XS.aloadN X0.here hx rfl (hb hby own_d_prog_142_method_4_17) rfl rfl ?_
    show Steps p.tables e below (s₁.setTop (mkF m 18 #[.val (.ref a1), .val (.int (0 : Int32)), .unset, .unset] [(.ref a1)])) _
    refine X0.arraylength hx (by rw [e0]; exact Ar3.1) (State.isArrayOf_alike hZ.alike Ar3.2.1) (g := (mkF m 18 #[.val (.ref a1), .val (.int (0 : Int32)), .unset, .unset] [(.ref a1)])) rfl rfl (hb hby own_d_prog_142_method_4_18) _ ?_
    rw [own_len (z := (3 : Int32)) S3 rfl]
    show Steps p.tables e below (s₁.setTop (mkF m 19 #[.val (.ref a1), .val (.int (0 : Int32)), .unset, .unset] [(.int (3 : Int32))])) _
    refine XS.iloadN X0.here hx rfl (hb hby own_d_prog_142_method_4_19) rfl ?_
    show Steps p.tables e below (s₁.setTop (mkF m 20 #[.val (.ref a1), .val (.int (0 : Int32)), .unset, .unset] [(.int (0 : Int32)), (.int (3 : Int32))])) _
    refine XS.isub X0.here hx rfl (hb hby own_d_prog_142_method_4_20) rfl ?_
    show Steps p.tables e below (s₁.setTop (mkF m 21 #[.val (.ref a1), .val (.int (0 : Int32)), .unset, .unset] [(.int (3 : Int32))])) _
    refine st4 _ ?_
    show Steps p.tables e below (T4.setTop (mkF m 23 #[.val (.ref a1), .val (.int (0 : Int32)), .unset, .unset] [(.ref b4)])) _
    refine XS.astoreN X4.here hx rfl (hb hby own_d_prog_142_method_4_23) rfl rfl (l' := #[.val (.ref a1), .val (.int (0 : Int32)), .val (.ref b4), .unset]) rfl ?_
    show Steps p.tables e below (T4.setTop (mkF m 24 #[.val (.ref a1), .val (.int (0 : Int32)), .val (.ref b4), .unset] [])) _
    refine XS.iconst X4.here hx rfl (hb hby own_d_prog_142_method_4_24) ?_
    show Steps p.tables e below (T4.setTop (mkF m 25 #[.val (.ref a1), .val (.int (0 : Int32)), .val (.ref b4), .unset] [(.int (0 : Int32))])) _
    refine XS.istoreN X4.here hx rfl (hb hby own_d_prog_142_method_4_25) rfl (l' := #[.val (.ref a1), .val (.int (0 : Int32)), .val (.ref b4), .val (.int (0 : Int32))]) rfl ?_
    show Steps p.tables e below (T4.setTop (mkF m 26 #[.val (.ref a1), .val (.int (0 : Int32)), .val (.ref b4), .val (.int (0 : Int32))] [])) _
    refine XS.iloadN X4.here hx rfl (hb hby own_d_prog_142_method_4_26) rfl ?_
    show Steps p.tables e below (T4.setTop (mkF m 27 #[.val (.ref a1), .val (.int (0 : Int32)), .val (.ref b4), .val (.int (0 : Int32))] [(.int (0 : Int32))])) _
    refine XS.aloadN X4.here hx rfl (hb hby own_d_prog_142_method_4_27) rfl rfl ?_
    show Steps p.tables e below (T4.setTop (mkF m 28 #[.val (.ref a1), .val (.int (0 : Int32)), .val (.ref b4), .val (.int (0 : Int32))] [(.ref b4), (.int (0 : Int32))])) _
    refine X4.arraylength hx (by rw [e4]; exact Ar8.1) (State.isArrayOf_alike hZ.alike Ar8.2.1) (g := (mkF m 28 #[.val (.ref a1), .val (.int (0 : Int32)), .val (.ref b4), .val (.int (0 : Int32))] [(.ref b4), (.int (0 : Int32))])) rfl rfl (hb hby own_d_prog_142_method_4_28) _ ?_
    rw [own_len (z := (3 : Int32)) S8 rfl]
    show Steps p.tables e below (T4.setTop (mkF m 29 #[.val (.ref a1), .val (.int (0 : Int32)), .val (.ref b4), .val (.int (0 : Int32))] [(.int (3 : Int32)), (.int (0 : Int32))])) _
    refine XS.icmpNo X4.here hx rfl (hb hby own_d_prog_142_method_4_29) rfl (tlt (by decide : (0 : Int32) < (3 : Int32))).2.1 ?_
    show Steps p.tables e below (T4.setTop (mkF m 32 #[.val (.ref a1), .val (.int (0 : Int32)), .val (.ref b4), .val (.int (0 : Int32))] [])) _
    refine XS.aloadN X4.here hx rfl (hb hby own_d_prog_142_method_4_32) rfl rfl ?_
    show Steps p.tables e below (T4.setTop (mkF m 33 #[.val (.ref a1), .val (.int (0 : Int32)), .val (.ref b4), .val (.int (0 : Int32))] [(.ref b4)])) _
    refine XS.iloadN X4.here hx rfl (hb hby own_d_prog_142_method_4_33) rfl ?_
    show Steps p.tables e below (T4.setTop (mkF m 34 #[.val (.ref a1), .val (.int (0 : Int32)), .val (.ref b4), .val (.int (0 : Int32))] [(.int (0 : Int32)), (.ref b4)])) _
    refine XS.aloadN X4.here hx rfl (hb hby own_d_prog_142_method_4_34) rfl rfl ?_
    show Steps p.tables e below (T4.setTop (mkF m 35 #[.val (.ref a1), .val (.int (0 : Int32)), .val (.ref b4), .val (.int (0 : Int32))] [(.ref a1), (.int (0 : Int32)), (.ref b4)])) _
    refine XS.iloadN X4.here hx rfl (hb hby own_d_prog_142_method_4_35) rfl ?_
    show Steps p.tables e below (T4.setTop (mkF m 36 #[.val (.ref a1), .val (.int (0 : Int32)), .val (.ref b4), .val (.int (0 : Int32))] [(.int (0 : Int32)), (.ref a1), (.int (0 : Int32)), (.ref b4)])) _
    refine XS.iloadN X4.here hx rfl (hb hby own_d_prog_142_method_4_36) rfl ?_
    show Steps p.tables e below (T4.setTop (mkF m 37 #[.val (.ref a1), .val (.int (0 : Int32)), .val (.ref b4), .val (.int (0 : Int32))] [(.int (0 : Int32)), (.int (0 : Int32)), (.ref a1), (.int (0 : Int32)), (.ref b4)])) _
    refine XS.iadd X4.here hx rfl (hb hby own_d_prog_142_method_4_37) rfl ?_
    show Steps p.tables e below (T4.setTop (mkF m 38 #[.val (.ref a1), .val (.int (0 : Int32)), .val (.ref b4), .val (.int (0 : Int32))] [(.int (0 : Int32)), (.ref a1), (.int (0 : Int32)), (.ref b4)])) _
    refine X4.iaload hx (j := (0 : Int32)) (v := (.int x0)) (by rw [e4]; exact Ar9.1) (State.isArrayOf_alike hZ.alike Ar9.2.1) Ar9.2.2 hin9 hat9 (g := (mkF m 38 #[.val (.ref a1), .val (.int (0 : Int32)), .val (.ref b4), .val (.int (0 : Int32))] [(.int (0 : Int32)), (.ref a1), (.int (0 : Int32)), (.ref b4)])) rfl rfl (hb hby own_d_prog_142_method_4_38) _ ?_
    show Steps p.tables e below (T4.setTop (mkF m 39 #[.val (.ref a1), .val (.int (0 : Int32)), .val (.ref b4), .val (.int (0 : Int32))] [(.int x0), (.int (0 : Int32)), (.ref b4)])) _
    refine XS.iconst X4.here hx rfl (hb hby own_d_prog_142_method_4_39) ?_
    show Steps p.tables e below (T4.setTop (mkF m 40 #[.val (.ref a1), .val (.int (0 : Int32)), .val (.ref b4), .val (.int (0 : Int32))] [(.int (1 : Int32)), (.int x0), (.int (0 : Int32)), (.ref b4)])) _
    refine XS.isub X4.here hx rfl (hb hby own_d_prog_142_method_4_40) rfl ?_
    show Steps p.tables e below (T4.setTop (mkF m 41 #[.val (.ref a1), .val (.int (0 : Int32)), .val (.ref b4), .val (.int (0 : Int32))] [(.int (x0 - (1 : Int32))), (.int (0 : Int32)), (.ref b4)])) _
    refine st11 _ ?_
    show Steps p.tables e below (T11.setTop (mkF m 42 #[.val (.ref a1), .val (.int (0 : Int32)), .val (.ref b4), .val (.int (0 : Int32))] [])) _
    refine XS.iinc X11.here hx rfl (hb hby own_d_prog_142_method_4_42) rfl (l' := #[.val (.ref a1), .val (.int (0 : Int32)), .val (.ref b4), .val (.int (1 : Int32))]) rfl ?_
    show Steps p.tables e below (T11.setTop (mkF m 45 #[.val (.ref a1), .val (.int (0 : Int32)), .val (.ref b4), .val (.int (1 : Int32))] [])) _
    refine XS.goto X11.here hx rfl (pc0 := 45) (pc' := 26) rfl (hb hby own_d_prog_142_method_4_45) (by decide) (by decide) ?_
    show Steps p.tables e below (T11.setTop (mkF m 26 #[.val (.ref a1), .val (.int (0 : Int32)), .val (.ref b4), .val (.int (1 : Int32))] [])) _
    refine XS.iloadN X11.here hx rfl (hb hby own_d_prog_142_method_4_26) rfl ?_
    show Steps p.tables e below (T11.setTop (mkF m 27 #[.val (.ref a1), .val (.int (0 : Int32)), .val (.ref b4), .val (.int (1 : Int32))] [(.int (1 : Int32))])) _
    refine XS.aloadN X11.here hx rfl (hb hby own_d_prog_142_method_4_27) rfl rfl ?_
    show Steps p.tables e below (T11.setTop (mkF m 28 #[.val (.ref a1), .val (.int (0 : Int32)), .val (.ref b4), .val (.int (1 : Int32))] [(.ref b4), (.int (1 : Int32))])) _
    refine X11.arraylength hx (by rw [e11]; exact Ar19.1) (State.isArrayOf_alike hZ.alike Ar19.2.1) (g := (mkF m 28 #[.val (.ref a1), .val (.int (0 : Int32)), .val (.ref b4), .val (.int (1 : Int32))] [(.ref b4), (.int (1 : Int32))])) rfl rfl (hb hby own_d_prog_142_method_4_28) _ ?_
    rw [own_len (z := (3 : Int32)) S19 rfl]
    show Steps p.tables e below (T11.setTop (mkF m 29 #[.val (.ref a1), .val (.int (0 : Int32)), .val (.ref b4), .val (.int (1 : Int32))] [(.int (3 : Int32)), (.int (1 : Int32))])) _
    refine XS.icmpNo X11.here hx rfl (hb hby own_d_prog_142_method_4_29) rfl (tlt (by decide : (1 : Int32) < (3 : Int32))).2.1 ?_
    show Steps p.tables e below (T11.setTop (mkF m 32 #[.val (.ref a1), .val (.int (0 : Int32)), .val (.ref b4), .val (.int (1 : Int32))] [])) _
    refine XS.aloadN X11.here hx rfl (hb hby own_d_prog_142_method_4_32) rfl rfl ?_
    show Steps p.tables e below (T11.setTop (mkF m 33 #[.val (.ref a1), .val (.int (0 : Int32)), .val (.ref b4), .val (.int (1 : Int32))] [(.ref b4)])) _
    refine XS.iloadN X11.here hx rfl (hb hby own_d_prog_142_method_4_33) rfl ?_
    show Steps p.tables e below (T11.setTop (mkF m 34 #[.val (.ref a1), .val (.int (0 : Int32)), .val (.ref b4), .val (.int (1 : Int32))] [(.int (1 : Int32)), (.ref b4)])) _
    refine XS.aloadN X11.here hx rfl (hb hby own_d_prog_142_method_4_34) rfl rfl ?_
    show Steps p.tables e below (T11.setTop (mkF m 35 #[.val (.ref a1), .val (.int (0 : Int32)), .val (.ref b4), .val (.int (1 : Int32))] [(.ref a1), (.int (1 : Int32)), (.ref b4)])) _
    refine XS.iloadN X11.here hx rfl (hb hby own_d_prog_142_method_4_35) rfl ?_
    show Steps p.tables e below (T11.setTop (mkF m 36 #[.val (.ref a1), .val (.int (0 : Int32)), .val (.ref b4), .val (.int (1 : Int32))] [(.int (0 : Int32)), (.ref a1), (.int (1 : Int32)), (.ref b4)])) _
    refine XS.iloadN X11.here hx rfl (hb hby own_d_prog_142_method_4_36) rfl ?_
    show Steps p.tables e below (T11.setTop (mkF m 37 #[.val (.ref a1), .val (.int (0 : Int32)), .val (.ref b4), .val (.int (1 : Int32))] [(.int (1 : Int32)), (.int (0 : Int32)), (.ref a1), (.int (1 : Int32)), (.ref b4)])) _
    refine XS.iadd X11.here hx rfl (hb hby own_d_prog_142_method_4_37) rfl ?_
    show Steps p.tables e below (T11.setTop (mkF m 38 #[.val (.ref a1), .val (.int (0 : Int32)), .val (.ref b4), .val (.int (1 : Int32))] [(.int (1 : Int32)), (.ref a1), (.int (1 : Int32)), (.ref b4)])) _
    refine X11.iaload hx (j := (1 : Int32)) (v := (.int x1)) (by rw [e11]; exact Ar20.1) (State.isArrayOf_alike hZ.alike Ar20.2.1) Ar20.2.2 hin20 hat20 (g := (mkF m 38 #[.val (.ref a1), .val (.int (0 : Int32)), .val (.ref b4), .val (.int (1 : Int32))] [(.int (1 : Int32)), (.ref a1), (.int (1 : Int32)), (.ref b4)])) rfl rfl (hb hby own_d_prog_142_method_4_38) _ ?_
    show Steps p.tables e below (T11.setTop (mkF m 39 #[.val (.ref a1), .val (.int (0 : Int32)), .val (.ref b4), .val (.int (1 : Int32))] [(.int x1), (.int (1 : Int32)), (.ref b4)])) _
    refine XS.iconst X11.here hx rfl (hb hby own_d_prog_142_method_4_39) ?_
    show Steps p.tables e below (T11.setTop (mkF m 40 #[.val (.ref a1), .val (.int (0 : Int32)), .val (.ref b4), .val (.int (1 : Int32))] [(.int (1 : Int32)), (.int x1), (.int (1 : Int32)), (.ref b4)])) _
    refine XS.isub X11.here hx rfl (hb hby own_d_prog_142_method_4_40) rfl ?_
    show Steps p.tables e below (T11.setTop (mkF m 41 #[.val (.ref a1), .val (.int (0 : Int32)), .val (.ref b4), .val (.int (1 : Int32))] [(.int (x1 - (1 : Int32))), (.int (1 : Int32)), (.ref b4)])) _
    refine st22 _ ?_
    show Steps p.tables e below (T22.setTop (mkF m 42 #[.val (.ref a1), .val (.int (0 : Int32)), .val (.ref b4), .val (.int (1 : Int32))] [])) _
    refine XS.iinc X22.here hx rfl (hb hby own_d_prog_142_method_4_42) rfl (l' := #[.val (.ref a1), .val (.int (0 : Int32)), .val (.ref b4), .val (.int (2 : Int32))]) rfl ?_
    show Steps p.tables e below (T22.setTop (mkF m 45 #[.val (.ref a1), .val (.int (0 : Int32)), .val (.ref b4), .val (.int (2 : Int32))] [])) _
    refine XS.goto X22.here hx rfl (pc0 := 45) (pc' := 26) rfl (hb hby own_d_prog_142_method_4_45) (by decide) (by decide) ?_
    show Steps p.tables e below (T22.setTop (mkF m 26 #[.val (.ref a1), .val (.int (0 : Int32)), .val (.ref b4), .val (.int (2 : Int32))] [])) _
    refine XS.iloadN X22.here hx rfl (hb hby own_d_prog_142_method_4_26) rfl ?_
    show Steps p.tables e below (T22.setTop (mkF m 27 #[.val (.ref a1), .val (.int (0 : Int32)), .val (.ref b4), .val (.int (2 : Int32))] [(.int (2 : Int32))])) _
    refine XS.aloadN X22.here hx rfl (hb hby own_d_prog_142_method_4_27) rfl rfl ?_
    show Steps p.tables e below (T22.setTop (mkF m 28 #[.val (.ref a1), .val (.int (0 : Int32)), .val (.ref b4), .val (.int (2 : Int32))] [(.ref b4), (.int (2 : Int32))])) _
    refine X22.arraylength hx (by rw [e22]; exact Ar30.1) (State.isArrayOf_alike hZ.alike Ar30.2.1) (g := (mkF m 28 #[.val (.ref a1), .val (.int (0 : Int32)), .val (.ref b4), .val (.int (2 : Int32))] [(.ref b4), (.int (2 : Int32))])) rfl rfl (hb hby own_d_prog_142_method_4_28) _ ?_
    rw [own_len (z := (3 : Int32)) S30 rfl]
    show Steps p.tables e below (T22.setTop (mkF m 29 #[.val (.ref a1), .val (.int (0 : Int32)), .val (.ref b4), .val (.int (2 : Int32))] [(.int (3 : Int32)), (.int (2 : Int32))])) _
    refine XS.icmpNo X22.here hx rfl (hb hby own_d_prog_142_method_4_29) rfl (tlt (by decide : (2 : Int32) < (3 : Int32))).2.1 ?_
    show Steps p.tables e below (T22.setTop (mkF m 32 #[.val (.ref a1), .val (.int (0 : Int32)), .val (.ref b4), .val (.int (2 : Int32))] [])) _
    refine XS.aloadN X22.here hx rfl (hb hby own_d_prog_142_method_4_32) rfl rfl ?_
    show Steps p.tables e below (T22.setTop (mkF m 33 #[.val (.ref a1), .val (.int (0 : Int32)), .val (.ref b4), .val (.int (2 : Int32))] [(.ref b4)])) _
    refine XS.iloadN X22.here hx rfl (hb hby own_d_prog_142_method_4_33) rfl ?_
    show Steps p.tables e below (T22.setTop (mkF m 34 #[.val (.ref a1), .val (.int (0 : Int32)), .val (.ref b4), .val (.int (2 : Int32))] [(.int (2 : Int32)), (.ref b4)])) _
    refine XS.aloadN X22.here hx rfl (hb hby own_d_prog_142_method_4_34) rfl rfl ?_
    show Steps p.tables e below (T22.setTop (mkF m 35 #[.val (.ref a1), .val (.int (0 : Int32)), .val (.ref b4), .val (.int (2 : Int32))] [(.ref a1), (.int (2 : Int32)), (.ref b4)])) _
    refine XS.iloadN X22.here hx rfl (hb hby own_d_prog_142_method_4_35) rfl ?_
    show Steps p.tables e below (T22.setTop (mkF m 36 #[.val (.ref a1), .val (.int (0 : Int32)), .val (.ref b4), .val (.int (2 : Int32))] [(.int (0 : Int32)), (.ref a1), (.int (2 : Int32)), (.ref b4)])) _
    refine XS.iloadN X22.here hx rfl (hb hby own_d_prog_142_method_4_36) rfl ?_
    show Steps p.tables e below (T22.setTop (mkF m 37 #[.val (.ref a1), .val (.int (0 : Int32)), .val (.ref b4), .val (.int (2 : Int32))] [(.int (2 : Int32)), (.int (0 : Int32)), (.ref a1), (.int (2 : Int32)), (.ref b4)])) _
    refine XS.iadd X22.here hx rfl (hb hby own_d_prog_142_method_4_37) rfl ?_
    show Steps p.tables e below (T22.setTop (mkF m 38 #[.val (.ref a1), .val (.int (0 : Int32)), .val (.ref b4), .val (.int (2 : Int32))] [(.int (2 : Int32)), (.ref a1), (.int (2 : Int32)), (.ref b4)])) _
    refine X22.iaload hx (j := (2 : Int32)) (v := (.int x2)) (by rw [e22]; exact Ar31.1) (State.isArrayOf_alike hZ.alike Ar31.2.1) Ar31.2.2 hin31 hat31 (g := (mkF m 38 #[.val (.ref a1), .val (.int (0 : Int32)), .val (.ref b4), .val (.int (2 : Int32))] [(.int (2 : Int32)), (.ref a1), (.int (2 : Int32)), (.ref b4)])) rfl rfl (hb hby own_d_prog_142_method_4_38) _ ?_
    show Steps p.tables e below (T22.setTop (mkF m 39 #[.val (.ref a1), .val (.int (0 : Int32)), .val (.ref b4), .val (.int (2 : Int32))] [(.int x2), (.int (2 : Int32)), (.ref b4)])) _
    refine XS.iconst X22.here hx rfl (hb hby own_d_prog_142_method_4_39) ?_
    show Steps p.tables e below (T22.setTop (mkF m 40 #[.val (.ref a1), .val (.int (0 : Int32)), .val (.ref b4), .val (.int (2 : Int32))] [(.int (1 : Int32)), (.int x2), (.int (2 : Int32)), (.ref b4)])) _
    refine XS.isub X22.here hx rfl (hb hby own_d_prog_142_method_4_40) rfl ?_
    show Steps p.tables e below (T22.setTop (mkF m 41 #[.val (.ref a1), .val (.int (0 : Int32)), .val (.ref b4), .val (.int (2 : Int32))] [(.int (x2 - (1 : Int32))), (.int (2 : Int32)), (.ref b4)])) _
    refine st33 _ ?_
    show Steps p.tables e below (T33.setTop (mkF m 42 #[.val (.ref a1), .val (.int (0 : Int32)), .val (.ref b4), .val (.int (2 : Int32))] [])) _
    refine XS.iinc X33.here hx rfl (hb hby own_d_prog_142_method_4_42) rfl (l' := #[.val (.ref a1), .val (.int (0 : Int32)), .val (.ref b4), .val (.int (3 : Int32))]) rfl ?_
    show Steps p.tables e below (T33.setTop (mkF m 45 #[.val (.ref a1), .val (.int (0 : Int32)), .val (.ref b4), .val (.int (3 : Int32))] [])) _
    refine XS.goto X33.here hx rfl (pc0 := 45) (pc' := 26) rfl (hb hby own_d_prog_142_method_4_45) (by decide) (by decide) ?_
    show Steps p.tables e below (T33.setTop (mkF m 26 #[.val (.ref a1), .val (.int (0 : Int32)), .val (.ref b4), .val (.int (3 : Int32))] [])) _
    refine XS.iloadN X33.here hx rfl (hb hby own_d_prog_142_method_4_26) rfl ?_
    show Steps p.tables e below (T33.setTop (mkF m 27 #[.val (.ref a1), .val (.int (0 : Int32)), .val (.ref b4), .val (.int (3 : Int32))] [(.int (3 : Int32))])) _
    refine XS.aloadN X33.here hx rfl (hb hby own_d_prog_142_method_4_27) rfl rfl ?_
    show Steps p.tables e below (T33.setTop (mkF m 28 #[.val (.ref a1), .val (.int (0 : Int32)), .val (.ref b4), .val (.int (3 : Int32))] [(.ref b4), (.int (3 : Int32))])) _
    refine X33.arraylength hx (by rw [e33]; exact Ar41.1) (State.isArrayOf_alike hZ.alike Ar41.2.1) (g := (mkF m 28 #[.val (.ref a1), .val (.int (0 : Int32)), .val (.ref b4), .val (.int (3 : Int32))] [(.ref b4), (.int (3 : Int32))])) rfl rfl (hb hby own_d_prog_142_method_4_28) _ ?_
    rw [own_len (z := (3 : Int32)) S41 rfl]
    show Steps p.tables e below (T33.setTop (mkF m 29 #[.val (.ref a1), .val (.int (0 : Int32)), .val (.ref b4), .val (.int (3 : Int32))] [(.int (3 : Int32)), (.int (3 : Int32))])) _
    refine XS.icmpYes X33.here hx rfl (pc0 := 29) (pc' := 48) rfl (hb hby own_d_prog_142_method_4_29) rfl (flt (by decide : ¬ ((3 : Int32) < (3 : Int32)))).2.1 (by decide) (by decide) ?_
    show Steps p.tables e below (T33.setTop (mkF m 48 #[.val (.ref a1), .val (.int (0 : Int32)), .val (.ref b4), .val (.int (3 : Int32))] [])) _
    refine XS.aloadN X33.here hx rfl (hb hby own_d_prog_142_method_4_48) rfl rfl ?_
    show Steps p.tables e below (T33.setTop (mkF m 49 #[.val (.ref a1), .val (.int (0 : Int32)), .val (.ref b4), .val (.int (3 : Int32))] [(.ref b4)])) _
    refine X33.arraylength hx (by rw [e33]; exact Ar42.1) (State.isArrayOf_alike hZ.alike Ar42.2.1) (g := (mkF m 49 #[.val (.ref a1), .val (.int (0 : Int32)), .val (.ref b4), .val (.int (3 : Int32))] [(.ref b4)])) rfl rfl (hb hby own_d_prog_142_method_4_49) _ ?_
    rw [own_len (z := (3 : Int32)) S42 rfl]
    show Steps p.tables e below (T33.setTop (mkF m 50 #[.val (.ref a1), .val (.int (0 : Int32)), .val (.ref b4), .val (.int (3 : Int32))] [(.int (3 : Int32))])) _
    refine XS.ifYes X33.here hx rfl (pc0 := 50) (pc' := 59) rfl (hb hby own_d_prog_142_method_4_50) rfl ((if0 _ _).trans (feq (by decide : ¬ ((3 : Int32) = (0 : Int32)))).2) (by decide) (by decide) ?_
    show Steps p.tables e below (T33.setTop (mkF m 59 #[.val (.ref a1), .val (.int (0 : Int32)), .val (.ref b4), .val (.int (3 : Int32))] [])) _
    refine XS.aloadN X33.here hx rfl (hb hby own_d_prog_142_method_4_59) rfl rfl ?_
    exact kt
  obtain ⟨fs, hr, hrun, hended, hW, hsame⟩ := X33.leave (v := some (.ref b4)) (fun h => by rw [Bd.returns] at h; cases h)
  refine ⟨_, _, pre43 _ ?_, hrun, hended, _, _, rfl, ?_, ⟨_, rfl⟩, hW, hsame.mono (by decide) (by decide)⟩
  · show Steps p.tables e below (T33.setTop (mkF m 60 #[.val (.ref a1), .val (.int (0 : Int32)), .val (.ref b4), .val (.int (3 : Int32))] [(.ref b4)])) _
    jvm_step X33.here [X33.here.top, hx, (hb hby own_d_prog_142_method_4_60), X33.method', Bd.returns, Value.isRef, FieldType.isReference]
    first | (intro acts; rw [hr _ acts rfl rfl rfl]) | rw [hr _ _ rfl rfl rfl]
    exact Steps.refl _
  · show own_Q_oh3n Z a1 x0 x1 x2 h0 n0 (some (.ref b4)) T33.heap _
    rw [e33]
    exact ⟨_, rfl, nf38, k37, sz_b4, f40⟩
theorem own_ef_oh3z (m : MethodId) (a1 : Addr) : entryFrame m #[(.ref a1)] 4 = mkF m 0 #[.val (.ref a1), .unset, .unset, .unset] [] := by first | (simp [entryFrame, mkF, argsToLocals, Value.category]; done) | rfl
def own_Q_oh3z (Z : State) (a1 : Addr) (x0 : Int32) (x1 : Int32) (x2 : Int32) (h0 : Heap) (n0 : Nat) (v : Option Value) (h : Heap) (L : List Loc) : Prop := ∃ r : Addr, v = some (.ref r) ∧ Fr n0 L ∧ Keep h0 h [] ∧ h0.size ≤ r ∧ own_A Z h r 2 (own_v2 (x1 - (1 : Int32)) (x2 - (1 : Int32)))
set_option maxRecDepth 65536 in
set_option maxHeartbeats 40000000 in
theorem own_rm_oh3z (l : Launch) (Z : State) (a0 : Array Value) (hw : ∀ d ∈ tables_1, d.before a0 Z = true) (ws : List Jvm.Cond) (a1 : Addr) (x0 : Int32) (x1 : Int32) (x2 : Int32) (h0 : Heap) (n0 : Nat) (Z0 : n0 ≤ h0.size) (A1 : own_A Z h0 a1 3 (own_v3 x0 x1 x2)) (hz : x0 = (0 : Int32)) :
    MetFree l (⟨"com/example/unfold/unfold/semantics/GateSets", "outsideHide", "([I)[I"⟩ : MethodName) (head1 (Jvm.Cond.code (⟨"com/example/unfold/unfold/semantics/GateSets", "outsideHide", "([I)[I"⟩ : MethodName) prog_142_method_4_code 4 (some (.array .int)) :: ws) ({ frames := 0, cells := 1, slots := 2, locals := 0 } : Room)) (fun a U => a = #[(.ref a1)] ∧ Z.Warmed39 U.vm ∧ U.heap = h0) (fun _ _ _ _ _ => True) (fun _ U o U' => ∃ v L, o = .returned v ∧ own_Q_oh3z Z a1 x0 x1 x2 h0 n0 v U'.heap L ∧ FrameEnd U o U' L ({ frames := 0, cells := 1, slots := 2, locals := 0 } : Room).cells ({ frames := 0, cells := 1, slots := 2, locals := 0 } : Room).slots) := by
  refine MetFree.of_bodySF (plainFor_of_name own_pn0) hisR ?_
  intro p e s m args below meth c s₁ Bd hml0 hP hK
  obtain ⟨rfl, hZ, hh⟩ := hP
  have hx := Bd.exec
  have hby := Bd.bytes
  have hml : c.maxLocals = 4 := hml0
  have hown : s.vm.findClass "com/example/unfold/unfold/semantics/GateSets" = some m.cls := findClass_of_methodNamed Bd.named
  have hnm := (name_of_methodNamed Bd.named Bd.method).1
  have X0 : Stand p l e ({ frames := 0, cells := 1, slots := 2, locals := 0 } : Room) s m #[(.ref a1)] below meth c s₁ [] 0 0 := Stand.of_body Bd
  have e0 : s₁.heap = h0 := by rw [← hh, Bd.state]; rfl
  have N0 := Fr.nil n0
  have K0 : Keep h0 h0 [] := Keep.refl _ _
  have pre0 : ∀ t, Steps p.tables e below (s₁.setTop (mkF m 0 #[.val (.ref a1), .unset, .unset, .unset] [])) t → Steps p.tables e below (s₁.setTop (entryFrame m #[(.ref a1)] 4)) t := fun t k => castTop (own_ef_oh3z m a1) k
  obtain ⟨cl1, Ar1, S1, -⟩ := id A1
  obtain ⟨cl2, Ar2, S2, H2⟩ := id A1
  have hin2 : ¬ ((0 : Int32) < 0 ∨ cl2.slots.size ≤ ((0 : Int32)).toNatClampNeg) := own_inb S2 (by decide) (by decide)
  have hat2 : cl2.slots[((0 : Int32)).toNatClampNeg]? = some (.int x0) := H2 _ (by decide)
  obtain ⟨cl3, Ar3, S3, -⟩ := id A1
  obtain ⟨T4, h4, k4, X4, e4, E4, A4, I4, st4⟩ := newPE X0 hx hZ (hw _ (List.mem_of_getElem? (i := 2) rfl)) e0 (g := (mkF m 21 #[.val (.ref a1), .val (.int (1 : Int32)), .unset, .unset] [(.int (2 : Int32))])) rfl (hb hby own_d_prog_142_method_4_21) rfl (by decide) (cap := 2) (by decide) (by decide) (by decide) (by decide) (ad := "[I") rfl
  obtain ⟨b4, g4⟩ : ∃ z, z = h0.size := ⟨_, rfl⟩
  rw [← g4] at A4 I4 st4
  have sz_b4 : h0.size ≤ b4 := Nat.le_trans K0.1 (Nat.le_of_eq g4.symm)
  have gn_b4 : n0 ≤ b4 := Nat.le_trans Z0 sz_b4
  have ne_a1_b4 : a1 ≠ b4 := Nat.ne_of_lt (Nat.lt_of_lt_of_le A1.lt (Nat.le_of_eq g4.symm))
  have f5 := A1.ext E4
  have k6 := K0.ext E4
  have f7 : own_A Z h4 b4 2 (own_v2 (0 : Int32) (0 : Int32)) := (own_A.new A4 rfl).congr (fun j hj => by rcases j with _ | _ | j <;> first | rfl | (simp [own_upd]; done) | omega)
  obtain ⟨cl8, Ar8, S8, -⟩ := id f7
  obtain ⟨cl9, Ar9, S9, H9⟩ := id f5
  have hin9 : ¬ ((1 : Int32) < 0 ∨ cl9.slots.size ≤ ((1 : Int32)).toNatClampNeg) := own_inb S9 (by decide) (by decide)
  have hat9 : cl9.slots[((1 : Int32)).toNatClampNeg]? = some (.int x1) := H9 _ (by decide)
  obtain ⟨cl10, Ar10, S10, H10⟩ := id f7
  have hin10 : ¬ ((0 : Int32) < 0 ∨ cl10.slots.size ≤ ((0 : Int32)).toNatClampNeg) := own_inb S10 (by decide) (by decide)
  obtain ⟨T11, h11, X11, e11, W11, st11⟩ := stI X4 hx hZ e4 Ar10 (j := (0 : Int32)) hin10 (g := (mkF m 41 #[.val (.ref a1), .val (.int (1 : Int32)), .val (.ref b4), .val (.int (0 : Int32))] [(.int (x1 - (1 : Int32))), (.int (0 : Int32)), (.ref b4)])) rfl rfl (hb hby own_d_prog_142_method_4_41)
  have f12 := f5.other W11 ne_a1_b4
  have f13 := I4.wr W11
  have k15 := k6.wr W11 (Or.inr sz_b4)
  have nf16 := Fr.snoc X11 N0 gn_b4
  have f17 := f7.set W11
  have f18 : own_A Z h11 b4 2 (own_v2 (x1 - (1 : Int32)) (0 : Int32)) := f17.congr (fun j hj => by rcases j with _ | _ | j <;> first | rfl | (simp [own_upd]; done) | omega)
  obtain ⟨cl19, Ar19, S19, -⟩ := id f18
  obtain ⟨cl20, Ar20, S20, H20⟩ := id f12
  have hin20 : ¬ ((2 : Int32) < 0 ∨ cl20.slots.size ≤ ((2 : Int32)).toNatClampNeg) := own_inb S20 (by decide) (by decide)
  have hat20 : cl20.slots[((2 : Int32)).toNatClampNeg]? = some (.int x2) := H20 _ (by decide)
  obtain ⟨cl21, Ar21, S21, H21⟩ := id f18
  have hin21 : ¬ ((1 : Int32) < 0 ∨ cl21.slots.size ≤ ((1 : Int32)).toNatClampNeg) := own_inb S21 (by decide) (by decide)
  obtain ⟨T22, h22, X22, e22, W22, st22⟩ := stI X11 hx hZ e11 Ar21 (j := (1 : Int32)) hin21 (g := (mkF m 41 #[.val (.ref a1), .val (.int (1 : Int32)), .val (.ref b4), .val (.int (1 : Int32))] [(.int (x2 - (1 : Int32))), (.int (1 : Int32)), (.ref b4)])) rfl rfl (hb hby own_d_prog_142_method_4_41)
  have f23 := f12.other W22 ne_a1_b4
  have f24 := f13.wr W22
  have k26 := k15.wr W22 (Or.inr sz_b4)
  have nf27 := Fr.snoc X22 nf16 gn_b4
  have f28 := f18.set W22
  have f29 : own_A Z h22 b4 2 (own_v2 (x1 - (1 : Int32)) (x2 - (1 : Int32))) := f28.congr (fun j hj => by rcases j with _ | _ | j <;> first | rfl | (simp [own_upd]; done) | omega)
  obtain ⟨cl30, Ar30, S30, -⟩ := id f29
  obtain ⟨cl31, Ar31, S31, -⟩ := id f29
  have pre32 : ∀ t, Steps p.tables e below (T22.setTop (mkF m 60 #[.val (.ref a1), .val (.int (1 : Int32)), .val (.ref b4), .val (.int (2 : Int32))] [(.ref b4)])) t → Steps p.tables e below (s₁.setTop (entryFrame m #[(.ref a1)] 4)) t := by
    intro t kt
    refine pre0 t ?_
    show Steps p.tables e below (s₁.setTop (mkF m 0 #[.val (.ref a1), .unset, .unset, .unset] [])) _
    refine XS.aloadN X0.here hx rfl (hb hby own_d_prog_142_method_4_0) rfl rfl ?_
    show Steps p.tables e below (s₁.setTop (mkF m 1 #[.val (.ref a1), .unset, .unset, .unset] [(.ref a1)])) _
    refine X0.arraylength hx (by rw [e0]; exact Ar1.1) (State.isArrayOf_alike hZ.alike Ar1.2.1) (g := (mkF m 1 #[.val (.ref a1), .unset, .unset, .unset] [(.ref a1)])) rfl rfl (hb hby own_d_prog_142_method_4_1) _ ?_
    rw [own_len (z := (3 : Int32)) S1 rfl]
    show Steps p.tables e below (s₁.setTop (mkF m 2 #[.val (.ref a1), .unset, .unset, .unset] [(.int (3 : Int32))])) _
    refine XS.ifNo X0.here hx rfl (hb hby own_d_prog_142_method_4_2) rfl ((if0 _ _).trans (tlt (by decide : (0 : Int32) < (3 : Int32))).2.2.2) ?_
    show Steps p.tables e below (s₁.setTop (mkF m 5 #[.val (.ref a1), .unset, .unset, .unset] [])) _
    refine XS.aloadN X0.here hx rfl (hb hby own_d_prog_142_method_4_5) rfl rfl ?_
    show Steps p.tables e below (s₁.setTop (mkF m 6 #[.val (.ref a1), .unset, .unset, .unset] [(.ref a1)])) _
    refine XS.iconst X0.here hx rfl (hb hby own_d_prog_142_method_4_6) ?_
    show Steps p.tables e below (s₁.setTop (mkF m 7 #[.val (.ref a1), .unset, .unset, .unset] [(.int (0 : Int32)), (.ref a1)])) _
    refine X0.iaload hx (j := (0 : Int32)) (v := (.int x0)) (by rw [e0]; exact Ar2.1) (State.isArrayOf_alike hZ.alike Ar2.2.1) Ar2.2.2 hin2 hat2 (g := (mkF m 7 #[.val (.ref a1), .unset, .unset, .unset] [(.int (0 : Int32)), (.ref a1)])) rfl rfl (hb hby own_d_prog_142_method_4_7) _ ?_
    show Steps p.tables e below (s₁.setTop (mkF m 8 #[.val (.ref a1), .unset, .unset, .unset] [(.int x0)])) _
    refine XS.ifNo X0.here hx rfl (hb hby own_d_prog_142_method_4_8) rfl ((if0 _ _).trans (teq hz).2) ?_
    show Steps p.tables e below (s₁.setTop (mkF m 11 #[.val (.ref a1), .unset, .unset, .unset] [])) _
    refine XS.iconst X0.here hx rfl (hb hby own_d_prog_142_method_4_11) ?_
    show Steps p.tables e below (s₁.setTop (mkF m 12 #[.val (.ref a1), .unset, .unset, .unset] [(.int (1 : Int32))])) _
    refine XS.goto X0.here hx rfl (pc0 := 12) (pc' := 16) rfl (hb hby own_d_prog_142_method_4_12) (by decide) (by decide) ?_
    show Steps p.tables e below (s₁.setTop (mkF m 16 #[.val (.ref a1), .unset, .unset, .unset] [(.int (1 : Int32))])) _
    refine XS.istoreN X0.here hx rfl (hb hby own_d_prog_142_method_4_16) rfl (l' := #[.val (.ref a1), .val (.int (1 : Int32)), .unset, .unset]) rfl ?_
    show Steps p.tables e below (s₁.setTop (mkF m 17 #[.val (.ref a1), .val (.int (1 : Int32)), .unset, .unset] [])) _
    refine XS.aloadN X0.here hx rfl (hb hby own_d_prog_142_method_4_17) rfl rfl ?_
    show Steps p.tables e below (s₁.setTop (mkF m 18 #[.val (.ref a1), .val (.int (1 : Int32)), .unset, .unset] [(.ref a1)])) _
    refine X0.arraylength hx (by rw [e0]; exact Ar3.1) (State.isArrayOf_alike hZ.alike Ar3.2.1) (g := (mkF m 18 #[.val (.ref a1), .val (.int (1 : Int32)), .unset, .unset] [(.ref a1)])) rfl rfl (hb hby own_d_prog_142_method_4_18) _ ?_
    rw [own_len (z := (3 : Int32)) S3 rfl]
    show Steps p.tables e below (s₁.setTop (mkF m 19 #[.val (.ref a1), .val (.int (1 : Int32)), .unset, .unset] [(.int (3 : Int32))])) _
    refine XS.iloadN X0.here hx rfl (hb hby own_d_prog_142_method_4_19) rfl ?_
    show Steps p.tables e below (s₁.setTop (mkF m 20 #[.val (.ref a1), .val (.int (1 : Int32)), .unset, .unset] [(.int (1 : Int32)), (.int (3 : Int32))])) _
    refine XS.isub X0.here hx rfl (hb hby own_d_prog_142_method_4_20) rfl ?_
    show Steps p.tables e below (s₁.setTop (mkF m 21 #[.val (.ref a1), .val (.int (1 : Int32)), .unset, .unset] [(.int (2 : Int32))])) _
    refine st4 _ ?_
    show Steps p.tables e below (T4.setTop (mkF m 23 #[.val (.ref a1), .val (.int (1 : Int32)), .unset, .unset] [(.ref b4)])) _
    refine XS.astoreN X4.here hx rfl (hb hby own_d_prog_142_method_4_23) rfl rfl (l' := #[.val (.ref a1), .val (.int (1 : Int32)), .val (.ref b4), .unset]) rfl ?_
    show Steps p.tables e below (T4.setTop (mkF m 24 #[.val (.ref a1), .val (.int (1 : Int32)), .val (.ref b4), .unset] [])) _
    refine XS.iconst X4.here hx rfl (hb hby own_d_prog_142_method_4_24) ?_
    show Steps p.tables e below (T4.setTop (mkF m 25 #[.val (.ref a1), .val (.int (1 : Int32)), .val (.ref b4), .unset] [(.int (0 : Int32))])) _
    refine XS.istoreN X4.here hx rfl (hb hby own_d_prog_142_method_4_25) rfl (l' := #[.val (.ref a1), .val (.int (1 : Int32)), .val (.ref b4), .val (.int (0 : Int32))]) rfl ?_
    show Steps p.tables e below (T4.setTop (mkF m 26 #[.val (.ref a1), .val (.int (1 : Int32)), .val (.ref b4), .val (.int (0 : Int32))] [])) _
    refine XS.iloadN X4.here hx rfl (hb hby own_d_prog_142_method_4_26) rfl ?_
    show Steps p.tables e below (T4.setTop (mkF m 27 #[.val (.ref a1), .val (.int (1 : Int32)), .val (.ref b4), .val (.int (0 : Int32))] [(.int (0 : Int32))])) _
    refine XS.aloadN X4.here hx rfl (hb hby own_d_prog_142_method_4_27) rfl rfl ?_
    show Steps p.tables e below (T4.setTop (mkF m 28 #[.val (.ref a1), .val (.int (1 : Int32)), .val (.ref b4), .val (.int (0 : Int32))] [(.ref b4), (.int (0 : Int32))])) _
    refine X4.arraylength hx (by rw [e4]; exact Ar8.1) (State.isArrayOf_alike hZ.alike Ar8.2.1) (g := (mkF m 28 #[.val (.ref a1), .val (.int (1 : Int32)), .val (.ref b4), .val (.int (0 : Int32))] [(.ref b4), (.int (0 : Int32))])) rfl rfl (hb hby own_d_prog_142_method_4_28) _ ?_
    rw [own_len (z := (2 : Int32)) S8 rfl]
    show Steps p.tables e below (T4.setTop (mkF m 29 #[.val (.ref a1), .val (.int (1 : Int32)), .val (.ref b4), .val (.int (0 : Int32))] [(.int (2 : Int32)), (.int (0 : Int32))])) _
    refine XS.icmpNo X4.here hx rfl (hb hby own_d_prog_142_method_4_29) rfl (tlt (by decide : (0 : Int32) < (2 : Int32))).2.1 ?_
    show Steps p.tables e below (T4.setTop (mkF m 32 #[.val (.ref a1), .val (.int (1 : Int32)), .val (.ref b4), .val (.int (0 : Int32))] [])) _
    refine XS.aloadN X4.here hx rfl (hb hby own_d_prog_142_method_4_32) rfl rfl ?_
    show Steps p.tables e below (T4.setTop (mkF m 33 #[.val (.ref a1), .val (.int (1 : Int32)), .val (.ref b4), .val (.int (0 : Int32))] [(.ref b4)])) _
    refine XS.iloadN X4.here hx rfl (hb hby own_d_prog_142_method_4_33) rfl ?_
    show Steps p.tables e below (T4.setTop (mkF m 34 #[.val (.ref a1), .val (.int (1 : Int32)), .val (.ref b4), .val (.int (0 : Int32))] [(.int (0 : Int32)), (.ref b4)])) _
    refine XS.aloadN X4.here hx rfl (hb hby own_d_prog_142_method_4_34) rfl rfl ?_
    show Steps p.tables e below (T4.setTop (mkF m 35 #[.val (.ref a1), .val (.int (1 : Int32)), .val (.ref b4), .val (.int (0 : Int32))] [(.ref a1), (.int (0 : Int32)), (.ref b4)])) _
    refine XS.iloadN X4.here hx rfl (hb hby own_d_prog_142_method_4_35) rfl ?_
    show Steps p.tables e below (T4.setTop (mkF m 36 #[.val (.ref a1), .val (.int (1 : Int32)), .val (.ref b4), .val (.int (0 : Int32))] [(.int (1 : Int32)), (.ref a1), (.int (0 : Int32)), (.ref b4)])) _
    refine XS.iloadN X4.here hx rfl (hb hby own_d_prog_142_method_4_36) rfl ?_
    show Steps p.tables e below (T4.setTop (mkF m 37 #[.val (.ref a1), .val (.int (1 : Int32)), .val (.ref b4), .val (.int (0 : Int32))] [(.int (0 : Int32)), (.int (1 : Int32)), (.ref a1), (.int (0 : Int32)), (.ref b4)])) _
    refine XS.iadd X4.here hx rfl (hb hby own_d_prog_142_method_4_37) rfl ?_
    show Steps p.tables e below (T4.setTop (mkF m 38 #[.val (.ref a1), .val (.int (1 : Int32)), .val (.ref b4), .val (.int (0 : Int32))] [(.int (1 : Int32)), (.ref a1), (.int (0 : Int32)), (.ref b4)])) _
    refine X4.iaload hx (j := (1 : Int32)) (v := (.int x1)) (by rw [e4]; exact Ar9.1) (State.isArrayOf_alike hZ.alike Ar9.2.1) Ar9.2.2 hin9 hat9 (g := (mkF m 38 #[.val (.ref a1), .val (.int (1 : Int32)), .val (.ref b4), .val (.int (0 : Int32))] [(.int (1 : Int32)), (.ref a1), (.int (0 : Int32)), (.ref b4)])) rfl rfl (hb hby own_d_prog_142_method_4_38) _ ?_
    show Steps p.tables e below (T4.setTop (mkF m 39 #[.val (.ref a1), .val (.int (1 : Int32)), .val (.ref b4), .val (.int (0 : Int32))] [(.int x1), (.int (0 : Int32)), (.ref b4)])) _
    refine XS.iconst X4.here hx rfl (hb hby own_d_prog_142_method_4_39) ?_
    show Steps p.tables e below (T4.setTop (mkF m 40 #[.val (.ref a1), .val (.int (1 : Int32)), .val (.ref b4), .val (.int (0 : Int32))] [(.int (1 : Int32)), (.int x1), (.int (0 : Int32)), (.ref b4)])) _
    refine XS.isub X4.here hx rfl (hb hby own_d_prog_142_method_4_40) rfl ?_
    show Steps p.tables e below (T4.setTop (mkF m 41 #[.val (.ref a1), .val (.int (1 : Int32)), .val (.ref b4), .val (.int (0 : Int32))] [(.int (x1 - (1 : Int32))), (.int (0 : Int32)), (.ref b4)])) _
    refine st11 _ ?_
    show Steps p.tables e below (T11.setTop (mkF m 42 #[.val (.ref a1), .val (.int (1 : Int32)), .val (.ref b4), .val (.int (0 : Int32))] [])) _
    refine XS.iinc X11.here hx rfl (hb hby own_d_prog_142_method_4_42) rfl (l' := #[.val (.ref a1), .val (.int (1 : Int32)), .val (.ref b4), .val (.int (1 : Int32))]) rfl ?_
    show Steps p.tables e below (T11.setTop (mkF m 45 #[.val (.ref a1), .val (.int (1 : Int32)), .val (.ref b4), .val (.int (1 : Int32))] [])) _
    refine XS.goto X11.here hx rfl (pc0 := 45) (pc' := 26) rfl (hb hby own_d_prog_142_method_4_45) (by decide) (by decide) ?_
    show Steps p.tables e below (T11.setTop (mkF m 26 #[.val (.ref a1), .val (.int (1 : Int32)), .val (.ref b4), .val (.int (1 : Int32))] [])) _
    refine XS.iloadN X11.here hx rfl (hb hby own_d_prog_142_method_4_26) rfl ?_
    show Steps p.tables e below (T11.setTop (mkF m 27 #[.val (.ref a1), .val (.int (1 : Int32)), .val (.ref b4), .val (.int (1 : Int32))] [(.int (1 : Int32))])) _
    refine XS.aloadN X11.here hx rfl (hb hby own_d_prog_142_method_4_27) rfl rfl ?_
    show Steps p.tables e below (T11.setTop (mkF m 28 #[.val (.ref a1), .val (.int (1 : Int32)), .val (.ref b4), .val (.int (1 : Int32))] [(.ref b4), (.int (1 : Int32))])) _
    refine X11.arraylength hx (by rw [e11]; exact Ar19.1) (State.isArrayOf_alike hZ.alike Ar19.2.1) (g := (mkF m 28 #[.val (.ref a1), .val (.int (1 : Int32)), .val (.ref b4), .val (.int (1 : Int32))] [(.ref b4), (.int (1 : Int32))])) rfl rfl (hb hby own_d_prog_142_method_4_28) _ ?_
    rw [own_len (z := (2 : Int32)) S19 rfl]
    show Steps p.tables e below (T11.setTop (mkF m 29 #[.val (.ref a1), .val (.int (1 : Int32)), .val (.ref b4), .val (.int (1 : Int32))] [(.int (2 : Int32)), (.int (1 : Int32))])) _
    refine XS.icmpNo X11.here hx rfl (hb hby own_d_prog_142_method_4_29) rfl (tlt (by decide : (1 : Int32) < (2 : Int32))).2.1 ?_
    show Steps p.tables e below (T11.setTop (mkF m 32 #[.val (.ref a1), .val (.int (1 : Int32)), .val (.ref b4), .val (.int (1 : Int32))] [])) _
    refine XS.aloadN X11.here hx rfl (hb hby own_d_prog_142_method_4_32) rfl rfl ?_
    show Steps p.tables e below (T11.setTop (mkF m 33 #[.val (.ref a1), .val (.int (1 : Int32)), .val (.ref b4), .val (.int (1 : Int32))] [(.ref b4)])) _
    refine XS.iloadN X11.here hx rfl (hb hby own_d_prog_142_method_4_33) rfl ?_
    show Steps p.tables e below (T11.setTop (mkF m 34 #[.val (.ref a1), .val (.int (1 : Int32)), .val (.ref b4), .val (.int (1 : Int32))] [(.int (1 : Int32)), (.ref b4)])) _
    refine XS.aloadN X11.here hx rfl (hb hby own_d_prog_142_method_4_34) rfl rfl ?_
    show Steps p.tables e below (T11.setTop (mkF m 35 #[.val (.ref a1), .val (.int (1 : Int32)), .val (.ref b4), .val (.int (1 : Int32))] [(.ref a1), (.int (1 : Int32)), (.ref b4)])) _
    refine XS.iloadN X11.here hx rfl (hb hby own_d_prog_142_method_4_35) rfl ?_
    show Steps p.tables e below (T11.setTop (mkF m 36 #[.val (.ref a1), .val (.int (1 : Int32)), .val (.ref b4), .val (.int (1 : Int32))] [(.int (1 : Int32)), (.ref a1), (.int (1 : Int32)), (.ref b4)])) _
    refine XS.iloadN X11.here hx rfl (hb hby own_d_prog_142_method_4_36) rfl ?_
    show Steps p.tables e below (T11.setTop (mkF m 37 #[.val (.ref a1), .val (.int (1 : Int32)), .val (.ref b4), .val (.int (1 : Int32))] [(.int (1 : Int32)), (.int (1 : Int32)), (.ref a1), (.int (1 : Int32)), (.ref b4)])) _
    refine XS.iadd X11.here hx rfl (hb hby own_d_prog_142_method_4_37) rfl ?_
    show Steps p.tables e below (T11.setTop (mkF m 38 #[.val (.ref a1), .val (.int (1 : Int32)), .val (.ref b4), .val (.int (1 : Int32))] [(.int (2 : Int32)), (.ref a1), (.int (1 : Int32)), (.ref b4)])) _
    refine X11.iaload hx (j := (2 : Int32)) (v := (.int x2)) (by rw [e11]; exact Ar20.1) (State.isArrayOf_alike hZ.alike Ar20.2.1) Ar20.2.2 hin20 hat20 (g := (mkF m 38 #[.val (.ref a1), .val (.int (1 : Int32)), .val (.ref b4), .val (.int (1 : Int32))] [(.int (2 : Int32)), (.ref a1), (.int (1 : Int32)), (.ref b4)])) rfl rfl (hb hby own_d_prog_142_method_4_38) _ ?_
    show Steps p.tables e below (T11.setTop (mkF m 39 #[.val (.ref a1), .val (.int (1 : Int32)), .val (.ref b4), .val (.int (1 : Int32))] [(.int x2), (.int (1 : Int32)), (.ref b4)])) _
    refine XS.iconst X11.here hx rfl (hb hby own_d_prog_142_method_4_39) ?_
    show Steps p.tables e below (T11.setTop (mkF m 40 #[.val (.ref a1), .val (.int (1 : Int32)), .val (.ref b4), .val (.int (1 : Int32))] [(.int (1 : Int32)), (.int x2), (.int (1 : Int32)), (.ref b4)])) _
    refine XS.isub X11.here hx rfl (hb hby own_d_prog_142_method_4_40) rfl ?_
    show Steps p.tables e below (T11.setTop (mkF m 41 #[.val (.ref a1), .val (.int (1 : Int32)), .val (.ref b4), .val (.int (1 : Int32))] [(.int (x2 - (1 : Int32))), (.int (1 : Int32)), (.ref b4)])) _
    refine st22 _ ?_
    show Steps p.tables e below (T22.setTop (mkF m 42 #[.val (.ref a1), .val (.int (1 : Int32)), .val (.ref b4), .val (.int (1 : Int32))] [])) _
    refine XS.iinc X22.here hx rfl (hb hby own_d_prog_142_method_4_42) rfl (l' := #[.val (.ref a1), .val (.int (1 : Int32)), .val (.ref b4), .val (.int (2 : Int32))]) rfl ?_
    show Steps p.tables e below (T22.setTop (mkF m 45 #[.val (.ref a1), .val (.int (1 : Int32)), .val (.ref b4), .val (.int (2 : Int32))] [])) _
    refine XS.goto X22.here hx rfl (pc0 := 45) (pc' := 26) rfl (hb hby own_d_prog_142_method_4_45) (by decide) (by decide) ?_
    show Steps p.tables e below (T22.setTop (mkF m 26 #[.val (.ref a1), .val (.int (1 : Int32)), .val (.ref b4), .val (.int (2 : Int32))] [])) _
    refine XS.iloadN X22.here hx rfl (hb hby own_d_prog_142_method_4_26) rfl ?_
    show Steps p.tables e below (T22.setTop (mkF m 27 #[.val (.ref a1), .val (.int (1 : Int32)), .val (.ref b4), .val (.int (2 : Int32))] [(.int (2 : Int32))])) _
    refine XS.aloadN X22.here hx rfl (hb hby own_d_prog_142_method_4_27) rfl rfl ?_
    show Steps p.tables e below (T22.setTop (mkF m 28 #[.val (.ref a1), .val (.int (1 : Int32)), .val (.ref b4), .val (.int (2 : Int32))] [(.ref b4), (.int (2 : Int32))])) _
    refine X22.arraylength hx (by rw [e22]; exact Ar30.1) (State.isArrayOf_alike hZ.alike Ar30.2.1) (g := (mkF m 28 #[.val (.ref a1), .val (.int (1 : Int32)), .val (.ref b4), .val (.int (2 : Int32))] [(.ref b4), (.int (2 : Int32))])) rfl rfl (hb hby own_d_prog_142_method_4_28) _ ?_
    rw [own_len (z := (2 : Int32)) S30 rfl]
    show Steps p.tables e below (T22.setTop (mkF m 29 #[.val (.ref a1), .val (.int (1 : Int32)), .val (.ref b4), .val (.int (2 : Int32))] [(.int (2 : Int32)), (.int (2 : Int32))])) _
    refine XS.icmpYes X22.here hx rfl (pc0 := 29) (pc' := 48) rfl (hb hby own_d_prog_142_method_4_29) rfl (flt (by decide : ¬ ((2 : Int32) < (2 : Int32)))).2.1 (by decide) (by decide) ?_
    show Steps p.tables e below (T22.setTop (mkF m 48 #[.val (.ref a1), .val (.int (1 : Int32)), .val (.ref b4), .val (.int (2 : Int32))] [])) _
    refine XS.aloadN X22.here hx rfl (hb hby own_d_prog_142_method_4_48) rfl rfl ?_
    show Steps p.tables e below (T22.setTop (mkF m 49 #[.val (.ref a1), .val (.int (1 : Int32)), .val (.ref b4), .val (.int (2 : Int32))] [(.ref b4)])) _
    refine X22.arraylength hx (by rw [e22]; exact Ar31.1) (State.isArrayOf_alike hZ.alike Ar31.2.1) (g := (mkF m 49 #[.val (.ref a1), .val (.int (1 : Int32)), .val (.ref b4), .val (.int (2 : Int32))] [(.ref b4)])) rfl rfl (hb hby own_d_prog_142_method_4_49) _ ?_
    rw [own_len (z := (2 : Int32)) S31 rfl]
    show Steps p.tables e below (T22.setTop (mkF m 50 #[.val (.ref a1), .val (.int (1 : Int32)), .val (.ref b4), .val (.int (2 : Int32))] [(.int (2 : Int32))])) _
    refine XS.ifYes X22.here hx rfl (pc0 := 50) (pc' := 59) rfl (hb hby own_d_prog_142_method_4_50) rfl ((if0 _ _).trans (feq (by decide : ¬ ((2 : Int32) = (0 : Int32)))).2) (by decide) (by decide) ?_
    show Steps p.tables e below (T22.setTop (mkF m 59 #[.val (.ref a1), .val (.int (1 : Int32)), .val (.ref b4), .val (.int (2 : Int32))] [])) _
    refine XS.aloadN X22.here hx rfl (hb hby own_d_prog_142_method_4_59) rfl rfl ?_
    exact kt
  obtain ⟨fs, hr, hrun, hended, hW, hsame⟩ := X22.leave (v := some (.ref b4)) (fun h => by rw [Bd.returns] at h; cases h)
  refine ⟨_, _, pre32 _ ?_, hrun, hended, _, _, rfl, ?_, ⟨_, rfl⟩, hW, hsame.mono (by decide) (by decide)⟩
  · show Steps p.tables e below (T22.setTop (mkF m 60 #[.val (.ref a1), .val (.int (1 : Int32)), .val (.ref b4), .val (.int (2 : Int32))] [(.ref b4)])) _
    jvm_step X22.here [X22.here.top, hx, (hb hby own_d_prog_142_method_4_60), X22.method', Bd.returns, Value.isRef, FieldType.isReference]
    first | (intro acts; rw [hr _ acts rfl rfl rfl]) | rw [hr _ _ rfl rfl rfl]
    exact Steps.refl _
  · show own_Q_oh3z Z a1 x0 x1 x2 h0 n0 (some (.ref b4)) T22.heap _
    rw [e22]
    exact ⟨_, rfl, nf27, k26, sz_b4, f29⟩
theorem own_sta_keep {Z : State} {h h' : Heap} {C n d : String} {v : Value} {ws : List Addr} (F : Sta Z h C n d v) (K : Keep h h' ws) (q : ∀ x ∈ ws, ∀ c : Cell, h[x]? = some c → c.vm.isStatics = false) : Sta Z h' C n d v := by
  obtain ⟨cf, i, k, f, st, cell, h1, h2, h3, h4, h5, h6, h7⟩ := F
  have ni : st ∉ ws := fun u => by
    have := q st u cell h5
    rw [this] at h6; exact absurd h6 (by decide)
  exact ⟨cf, i, k, f, st, cell, h1, h2, h3, h4, K.2.1 st cell h5 ni, h6, h7⟩
theorem own_pl_cons {Z : State} {h : Heap} {a : Addr} {C : String} {ws : List Addr} (E : Exa Z h a C) (q : ∀ x ∈ ws, ∀ c : Cell, h[x]? = some c → c.vm.isStatics = false) : ∀ x ∈ a :: ws, ∀ c : Cell, h[x]? = some c → c.vm.isStatics = false := fun x hx c hc => by
  rcases List.mem_cons.mp hx with rfl | hx
  · obtain ⟨cell, k, e1, -, -, e4, -⟩ := E
    cases hc.symm.trans e1; exact e4
  · exact q x hx c hc
theorem own_pd0 : parseMethodDescriptor "([I)[I" = some ⟨[(.array .int)], some (.array .int)⟩ := by decide +kernel
theorem own_pn1 : plainName "com/example/unfold/unfold/semantics/GateSetsOutsideHidePinLaw" = true := by first | (simp [plainName, overriddenIn]; done) | decide +kernel
theorem own_ef_law (m : MethodId) (p0 : Int32) (p1 : Int32) (p2 : Int32) (p3 : Int32) : entryFrame m #[(.int p0), (.int p1), (.int p2), (.int p3)] maxLocals = mkF m 0 #[.val (.int p0), .val (.int p1), .val (.int p2), .val (.int p3), .unset, .unset, .unset, .unset, .unset, .unset, .unset, .unset, .unset, .unset, .unset] [] := by first | (simp [entryFrame, mkF, argsToLocals, Value.category, maxLocals]; done) | rfl
def own_Q_law (Z : State) (p0 : Int32) (p1 : Int32) (p2 : Int32) (p3 : Int32) (aS : Addr) (h0 : Heap) (n0 : Nat) (v : Option Value) (h : Heap) (L : List Loc) : Prop := v = some (.int 1) ∧ Fr n0 L
set_option maxRecDepth 65536 in
set_option maxHeartbeats 40000000 in
theorem own_rm_law (l : Launch) (Z : State) (a0 : Array Value) (hw : ∀ d ∈ tables_1, d.before a0 Z = true) (ws : List Jvm.Cond) (p0 : Int32) (p1 : Int32) (p2 : Int32) (p3 : Int32) (aS : Addr) (h0 : Heap) (n0 : Nat) (Z0 : n0 ≤ h0.size) (S0 : Sta Z h0 "com/example/unfold/unfold/semantics/GateSets" "EMPTY" "[I" (.ref aS)) (AS : own_A Z h0 aS 0 own_v0) :
    MetFree l x (head1 (Jvm.Cond.code x code maxLocals ret :: ws) room_1) (fun a U => a = #[(.int p0), (.int p1), (.int p2), (.int p3)] ∧ Z.Warmed39 U.vm ∧ U.heap = h0) (fun _ _ _ _ _ => True) (fun _ U o U' => ∃ v L, o = .returned v ∧ own_Q_law Z p0 p1 p2 p3 aS h0 n0 v U'.heap L ∧ FrameEnd U o U' L room_1.cells room_1.slots) := by
  refine MetFree.of_bodySF (plainFor_of_name own_pn1) hisR ?_
  intro p e s m args below meth c s₁ Bd hml0 hP hK
  obtain ⟨rfl, hZ, hh⟩ := hP
  have hx := Bd.exec
  have hby := Bd.bytes
  have hml : c.maxLocals = 15 := hml0
  have hown : s.vm.findClass "com/example/unfold/unfold/semantics/GateSetsOutsideHidePinLaw" = some m.cls := findClass_of_methodNamed Bd.named
  have hnm := (name_of_methodNamed Bd.named Bd.method).1
  have X0 : Stand p l e room_1 s m #[(.int p0), (.int p1), (.int p2), (.int p3)] below meth c s₁ [] 0 0 := Stand.of_body Bd
  have e0 : s₁.heap = h0 := by rw [← hh, Bd.state]; rfl
  have N0 := Fr.nil n0
  have K0 : Keep h0 h0 [] := Keep.refl _ _
  have pre0 : ∀ t, Steps p.tables e below (s₁.setTop (mkF m 0 #[.val (.int p0), .val (.int p1), .val (.int p2), .val (.int p3), .unset, .unset, .unset, .unset, .unset, .unset, .unset, .unset, .unset, .unset, .unset] [])) t → Steps p.tables e below (s₁.setTop (entryFrame m #[(.int p0), (.int p1), (.int p2), (.int p3)] maxLocals)) t := fun t k => castTop (own_ef_law m p0 p1 p2 p3) k
  have pre1 : ∀ t, Steps p.tables e below (s₁.setTop (mkF m 33 #[.val (.int p0), .val (.int p1), .val (.int p2), .val (.int p3), .val (.int (own_n p0)), .val (.int (own_e0 p1)), .val (.int (own_e1 p1 p2)), .val (.int (own_e2 p1 p2 p3)), .unset, .unset, .unset, .unset, .unset, .unset, .unset] [])) t → Steps p.tables e below (s₁.setTop (entryFrame m #[(.int p0), (.int p1), (.int p2), (.int p3)] maxLocals)) t := by
    intro t kt
    refine pre0 t ?_
    show Steps p.tables e below (s₁.setTop (mkF m 0 #[.val (.int p0), .val (.int p1), .val (.int p2), .val (.int p3), .unset, .unset, .unset, .unset, .unset, .unset, .unset, .unset, .unset, .unset, .unset] [])) _
    refine XS.iloadN X0.here hx rfl (hb hby at_0) rfl ?_
    show Steps p.tables e below (s₁.setTop (mkF m 1 #[.val (.int p0), .val (.int p1), .val (.int p2), .val (.int p3), .unset, .unset, .unset, .unset, .unset, .unset, .unset, .unset, .unset, .unset, .unset] [(.int p0)])) _
    refine XS.iconst X0.here hx rfl (hb hby at_1) ?_
    show Steps p.tables e below (s₁.setTop (mkF m 2 #[.val (.int p0), .val (.int p1), .val (.int p2), .val (.int p3), .unset, .unset, .unset, .unset, .unset, .unset, .unset, .unset, .unset, .unset, .unset] [(.int (3 : Int32)), (.int p0)])) _
    refine XS.iand X0.here hx rfl (hb hby at_2) rfl ?_
    show Steps p.tables e below (s₁.setTop (mkF m 3 #[.val (.int p0), .val (.int p1), .val (.int p2), .val (.int p3), .unset, .unset, .unset, .unset, .unset, .unset, .unset, .unset, .unset, .unset, .unset] [(.int (p0 &&& (3 : Int32)))])) _
    refine XS.istore X0.here hx rfl (hb hby at_3) rfl (l' := #[.val (.int p0), .val (.int p1), .val (.int p2), .val (.int p3), .val (.int (p0 &&& (3 : Int32))), .unset, .unset, .unset, .unset, .unset, .unset, .unset, .unset, .unset, .unset]) rfl ?_
    show Steps p.tables e below (s₁.setTop (mkF m 5 #[.val (.int p0), .val (.int p1), .val (.int p2), .val (.int p3), .val (.int (p0 &&& (3 : Int32))), .unset, .unset, .unset, .unset, .unset, .unset, .unset, .unset, .unset, .unset] [])) _
    refine XS.iloadN X0.here hx rfl (hb hby at_5) rfl ?_
    show Steps p.tables e below (s₁.setTop (mkF m 6 #[.val (.int p0), .val (.int p1), .val (.int p2), .val (.int p3), .val (.int (p0 &&& (3 : Int32))), .unset, .unset, .unset, .unset, .unset, .unset, .unset, .unset, .unset, .unset] [(.int p1)])) _
    refine X0.ldcI hx hown (mvT hZ (hw _ (List.mem_of_getElem? (i := 0) rfl))) (g := (mkF m 6 #[.val (.int p0), .val (.int p1), .val (.int p2), .val (.int p3), .val (.int (p0 &&& (3 : Int32))), .unset, .unset, .unset, .unset, .unset, .unset, .unset, .unset, .unset, .unset] [(.int p1)])) rfl (hb hby at_6) ?_
    show Steps p.tables e below (s₁.setTop (mkF m 8 #[.val (.int p0), .val (.int p1), .val (.int p2), .val (.int p3), .val (.int (p0 &&& (3 : Int32))), .unset, .unset, .unset, .unset, .unset, .unset, .unset, .unset, .unset, .unset] [(.int (1073741823 : Int32)), (.int p1)])) _
    refine XS.iand X0.here hx rfl (hb hby at_8) rfl ?_
    show Steps p.tables e below (s₁.setTop (mkF m 9 #[.val (.int p0), .val (.int p1), .val (.int p2), .val (.int p3), .val (.int (p0 &&& (3 : Int32))), .unset, .unset, .unset, .unset, .unset, .unset, .unset, .unset, .unset, .unset] [(.int (p1 &&& (1073741823 : Int32)))])) _
    refine XS.istore X0.here hx rfl (hb hby at_9) rfl (l' := #[.val (.int p0), .val (.int p1), .val (.int p2), .val (.int p3), .val (.int (p0 &&& (3 : Int32))), .val (.int (p1 &&& (1073741823 : Int32))), .unset, .unset, .unset, .unset, .unset, .unset, .unset, .unset, .unset]) rfl ?_
    show Steps p.tables e below (s₁.setTop (mkF m 11 #[.val (.int p0), .val (.int p1), .val (.int p2), .val (.int p3), .val (.int (p0 &&& (3 : Int32))), .val (.int (p1 &&& (1073741823 : Int32))), .unset, .unset, .unset, .unset, .unset, .unset, .unset, .unset, .unset] [])) _
    refine XS.iload X0.here hx rfl (hb hby at_11) rfl ?_
    show Steps p.tables e below (s₁.setTop (mkF m 13 #[.val (.int p0), .val (.int p1), .val (.int p2), .val (.int p3), .val (.int (p0 &&& (3 : Int32))), .val (.int (p1 &&& (1073741823 : Int32))), .unset, .unset, .unset, .unset, .unset, .unset, .unset, .unset, .unset] [(.int (p1 &&& (1073741823 : Int32)))])) _
    refine XS.iconst X0.here hx rfl (hb hby at_13) ?_
    show Steps p.tables e below (s₁.setTop (mkF m 14 #[.val (.int p0), .val (.int p1), .val (.int p2), .val (.int p3), .val (.int (p0 &&& (3 : Int32))), .val (.int (p1 &&& (1073741823 : Int32))), .unset, .unset, .unset, .unset, .unset, .unset, .unset, .unset, .unset] [(.int (1 : Int32)), (.int (p1 &&& (1073741823 : Int32)))])) _
    refine XS.iadd X0.here hx rfl (hb hby at_14) rfl ?_
    show Steps p.tables e below (s₁.setTop (mkF m 15 #[.val (.int p0), .val (.int p1), .val (.int p2), .val (.int p3), .val (.int (p0 &&& (3 : Int32))), .val (.int (p1 &&& (1073741823 : Int32))), .unset, .unset, .unset, .unset, .unset, .unset, .unset, .unset, .unset] [(.int ((p1 &&& (1073741823 : Int32)) + (1 : Int32)))])) _
    refine XS.iloadN X0.here hx rfl (hb hby at_15) rfl ?_
    show Steps p.tables e below (s₁.setTop (mkF m 16 #[.val (.int p0), .val (.int p1), .val (.int p2), .val (.int p3), .val (.int (p0 &&& (3 : Int32))), .val (.int (p1 &&& (1073741823 : Int32))), .unset, .unset, .unset, .unset, .unset, .unset, .unset, .unset, .unset] [(.int p2), (.int ((p1 &&& (1073741823 : Int32)) + (1 : Int32)))])) _
    refine X0.ldcI hx hown (mvT hZ (hw _ (List.mem_of_getElem? (i := 1) rfl))) (g := (mkF m 16 #[.val (.int p0), .val (.int p1), .val (.int p2), .val (.int p3), .val (.int (p0 &&& (3 : Int32))), .val (.int (p1 &&& (1073741823 : Int32))), .unset, .unset, .unset, .unset, .unset, .unset, .unset, .unset, .unset] [(.int p2), (.int ((p1 &&& (1073741823 : Int32)) + (1 : Int32)))])) rfl (hb hby at_16) ?_
    show Steps p.tables e below (s₁.setTop (mkF m 18 #[.val (.int p0), .val (.int p1), .val (.int p2), .val (.int p3), .val (.int (p0 &&& (3 : Int32))), .val (.int (p1 &&& (1073741823 : Int32))), .unset, .unset, .unset, .unset, .unset, .unset, .unset, .unset, .unset] [(.int (536870911 : Int32)), (.int p2), (.int ((p1 &&& (1073741823 : Int32)) + (1 : Int32)))])) _
    refine XS.iand X0.here hx rfl (hb hby at_18) rfl ?_
    show Steps p.tables e below (s₁.setTop (mkF m 19 #[.val (.int p0), .val (.int p1), .val (.int p2), .val (.int p3), .val (.int (p0 &&& (3 : Int32))), .val (.int (p1 &&& (1073741823 : Int32))), .unset, .unset, .unset, .unset, .unset, .unset, .unset, .unset, .unset] [(.int (p2 &&& (536870911 : Int32))), (.int ((p1 &&& (1073741823 : Int32)) + (1 : Int32)))])) _
    refine XS.iadd X0.here hx rfl (hb hby at_19) rfl ?_
    show Steps p.tables e below (s₁.setTop (mkF m 20 #[.val (.int p0), .val (.int p1), .val (.int p2), .val (.int p3), .val (.int (p0 &&& (3 : Int32))), .val (.int (p1 &&& (1073741823 : Int32))), .unset, .unset, .unset, .unset, .unset, .unset, .unset, .unset, .unset] [(.int (((p1 &&& (1073741823 : Int32)) + (1 : Int32)) + (p2 &&& (536870911 : Int32))))])) _
    refine XS.istore X0.here hx rfl (hb hby at_20) rfl (l' := #[.val (.int p0), .val (.int p1), .val (.int p2), .val (.int p3), .val (.int (p0 &&& (3 : Int32))), .val (.int (p1 &&& (1073741823 : Int32))), .val (.int (((p1 &&& (1073741823 : Int32)) + (1 : Int32)) + (p2 &&& (536870911 : Int32)))), .unset, .unset, .unset, .unset, .unset, .unset, .unset, .unset]) rfl ?_
    show Steps p.tables e below (s₁.setTop (mkF m 22 #[.val (.int p0), .val (.int p1), .val (.int p2), .val (.int p3), .val (.int (p0 &&& (3 : Int32))), .val (.int (p1 &&& (1073741823 : Int32))), .val (.int (((p1 &&& (1073741823 : Int32)) + (1 : Int32)) + (p2 &&& (536870911 : Int32)))), .unset, .unset, .unset, .unset, .unset, .unset, .unset, .unset] [])) _
    refine XS.iload X0.here hx rfl (hb hby at_22) rfl ?_
    show Steps p.tables e below (s₁.setTop (mkF m 24 #[.val (.int p0), .val (.int p1), .val (.int p2), .val (.int p3), .val (.int (p0 &&& (3 : Int32))), .val (.int (p1 &&& (1073741823 : Int32))), .val (.int (((p1 &&& (1073741823 : Int32)) + (1 : Int32)) + (p2 &&& (536870911 : Int32)))), .unset, .unset, .unset, .unset, .unset, .unset, .unset, .unset] [(.int (((p1 &&& (1073741823 : Int32)) + (1 : Int32)) + (p2 &&& (536870911 : Int32))))])) _
    refine XS.iconst X0.here hx rfl (hb hby at_24) ?_
    show Steps p.tables e below (s₁.setTop (mkF m 25 #[.val (.int p0), .val (.int p1), .val (.int p2), .val (.int p3), .val (.int (p0 &&& (3 : Int32))), .val (.int (p1 &&& (1073741823 : Int32))), .val (.int (((p1 &&& (1073741823 : Int32)) + (1 : Int32)) + (p2 &&& (536870911 : Int32)))), .unset, .unset, .unset, .unset, .unset, .unset, .unset, .unset] [(.int (1 : Int32)), (.int (((p1 &&& (1073741823 : Int32)) + (1 : Int32)) + (p2 &&& (536870911 : Int32))))])) _
    refine XS.iadd X0.here hx rfl (hb hby at_25) rfl ?_
    show Steps p.tables e below (s₁.setTop (mkF m 26 #[.val (.int p0), .val (.int p1), .val (.int p2), .val (.int p3), .val (.int (p0 &&& (3 : Int32))), .val (.int (p1 &&& (1073741823 : Int32))), .val (.int (((p1 &&& (1073741823 : Int32)) + (1 : Int32)) + (p2 &&& (536870911 : Int32)))), .unset, .unset, .unset, .unset, .unset, .unset, .unset, .unset] [(.int ((((p1 &&& (1073741823 : Int32)) + (1 : Int32)) + (p2 &&& (536870911 : Int32))) + (1 : Int32)))])) _
    refine XS.iloadN X0.here hx rfl (hb hby at_26) rfl ?_
    show Steps p.tables e below (s₁.setTop (mkF m 27 #[.val (.int p0), .val (.int p1), .val (.int p2), .val (.int p3), .val (.int (p0 &&& (3 : Int32))), .val (.int (p1 &&& (1073741823 : Int32))), .val (.int (((p1 &&& (1073741823 : Int32)) + (1 : Int32)) + (p2 &&& (536870911 : Int32)))), .unset, .unset, .unset, .unset, .unset, .unset, .unset, .unset] [(.int p3), (.int ((((p1 &&& (1073741823 : Int32)) + (1 : Int32)) + (p2 &&& (536870911 : Int32))) + (1 : Int32)))])) _
    refine X0.ldcI hx hown (mvT hZ (hw _ (List.mem_of_getElem? (i := 1) rfl))) (g := (mkF m 27 #[.val (.int p0), .val (.int p1), .val (.int p2), .val (.int p3), .val (.int (p0 &&& (3 : Int32))), .val (.int (p1 &&& (1073741823 : Int32))), .val (.int (((p1 &&& (1073741823 : Int32)) + (1 : Int32)) + (p2 &&& (536870911 : Int32)))), .unset, .unset, .unset, .unset, .unset, .unset, .unset, .unset] [(.int p3), (.int ((((p1 &&& (1073741823 : Int32)) + (1 : Int32)) + (p2 &&& (536870911 : Int32))) + (1 : Int32)))])) rfl (hb hby at_27) ?_
    show Steps p.tables e below (s₁.setTop (mkF m 29 #[.val (.int p0), .val (.int p1), .val (.int p2), .val (.int p3), .val (.int (p0 &&& (3 : Int32))), .val (.int (p1 &&& (1073741823 : Int32))), .val (.int (((p1 &&& (1073741823 : Int32)) + (1 : Int32)) + (p2 &&& (536870911 : Int32)))), .unset, .unset, .unset, .unset, .unset, .unset, .unset, .unset] [(.int (536870911 : Int32)), (.int p3), (.int ((((p1 &&& (1073741823 : Int32)) + (1 : Int32)) + (p2 &&& (536870911 : Int32))) + (1 : Int32)))])) _
    refine XS.iand X0.here hx rfl (hb hby at_29) rfl ?_
    show Steps p.tables e below (s₁.setTop (mkF m 30 #[.val (.int p0), .val (.int p1), .val (.int p2), .val (.int p3), .val (.int (p0 &&& (3 : Int32))), .val (.int (p1 &&& (1073741823 : Int32))), .val (.int (((p1 &&& (1073741823 : Int32)) + (1 : Int32)) + (p2 &&& (536870911 : Int32)))), .unset, .unset, .unset, .unset, .unset, .unset, .unset, .unset] [(.int (p3 &&& (536870911 : Int32))), (.int ((((p1 &&& (1073741823 : Int32)) + (1 : Int32)) + (p2 &&& (536870911 : Int32))) + (1 : Int32)))])) _
    refine XS.iadd X0.here hx rfl (hb hby at_30) rfl ?_
    show Steps p.tables e below (s₁.setTop (mkF m 31 #[.val (.int p0), .val (.int p1), .val (.int p2), .val (.int p3), .val (.int (p0 &&& (3 : Int32))), .val (.int (p1 &&& (1073741823 : Int32))), .val (.int (((p1 &&& (1073741823 : Int32)) + (1 : Int32)) + (p2 &&& (536870911 : Int32)))), .unset, .unset, .unset, .unset, .unset, .unset, .unset, .unset] [(.int (((((p1 &&& (1073741823 : Int32)) + (1 : Int32)) + (p2 &&& (536870911 : Int32))) + (1 : Int32)) + (p3 &&& (536870911 : Int32))))])) _
    refine XS.istore X0.here hx rfl (hb hby at_31) rfl (l' := #[.val (.int p0), .val (.int p1), .val (.int p2), .val (.int p3), .val (.int (p0 &&& (3 : Int32))), .val (.int (p1 &&& (1073741823 : Int32))), .val (.int (((p1 &&& (1073741823 : Int32)) + (1 : Int32)) + (p2 &&& (536870911 : Int32)))), .val (.int (((((p1 &&& (1073741823 : Int32)) + (1 : Int32)) + (p2 &&& (536870911 : Int32))) + (1 : Int32)) + (p3 &&& (536870911 : Int32)))), .unset, .unset, .unset, .unset, .unset, .unset, .unset]) rfl ?_
    show Steps p.tables e below (s₁.setTop (mkF m 33 #[.val (.int p0), .val (.int p1), .val (.int p2), .val (.int p3), .val (.int (p0 &&& (3 : Int32))), .val (.int (p1 &&& (1073741823 : Int32))), .val (.int (((p1 &&& (1073741823 : Int32)) + (1 : Int32)) + (p2 &&& (536870911 : Int32)))), .val (.int (((((p1 &&& (1073741823 : Int32)) + (1 : Int32)) + (p2 &&& (536870911 : Int32))) + (1 : Int32)) + (p3 &&& (536870911 : Int32)))), .unset, .unset, .unset, .unset, .unset, .unset, .unset] [])) _
    exact kt
  rcases own_nc p0 with hn0 | hn1 | hn2 | hn3
  · have pre2 : ∀ t, Steps p.tables e below (s₁.setTop (mkF m 33 #[.val (.int p0), .val (.int p1), .val (.int p2), .val (.int p3), .val (.int (0 : Int32)), .val (.int (own_e0 p1)), .val (.int (own_e1 p1 p2)), .val (.int (own_e2 p1 p2 p3)), .unset, .unset, .unset, .unset, .unset, .unset, .unset] [])) t → Steps p.tables e below (s₁.setTop (entryFrame m #[(.int p0), (.int p1), (.int p2), (.int p3)] maxLocals)) t := by
      intro t kt
      refine pre1 t ?_
      rw [hn0]
      exact kt
    obtain ⟨T3, h3, k3, X3, e3, E3, A3, I3, st3⟩ := newPE X0 hx hZ (hw _ (List.mem_of_getElem? (i := 2) rfl)) e0 (g := (mkF m 39 #[.val (.int p0), .val (.int p1), .val (.int p2), .val (.int p3), .val (.int (0 : Int32)), .val (.int (own_e0 p1)), .val (.int (own_e1 p1 p2)), .val (.int (own_e2 p1 p2 p3)), .unset, .unset, .unset, .unset, .unset, .unset, .unset] [(.int (0 : Int32))])) rfl (hb hby at_39) rfl (by decide) (cap := 0) (by decide) (by decide) (by decide) (by decide) (ad := "[I") rfl
    obtain ⟨b3, g3⟩ : ∃ z, z = h0.size := ⟨_, rfl⟩
    rw [← g3] at A3 I3 st3
    have sz_b3 : h0.size ≤ b3 := Nat.le_trans K0.1 (Nat.le_of_eq g3.symm)
    have gn_b3 : n0 ≤ b3 := Nat.le_trans Z0 sz_b3
    have ne_aS_b3 : aS ≠ b3 := Nat.ne_of_lt (Nat.lt_of_lt_of_le AS.lt (Nat.le_of_eq g3.symm))
    have f4 := S0.ext E3
    have f5 := AS.ext E3
    have k6 := K0.ext E3
    have f7 : own_A Z h3 b3 0 own_v0 := (own_A.new A3 rfl).congr (fun j hj => by rcases j with j <;> first | rfl | (simp [own_upd]; done) | omega)
    obtain ⟨T8, h8, k8, X8, e8, E8, A8, I8, st8⟩ := newPE X3 hx hZ (hw _ (List.mem_of_getElem? (i := 2) rfl)) e3 (g := (mkF m 110 #[.val (.int p0), .val (.int p1), .val (.int p2), .val (.int p3), .val (.int (0 : Int32)), .val (.int (own_e0 p1)), .val (.int (own_e1 p1 p2)), .val (.int (own_e2 p1 p2 p3)), .val (.ref b3), .unset, .unset, .unset, .unset, .unset, .unset] [(.int (3 : Int32))])) rfl (hb hby at_110) rfl (by decide) (cap := 3) (by decide) (by decide) (by decide) (by decide) (ad := "[I") rfl
    obtain ⟨b8, g8⟩ : ∃ z, z = h3.size := ⟨_, rfl⟩
    rw [← g8] at A8 I8 st8
    have sz_b8 : h0.size ≤ b8 := Nat.le_trans k6.1 (Nat.le_of_eq g8.symm)
    have gn_b8 : n0 ≤ b8 := Nat.le_trans Z0 sz_b8
    have ne_aS_b8 : aS ≠ b8 := Nat.ne_of_lt (Nat.lt_of_lt_of_le f5.lt (Nat.le_of_eq g8.symm))
    have ne_b3_b8 : b3 ≠ b8 := Nat.ne_of_lt (Nat.lt_of_lt_of_le f7.lt (Nat.le_of_eq g8.symm))
    have f9 := f4.ext E8
    have f10 := f5.ext E8
    have f11 := I3.ext E8
    have f12 := f7.ext E8
    have k13 := k6.ext E8
    have f14 : own_A Z h8 b8 3 (own_v3 (0 : Int32) (0 : Int32) (0 : Int32)) := (own_A.new A8 rfl).congr (fun j hj => by rcases j with _ | _ | _ | j <;> first | rfl | (simp [own_upd]; done) | omega)
    obtain ⟨cl15, Ar15, S15, H15⟩ := id f14
    have hin15 : ¬ ((0 : Int32) < 0 ∨ cl15.slots.size ≤ ((0 : Int32)).toNatClampNeg) := own_inb S15 (by decide) (by decide)
    obtain ⟨T16, h16, X16, e16, W16, st16⟩ := stI X8 hx hZ e8 Ar15 (j := (0 : Int32)) hin15 (g := (mkF m 116 #[.val (.int p0), .val (.int p1), .val (.int p2), .val (.int p3), .val (.int (0 : Int32)), .val (.int (own_e0 p1)), .val (.int (own_e1 p1 p2)), .val (.int (own_e2 p1 p2 p3)), .val (.ref b3), .unset, .unset, .unset, .unset, .unset, .unset] [(.int (own_e0 p1)), (.int (0 : Int32)), (.ref b8), (.ref b8)])) rfl rfl (hb hby at_116)
    have f17 := f9.wr W16
    have f18 := f10.other W16 ne_aS_b8
    have f19 := f11.wr W16
    have f20 := f12.other W16 ne_b3_b8
    have f21 := I8.wr W16
    have k23 := k13.wr W16 (Or.inr sz_b8)
    have nf24 := Fr.snoc X16 N0 gn_b8
    have f25 := f14.set W16
    have f26 : own_A Z h16 b8 3 (own_v3 (own_e0 p1) (0 : Int32) (0 : Int32)) := f25.congr (fun j hj => by rcases j with _ | _ | _ | j <;> first | rfl | (simp [own_upd]; done) | omega)
    obtain ⟨cl27, Ar27, S27, H27⟩ := id f26
    have hin27 : ¬ ((1 : Int32) < 0 ∨ cl27.slots.size ≤ ((1 : Int32)).toNatClampNeg) := own_inb S27 (by decide) (by decide)
    obtain ⟨T28, h28, X28, e28, W28, st28⟩ := stI X16 hx hZ e16 Ar27 (j := (1 : Int32)) hin27 (g := (mkF m 121 #[.val (.int p0), .val (.int p1), .val (.int p2), .val (.int p3), .val (.int (0 : Int32)), .val (.int (own_e0 p1)), .val (.int (own_e1 p1 p2)), .val (.int (own_e2 p1 p2 p3)), .val (.ref b3), .unset, .unset, .unset, .unset, .unset, .unset] [(.int (own_e1 p1 p2)), (.int (1 : Int32)), (.ref b8), (.ref b8)])) rfl rfl (hb hby at_121)
    have f29 := f17.wr W28
    have f30 := f18.other W28 ne_aS_b8
    have f31 := f19.wr W28
    have f32 := f20.other W28 ne_b3_b8
    have f33 := f21.wr W28
    have k35 := k23.wr W28 (Or.inr sz_b8)
    have nf36 := Fr.snoc X28 nf24 gn_b8
    have f37 := f26.set W28
    have f38 : own_A Z h28 b8 3 (own_v3 (own_e0 p1) (own_e1 p1 p2) (0 : Int32)) := f37.congr (fun j hj => by rcases j with _ | _ | _ | j <;> first | rfl | (simp [own_upd]; done) | omega)
    obtain ⟨cl39, Ar39, S39, H39⟩ := id f38
    have hin39 : ¬ ((2 : Int32) < 0 ∨ cl39.slots.size ≤ ((2 : Int32)).toNatClampNeg) := own_inb S39 (by decide) (by decide)
    obtain ⟨T40, h40, X40, e40, W40, st40⟩ := stI X28 hx hZ e28 Ar39 (j := (2 : Int32)) hin39 (g := (mkF m 126 #[.val (.int p0), .val (.int p1), .val (.int p2), .val (.int p3), .val (.int (0 : Int32)), .val (.int (own_e0 p1)), .val (.int (own_e1 p1 p2)), .val (.int (own_e2 p1 p2 p3)), .val (.ref b3), .unset, .unset, .unset, .unset, .unset, .unset] [(.int (own_e2 p1 p2 p3)), (.int (2 : Int32)), (.ref b8), (.ref b8)])) rfl rfl (hb hby at_126)
    have f41 := f29.wr W40
    have f42 := f30.other W40 ne_aS_b8
    have f43 := f31.wr W40
    have f44 := f32.other W40 ne_b3_b8
    have f45 := f33.wr W40
    have k47 := k35.wr W40 (Or.inr sz_b8)
    have nf48 := Fr.snoc X40 nf36 gn_b8
    have f49 := f38.set W40
    have f50 : own_A Z h40 b8 3 (own_v3 (own_e0 p1) (own_e1 p1 p2) (own_e2 p1 p2 p3)) := f49.congr (fun j hj => by rcases j with _ | _ | _ | j <;> first | rfl | (simp [own_upd]; done) | omega)
    have zs51 : n0 ≤ h40.size := Nat.le_trans Z0 k47.1
    obtain ⟨_, _, ⟨T52, L52, k52, n52⟩, -, X52, ⟨Lc52, hQ52, l52, y52, z52⟩, st52⟩ := Jvm.LawKit.callS X40 hx (y := (⟨"com/example/unfold/unfold/semantics/GateSets", "outsideHide", "([I)[I"⟩ : MethodName)) hown (mvT hZ (hw _ (List.mem_of_getElem? (i := 3) rfl))) (mvT hZ (hw _ (List.mem_of_getElem? (i := 4) rfl))) (mvT hZ (hw _ (List.mem_of_getElem? (i := 5) rfl))) (mvT hZ (hw _ (List.mem_of_getElem? (i := 6) rfl))) (by decide) (backOf (W := 0) (own_rm_oh0n l Z a0 hw [] b3 aS h40 n0 zs51 f44 f41) hZ (hw _ (List.mem_of_getElem? (i := 6) rfl)) (hw _ (List.mem_of_getElem? (i := 5) rfl)) (by decide) (by decide)) (g := (mkF m 131 #[.val (.int p0), .val (.int p1), .val (.int p2), .val (.int p3), .val (.int (0 : Int32)), .val (.int (own_e0 p1)), .val (.int (own_e1 p1 p2)), .val (.int (own_e2 p1 p2 p3)), .val (.ref b3), .val (.ref b8), .unset, .unset, .unset, .unset, .unset] [(.ref b3)])) rfl (by rw [hml]; rfl) (argsL := [(.ref b3)]) (rest := []) (lenOf own_pd0 rfl) rfl (by show 2 * 0 + _ ≤ _; exact Nat.le_of_eq rfl) (hb hby at_131) (fun _ _ => ⟨rfl, e40, (by decide : 2 + 1 ≤ _), (by decide : 3 + 0 ≤ _)⟩)
    dsimp only [Pt.U, Pt.locs, Pt.cells, Pt.slots] at X52 l52 y52 z52 st52 hQ52
    subst l52 y52 z52
    obtain ⟨rfl, N53, K53⟩ := hQ52
    have f54 := own_sta_keep f41 K53 all0
    have f55 := f42.keep K53 nin0
    have f56 := f43.keep K53
    have f57 := f44.keep K53 nin0
    have f58 := f45.keep K53
    have f59 := f50.keep K53 nin0
    have k60 := k47.trans K53 all0
    have nf61 := Fr.app nf48 N53
    obtain ⟨cl62, Ar62, S62, -⟩ := id f57
    obtain ⟨cl63, Ar63, S63, -⟩ := id f55
    have pre64 : ∀ t, Steps p.tables e below (T52.setTop (mkF m 383 #[.val (.int p0), .val (.int p1), .val (.int p2), .val (.int p3), .val (.int (0 : Int32)), .val (.int (own_e0 p1)), .val (.int (own_e1 p1 p2)), .val (.int (own_e2 p1 p2 p3)), .val (.ref b3), .val (.ref b8), .val (.ref aS), .val (.int (1 : Int32)), .val (.int (0 : Int32)), .val (.int (0 : Int32)), .val (.int (0 : Int32))] [(.int (1 : Int32))])) t → Steps p.tables e below (s₁.setTop (entryFrame m #[(.int p0), (.int p1), (.int p2), (.int p3)] maxLocals)) t := by
      intro t kt
      refine pre2 t ?_
      show Steps p.tables e below (s₁.setTop (mkF m 33 #[.val (.int p0), .val (.int p1), .val (.int p2), .val (.int p3), .val (.int (0 : Int32)), .val (.int (own_e0 p1)), .val (.int (own_e1 p1 p2)), .val (.int (own_e2 p1 p2 p3)), .unset, .unset, .unset, .unset, .unset, .unset, .unset] [])) _
      refine XS.iload X0.here hx rfl (hb hby at_33) rfl ?_
      show Steps p.tables e below (s₁.setTop (mkF m 35 #[.val (.int p0), .val (.int p1), .val (.int p2), .val (.int p3), .val (.int (0 : Int32)), .val (.int (own_e0 p1)), .val (.int (own_e1 p1 p2)), .val (.int (own_e2 p1 p2 p3)), .unset, .unset, .unset, .unset, .unset, .unset, .unset] [(.int (0 : Int32))])) _
      refine XS.ifNo X0.here hx rfl (hb hby at_35) rfl ((if0 _ _).trans (teq (rfl : (0 : Int32) = (0 : Int32))).2) ?_
      show Steps p.tables e below (s₁.setTop (mkF m 38 #[.val (.int p0), .val (.int p1), .val (.int p2), .val (.int p3), .val (.int (0 : Int32)), .val (.int (own_e0 p1)), .val (.int (own_e1 p1 p2)), .val (.int (own_e2 p1 p2 p3)), .unset, .unset, .unset, .unset, .unset, .unset, .unset] [])) _
      refine XS.iconst X0.here hx rfl (hb hby at_38) ?_
      show Steps p.tables e below (s₁.setTop (mkF m 39 #[.val (.int p0), .val (.int p1), .val (.int p2), .val (.int p3), .val (.int (0 : Int32)), .val (.int (own_e0 p1)), .val (.int (own_e1 p1 p2)), .val (.int (own_e2 p1 p2 p3)), .unset, .unset, .unset, .unset, .unset, .unset, .unset] [(.int (0 : Int32))])) _
      refine st3 _ ?_
      show Steps p.tables e below (T3.setTop (mkF m 41 #[.val (.int p0), .val (.int p1), .val (.int p2), .val (.int p3), .val (.int (0 : Int32)), .val (.int (own_e0 p1)), .val (.int (own_e1 p1 p2)), .val (.int (own_e2 p1 p2 p3)), .unset, .unset, .unset, .unset, .unset, .unset, .unset] [(.ref b3)])) _
      refine XS.astore X3.here hx rfl (hb hby at_41) rfl rfl (l' := #[.val (.int p0), .val (.int p1), .val (.int p2), .val (.int p3), .val (.int (0 : Int32)), .val (.int (own_e0 p1)), .val (.int (own_e1 p1 p2)), .val (.int (own_e2 p1 p2 p3)), .val (.ref b3), .unset, .unset, .unset, .unset, .unset, .unset]) rfl ?_
      show Steps p.tables e below (T3.setTop (mkF m 43 #[.val (.int p0), .val (.int p1), .val (.int p2), .val (.int p3), .val (.int (0 : Int32)), .val (.int (own_e0 p1)), .val (.int (own_e1 p1 p2)), .val (.int (own_e2 p1 p2 p3)), .val (.ref b3), .unset, .unset, .unset, .unset, .unset, .unset] [])) _
      refine XS.goto X3.here hx rfl (pc0 := 43) (pc' := 109) rfl (hb hby at_43) (by decide) (by decide) ?_
      show Steps p.tables e below (T3.setTop (mkF m 109 #[.val (.int p0), .val (.int p1), .val (.int p2), .val (.int p3), .val (.int (0 : Int32)), .val (.int (own_e0 p1)), .val (.int (own_e1 p1 p2)), .val (.int (own_e2 p1 p2 p3)), .val (.ref b3), .unset, .unset, .unset, .unset, .unset, .unset] [])) _
      refine XS.iconst X3.here hx rfl (hb hby at_109) ?_
      show Steps p.tables e below (T3.setTop (mkF m 110 #[.val (.int p0), .val (.int p1), .val (.int p2), .val (.int p3), .val (.int (0 : Int32)), .val (.int (own_e0 p1)), .val (.int (own_e1 p1 p2)), .val (.int (own_e2 p1 p2 p3)), .val (.ref b3), .unset, .unset, .unset, .unset, .unset, .unset] [(.int (3 : Int32))])) _
      refine st8 _ ?_
      show Steps p.tables e below (T8.setTop (mkF m 112 #[.val (.int p0), .val (.int p1), .val (.int p2), .val (.int p3), .val (.int (0 : Int32)), .val (.int (own_e0 p1)), .val (.int (own_e1 p1 p2)), .val (.int (own_e2 p1 p2 p3)), .val (.ref b3), .unset, .unset, .unset, .unset, .unset, .unset] [(.ref b8)])) _
      refine XS.dup X8.here hx rfl (hb hby at_112) rfl rfl ?_
      show Steps p.tables e below (T8.setTop (mkF m 113 #[.val (.int p0), .val (.int p1), .val (.int p2), .val (.int p3), .val (.int (0 : Int32)), .val (.int (own_e0 p1)), .val (.int (own_e1 p1 p2)), .val (.int (own_e2 p1 p2 p3)), .val (.ref b3), .unset, .unset, .unset, .unset, .unset, .unset] [(.ref b8), (.ref b8)])) _
      refine XS.iconst X8.here hx rfl (hb hby at_113) ?_
      show Steps p.tables e below (T8.setTop (mkF m 114 #[.val (.int p0), .val (.int p1), .val (.int p2), .val (.int p3), .val (.int (0 : Int32)), .val (.int (own_e0 p1)), .val (.int (own_e1 p1 p2)), .val (.int (own_e2 p1 p2 p3)), .val (.ref b3), .unset, .unset, .unset, .unset, .unset, .unset] [(.int (0 : Int32)), (.ref b8), (.ref b8)])) _
      refine XS.iload X8.here hx rfl (hb hby at_114) rfl ?_
      show Steps p.tables e below (T8.setTop (mkF m 116 #[.val (.int p0), .val (.int p1), .val (.int p2), .val (.int p3), .val (.int (0 : Int32)), .val (.int (own_e0 p1)), .val (.int (own_e1 p1 p2)), .val (.int (own_e2 p1 p2 p3)), .val (.ref b3), .unset, .unset, .unset, .unset, .unset, .unset] [(.int (own_e0 p1)), (.int (0 : Int32)), (.ref b8), (.ref b8)])) _
      refine st16 _ ?_
      show Steps p.tables e below (T16.setTop (mkF m 117 #[.val (.int p0), .val (.int p1), .val (.int p2), .val (.int p3), .val (.int (0 : Int32)), .val (.int (own_e0 p1)), .val (.int (own_e1 p1 p2)), .val (.int (own_e2 p1 p2 p3)), .val (.ref b3), .unset, .unset, .unset, .unset, .unset, .unset] [(.ref b8)])) _
      refine XS.dup X16.here hx rfl (hb hby at_117) rfl rfl ?_
      show Steps p.tables e below (T16.setTop (mkF m 118 #[.val (.int p0), .val (.int p1), .val (.int p2), .val (.int p3), .val (.int (0 : Int32)), .val (.int (own_e0 p1)), .val (.int (own_e1 p1 p2)), .val (.int (own_e2 p1 p2 p3)), .val (.ref b3), .unset, .unset, .unset, .unset, .unset, .unset] [(.ref b8), (.ref b8)])) _
      refine XS.iconst X16.here hx rfl (hb hby at_118) ?_
      show Steps p.tables e below (T16.setTop (mkF m 119 #[.val (.int p0), .val (.int p1), .val (.int p2), .val (.int p3), .val (.int (0 : Int32)), .val (.int (own_e0 p1)), .val (.int (own_e1 p1 p2)), .val (.int (own_e2 p1 p2 p3)), .val (.ref b3), .unset, .unset, .unset, .unset, .unset, .unset] [(.int (1 : Int32)), (.ref b8), (.ref b8)])) _
      refine XS.iload X16.here hx rfl (hb hby at_119) rfl ?_
      show Steps p.tables e below (T16.setTop (mkF m 121 #[.val (.int p0), .val (.int p1), .val (.int p2), .val (.int p3), .val (.int (0 : Int32)), .val (.int (own_e0 p1)), .val (.int (own_e1 p1 p2)), .val (.int (own_e2 p1 p2 p3)), .val (.ref b3), .unset, .unset, .unset, .unset, .unset, .unset] [(.int (own_e1 p1 p2)), (.int (1 : Int32)), (.ref b8), (.ref b8)])) _
      refine st28 _ ?_
      show Steps p.tables e below (T28.setTop (mkF m 122 #[.val (.int p0), .val (.int p1), .val (.int p2), .val (.int p3), .val (.int (0 : Int32)), .val (.int (own_e0 p1)), .val (.int (own_e1 p1 p2)), .val (.int (own_e2 p1 p2 p3)), .val (.ref b3), .unset, .unset, .unset, .unset, .unset, .unset] [(.ref b8)])) _
      refine XS.dup X28.here hx rfl (hb hby at_122) rfl rfl ?_
      show Steps p.tables e below (T28.setTop (mkF m 123 #[.val (.int p0), .val (.int p1), .val (.int p2), .val (.int p3), .val (.int (0 : Int32)), .val (.int (own_e0 p1)), .val (.int (own_e1 p1 p2)), .val (.int (own_e2 p1 p2 p3)), .val (.ref b3), .unset, .unset, .unset, .unset, .unset, .unset] [(.ref b8), (.ref b8)])) _
      refine XS.iconst X28.here hx rfl (hb hby at_123) ?_
      show Steps p.tables e below (T28.setTop (mkF m 124 #[.val (.int p0), .val (.int p1), .val (.int p2), .val (.int p3), .val (.int (0 : Int32)), .val (.int (own_e0 p1)), .val (.int (own_e1 p1 p2)), .val (.int (own_e2 p1 p2 p3)), .val (.ref b3), .unset, .unset, .unset, .unset, .unset, .unset] [(.int (2 : Int32)), (.ref b8), (.ref b8)])) _
      refine XS.iload X28.here hx rfl (hb hby at_124) rfl ?_
      show Steps p.tables e below (T28.setTop (mkF m 126 #[.val (.int p0), .val (.int p1), .val (.int p2), .val (.int p3), .val (.int (0 : Int32)), .val (.int (own_e0 p1)), .val (.int (own_e1 p1 p2)), .val (.int (own_e2 p1 p2 p3)), .val (.ref b3), .unset, .unset, .unset, .unset, .unset, .unset] [(.int (own_e2 p1 p2 p3)), (.int (2 : Int32)), (.ref b8), (.ref b8)])) _
      refine st40 _ ?_
      show Steps p.tables e below (T40.setTop (mkF m 127 #[.val (.int p0), .val (.int p1), .val (.int p2), .val (.int p3), .val (.int (0 : Int32)), .val (.int (own_e0 p1)), .val (.int (own_e1 p1 p2)), .val (.int (own_e2 p1 p2 p3)), .val (.ref b3), .unset, .unset, .unset, .unset, .unset, .unset] [(.ref b8)])) _
      refine XS.astore X40.here hx rfl (hb hby at_127) rfl rfl (l' := #[.val (.int p0), .val (.int p1), .val (.int p2), .val (.int p3), .val (.int (0 : Int32)), .val (.int (own_e0 p1)), .val (.int (own_e1 p1 p2)), .val (.int (own_e2 p1 p2 p3)), .val (.ref b3), .val (.ref b8), .unset, .unset, .unset, .unset, .unset]) rfl ?_
      show Steps p.tables e below (T40.setTop (mkF m 129 #[.val (.int p0), .val (.int p1), .val (.int p2), .val (.int p3), .val (.int (0 : Int32)), .val (.int (own_e0 p1)), .val (.int (own_e1 p1 p2)), .val (.int (own_e2 p1 p2 p3)), .val (.ref b3), .val (.ref b8), .unset, .unset, .unset, .unset, .unset] [])) _
      refine XS.aload X40.here hx rfl (hb hby at_129) rfl rfl ?_
      show Steps p.tables e below (T40.setTop (mkF m 131 #[.val (.int p0), .val (.int p1), .val (.int p2), .val (.int p3), .val (.int (0 : Int32)), .val (.int (own_e0 p1)), .val (.int (own_e1 p1 p2)), .val (.int (own_e2 p1 p2 p3)), .val (.ref b3), .val (.ref b8), .unset, .unset, .unset, .unset, .unset] [(.ref b3)])) _
      refine st52 _ ?_
      show Steps p.tables e below (T52.setTop (mkF m 134 #[.val (.int p0), .val (.int p1), .val (.int p2), .val (.int p3), .val (.int (0 : Int32)), .val (.int (own_e0 p1)), .val (.int (own_e1 p1 p2)), .val (.int (own_e2 p1 p2 p3)), .val (.ref b3), .val (.ref b8), .unset, .unset, .unset, .unset, .unset] [(.ref aS)])) _
      refine XS.astore X52.here hx rfl (hb hby at_134) rfl rfl (l' := #[.val (.int p0), .val (.int p1), .val (.int p2), .val (.int p3), .val (.int (0 : Int32)), .val (.int (own_e0 p1)), .val (.int (own_e1 p1 p2)), .val (.int (own_e2 p1 p2 p3)), .val (.ref b3), .val (.ref b8), .val (.ref aS), .unset, .unset, .unset, .unset]) rfl ?_
      show Steps p.tables e below (T52.setTop (mkF m 136 #[.val (.int p0), .val (.int p1), .val (.int p2), .val (.int p3), .val (.int (0 : Int32)), .val (.int (own_e0 p1)), .val (.int (own_e1 p1 p2)), .val (.int (own_e2 p1 p2 p3)), .val (.ref b3), .val (.ref b8), .val (.ref aS), .unset, .unset, .unset, .unset] [])) _
      refine XS.aload X52.here hx rfl (hb hby at_136) rfl rfl ?_
      show Steps p.tables e below (T52.setTop (mkF m 138 #[.val (.int p0), .val (.int p1), .val (.int p2), .val (.int p3), .val (.int (0 : Int32)), .val (.int (own_e0 p1)), .val (.int (own_e1 p1 p2)), .val (.int (own_e2 p1 p2 p3)), .val (.ref b3), .val (.ref b8), .val (.ref aS), .unset, .unset, .unset, .unset] [(.ref b3)])) _
      refine X52.arraylength hx Ar62.1 (State.isArrayOf_alike hZ.alike Ar62.2.1) (g := (mkF m 138 #[.val (.int p0), .val (.int p1), .val (.int p2), .val (.int p3), .val (.int (0 : Int32)), .val (.int (own_e0 p1)), .val (.int (own_e1 p1 p2)), .val (.int (own_e2 p1 p2 p3)), .val (.ref b3), .val (.ref b8), .val (.ref aS), .unset, .unset, .unset, .unset] [(.ref b3)])) rfl rfl (hb hby at_138) _ ?_
      rw [own_len (z := (0 : Int32)) S62 rfl]
      show Steps p.tables e below (T52.setTop (mkF m 139 #[.val (.int p0), .val (.int p1), .val (.int p2), .val (.int p3), .val (.int (0 : Int32)), .val (.int (own_e0 p1)), .val (.int (own_e1 p1 p2)), .val (.int (own_e2 p1 p2 p3)), .val (.ref b3), .val (.ref b8), .val (.ref aS), .unset, .unset, .unset, .unset] [(.int (0 : Int32))])) _
      refine XS.iload X52.here hx rfl (hb hby at_139) rfl ?_
      show Steps p.tables e below (T52.setTop (mkF m 141 #[.val (.int p0), .val (.int p1), .val (.int p2), .val (.int p3), .val (.int (0 : Int32)), .val (.int (own_e0 p1)), .val (.int (own_e1 p1 p2)), .val (.int (own_e2 p1 p2 p3)), .val (.ref b3), .val (.ref b8), .val (.ref aS), .unset, .unset, .unset, .unset] [(.int (0 : Int32)), (.int (0 : Int32))])) _
      refine XS.icmpNo X52.here hx rfl (hb hby at_141) rfl (teq (rfl : (0 : Int32) = (0 : Int32))).2 ?_
      show Steps p.tables e below (T52.setTop (mkF m 144 #[.val (.int p0), .val (.int p1), .val (.int p2), .val (.int p3), .val (.int (0 : Int32)), .val (.int (own_e0 p1)), .val (.int (own_e1 p1 p2)), .val (.int (own_e2 p1 p2 p3)), .val (.ref b3), .val (.ref b8), .val (.ref aS), .unset, .unset, .unset, .unset] [])) _
      refine XS.iconst X52.here hx rfl (hb hby at_144) ?_
      show Steps p.tables e below (T52.setTop (mkF m 145 #[.val (.int p0), .val (.int p1), .val (.int p2), .val (.int p3), .val (.int (0 : Int32)), .val (.int (own_e0 p1)), .val (.int (own_e1 p1 p2)), .val (.int (own_e2 p1 p2 p3)), .val (.ref b3), .val (.ref b8), .val (.ref aS), .unset, .unset, .unset, .unset] [(.int (1 : Int32))])) _
      refine XS.goto X52.here hx rfl (pc0 := 145) (pc' := 149) rfl (hb hby at_145) (by decide) (by decide) ?_
      show Steps p.tables e below (T52.setTop (mkF m 149 #[.val (.int p0), .val (.int p1), .val (.int p2), .val (.int p3), .val (.int (0 : Int32)), .val (.int (own_e0 p1)), .val (.int (own_e1 p1 p2)), .val (.int (own_e2 p1 p2 p3)), .val (.ref b3), .val (.ref b8), .val (.ref aS), .unset, .unset, .unset, .unset] [(.int (1 : Int32))])) _
      refine XS.istore X52.here hx rfl (hb hby at_149) rfl (l' := #[.val (.int p0), .val (.int p1), .val (.int p2), .val (.int p3), .val (.int (0 : Int32)), .val (.int (own_e0 p1)), .val (.int (own_e1 p1 p2)), .val (.int (own_e2 p1 p2 p3)), .val (.ref b3), .val (.ref b8), .val (.ref aS), .val (.int (1 : Int32)), .unset, .unset, .unset]) rfl ?_
      show Steps p.tables e below (T52.setTop (mkF m 151 #[.val (.int p0), .val (.int p1), .val (.int p2), .val (.int p3), .val (.int (0 : Int32)), .val (.int (own_e0 p1)), .val (.int (own_e1 p1 p2)), .val (.int (own_e2 p1 p2 p3)), .val (.ref b3), .val (.ref b8), .val (.ref aS), .val (.int (1 : Int32)), .unset, .unset, .unset] [])) _
      refine XS.iload X52.here hx rfl (hb hby at_151) rfl ?_
      show Steps p.tables e below (T52.setTop (mkF m 153 #[.val (.int p0), .val (.int p1), .val (.int p2), .val (.int p3), .val (.int (0 : Int32)), .val (.int (own_e0 p1)), .val (.int (own_e1 p1 p2)), .val (.int (own_e2 p1 p2 p3)), .val (.ref b3), .val (.ref b8), .val (.ref aS), .val (.int (1 : Int32)), .unset, .unset, .unset] [(.int (0 : Int32))])) _
      refine XS.ifYes X52.here hx rfl (pc0 := 153) (pc' := 177) rfl (hb hby at_153) rfl ((if0 _ _).trans (flt (by decide : ¬ ((0 : Int32) < (0 : Int32)))).2.2.2) (by decide) (by decide) ?_
      show Steps p.tables e below (T52.setTop (mkF m 177 #[.val (.int p0), .val (.int p1), .val (.int p2), .val (.int p3), .val (.int (0 : Int32)), .val (.int (own_e0 p1)), .val (.int (own_e1 p1 p2)), .val (.int (own_e2 p1 p2 p3)), .val (.ref b3), .val (.ref b8), .val (.ref aS), .val (.int (1 : Int32)), .unset, .unset, .unset] [])) _
      refine XS.iload X52.here hx rfl (hb hby at_177) rfl ?_
      show Steps p.tables e below (T52.setTop (mkF m 179 #[.val (.int p0), .val (.int p1), .val (.int p2), .val (.int p3), .val (.int (0 : Int32)), .val (.int (own_e0 p1)), .val (.int (own_e1 p1 p2)), .val (.int (own_e2 p1 p2 p3)), .val (.ref b3), .val (.ref b8), .val (.ref aS), .val (.int (1 : Int32)), .unset, .unset, .unset] [(.int (0 : Int32))])) _
      refine XS.iconst X52.here hx rfl (hb hby at_179) ?_
      show Steps p.tables e below (T52.setTop (mkF m 180 #[.val (.int p0), .val (.int p1), .val (.int p2), .val (.int p3), .val (.int (0 : Int32)), .val (.int (own_e0 p1)), .val (.int (own_e1 p1 p2)), .val (.int (own_e2 p1 p2 p3)), .val (.ref b3), .val (.ref b8), .val (.ref aS), .val (.int (1 : Int32)), .unset, .unset, .unset] [(.int (1 : Int32)), (.int (0 : Int32))])) _
      refine XS.icmpYes X52.here hx rfl (pc0 := 180) (pc' := 204) rfl (hb hby at_180) rfl (flt (by decide : ¬ ((1 : Int32) < (0 : Int32)))).2.2.2 (by decide) (by decide) ?_
      show Steps p.tables e below (T52.setTop (mkF m 204 #[.val (.int p0), .val (.int p1), .val (.int p2), .val (.int p3), .val (.int (0 : Int32)), .val (.int (own_e0 p1)), .val (.int (own_e1 p1 p2)), .val (.int (own_e2 p1 p2 p3)), .val (.ref b3), .val (.ref b8), .val (.ref aS), .val (.int (1 : Int32)), .unset, .unset, .unset] [])) _
      refine XS.iload X52.here hx rfl (hb hby at_204) rfl ?_
      show Steps p.tables e below (T52.setTop (mkF m 206 #[.val (.int p0), .val (.int p1), .val (.int p2), .val (.int p3), .val (.int (0 : Int32)), .val (.int (own_e0 p1)), .val (.int (own_e1 p1 p2)), .val (.int (own_e2 p1 p2 p3)), .val (.ref b3), .val (.ref b8), .val (.ref aS), .val (.int (1 : Int32)), .unset, .unset, .unset] [(.int (0 : Int32))])) _
      refine XS.iconst X52.here hx rfl (hb hby at_206) ?_
      show Steps p.tables e below (T52.setTop (mkF m 207 #[.val (.int p0), .val (.int p1), .val (.int p2), .val (.int p3), .val (.int (0 : Int32)), .val (.int (own_e0 p1)), .val (.int (own_e1 p1 p2)), .val (.int (own_e2 p1 p2 p3)), .val (.ref b3), .val (.ref b8), .val (.ref aS), .val (.int (1 : Int32)), .unset, .unset, .unset] [(.int (2 : Int32)), (.int (0 : Int32))])) _
      refine XS.icmpYes X52.here hx rfl (pc0 := 207) (pc' := 231) rfl (hb hby at_207) rfl (flt (by decide : ¬ ((2 : Int32) < (0 : Int32)))).2.2.2 (by decide) (by decide) ?_
      show Steps p.tables e below (T52.setTop (mkF m 231 #[.val (.int p0), .val (.int p1), .val (.int p2), .val (.int p3), .val (.int (0 : Int32)), .val (.int (own_e0 p1)), .val (.int (own_e1 p1 p2)), .val (.int (own_e2 p1 p2 p3)), .val (.ref b3), .val (.ref b8), .val (.ref aS), .val (.int (1 : Int32)), .unset, .unset, .unset] [])) _
      refine XS.iload X52.here hx rfl (hb hby at_231) rfl ?_
      show Steps p.tables e below (T52.setTop (mkF m 233 #[.val (.int p0), .val (.int p1), .val (.int p2), .val (.int p3), .val (.int (0 : Int32)), .val (.int (own_e0 p1)), .val (.int (own_e1 p1 p2)), .val (.int (own_e2 p1 p2 p3)), .val (.ref b3), .val (.ref b8), .val (.ref aS), .val (.int (1 : Int32)), .unset, .unset, .unset] [(.int (0 : Int32))])) _
      refine XS.ifYes X52.here hx rfl (pc0 := 233) (pc' := 245) rfl (hb hby at_233) rfl ((if0 _ _).trans (flt (by decide : ¬ ((0 : Int32) < (0 : Int32)))).2.2.2) (by decide) (by decide) ?_
      show Steps p.tables e below (T52.setTop (mkF m 245 #[.val (.int p0), .val (.int p1), .val (.int p2), .val (.int p3), .val (.int (0 : Int32)), .val (.int (own_e0 p1)), .val (.int (own_e1 p1 p2)), .val (.int (own_e2 p1 p2 p3)), .val (.ref b3), .val (.ref b8), .val (.ref aS), .val (.int (1 : Int32)), .unset, .unset, .unset] [])) _
      refine XS.iconst X52.here hx rfl (hb hby at_245) ?_
      show Steps p.tables e below (T52.setTop (mkF m 246 #[.val (.int p0), .val (.int p1), .val (.int p2), .val (.int p3), .val (.int (0 : Int32)), .val (.int (own_e0 p1)), .val (.int (own_e1 p1 p2)), .val (.int (own_e2 p1 p2 p3)), .val (.ref b3), .val (.ref b8), .val (.ref aS), .val (.int (1 : Int32)), .unset, .unset, .unset] [(.int (0 : Int32))])) _
      refine XS.istore X52.here hx rfl (hb hby at_246) rfl (l' := #[.val (.int p0), .val (.int p1), .val (.int p2), .val (.int p3), .val (.int (0 : Int32)), .val (.int (own_e0 p1)), .val (.int (own_e1 p1 p2)), .val (.int (own_e2 p1 p2 p3)), .val (.ref b3), .val (.ref b8), .val (.ref aS), .val (.int (1 : Int32)), .val (.int (0 : Int32)), .unset, .unset]) rfl ?_
      show Steps p.tables e below (T52.setTop (mkF m 248 #[.val (.int p0), .val (.int p1), .val (.int p2), .val (.int p3), .val (.int (0 : Int32)), .val (.int (own_e0 p1)), .val (.int (own_e1 p1 p2)), .val (.int (own_e2 p1 p2 p3)), .val (.ref b3), .val (.ref b8), .val (.ref aS), .val (.int (1 : Int32)), .val (.int (0 : Int32)), .unset, .unset] [])) _
      refine XS.iload X52.here hx rfl (hb hby at_248) rfl ?_
      show Steps p.tables e below (T52.setTop (mkF m 250 #[.val (.int p0), .val (.int p1), .val (.int p2), .val (.int p3), .val (.int (0 : Int32)), .val (.int (own_e0 p1)), .val (.int (own_e1 p1 p2)), .val (.int (own_e2 p1 p2 p3)), .val (.ref b3), .val (.ref b8), .val (.ref aS), .val (.int (1 : Int32)), .val (.int (0 : Int32)), .unset, .unset] [(.int (0 : Int32))])) _
      refine XS.ifYes X52.here hx rfl (pc0 := 250) (pc' := 257) rfl (hb hby at_250) rfl ((if0 _ _).trans (teq (rfl : (0 : Int32) = (0 : Int32))).1) (by decide) (by decide) ?_
      show Steps p.tables e below (T52.setTop (mkF m 257 #[.val (.int p0), .val (.int p1), .val (.int p2), .val (.int p3), .val (.int (0 : Int32)), .val (.int (own_e0 p1)), .val (.int (own_e1 p1 p2)), .val (.int (own_e2 p1 p2 p3)), .val (.ref b3), .val (.ref b8), .val (.ref aS), .val (.int (1 : Int32)), .val (.int (0 : Int32)), .unset, .unset] [])) _
      refine XS.iconst X52.here hx rfl (hb hby at_257) ?_
      show Steps p.tables e below (T52.setTop (mkF m 258 #[.val (.int p0), .val (.int p1), .val (.int p2), .val (.int p3), .val (.int (0 : Int32)), .val (.int (own_e0 p1)), .val (.int (own_e1 p1 p2)), .val (.int (own_e2 p1 p2 p3)), .val (.ref b3), .val (.ref b8), .val (.ref aS), .val (.int (1 : Int32)), .val (.int (0 : Int32)), .unset, .unset] [(.int (0 : Int32))])) _
      refine XS.istore X52.here hx rfl (hb hby at_258) rfl (l' := #[.val (.int p0), .val (.int p1), .val (.int p2), .val (.int p3), .val (.int (0 : Int32)), .val (.int (own_e0 p1)), .val (.int (own_e1 p1 p2)), .val (.int (own_e2 p1 p2 p3)), .val (.ref b3), .val (.ref b8), .val (.ref aS), .val (.int (1 : Int32)), .val (.int (0 : Int32)), .val (.int (0 : Int32)), .unset]) rfl ?_
      show Steps p.tables e below (T52.setTop (mkF m 260 #[.val (.int p0), .val (.int p1), .val (.int p2), .val (.int p3), .val (.int (0 : Int32)), .val (.int (own_e0 p1)), .val (.int (own_e1 p1 p2)), .val (.int (own_e2 p1 p2 p3)), .val (.ref b3), .val (.ref b8), .val (.ref aS), .val (.int (1 : Int32)), .val (.int (0 : Int32)), .val (.int (0 : Int32)), .unset] [])) _
      refine XS.iload X52.here hx rfl (hb hby at_260) rfl ?_
      show Steps p.tables e below (T52.setTop (mkF m 262 #[.val (.int p0), .val (.int p1), .val (.int p2), .val (.int p3), .val (.int (0 : Int32)), .val (.int (own_e0 p1)), .val (.int (own_e1 p1 p2)), .val (.int (own_e2 p1 p2 p3)), .val (.ref b3), .val (.ref b8), .val (.ref aS), .val (.int (1 : Int32)), .val (.int (0 : Int32)), .val (.int (0 : Int32)), .unset] [(.int (0 : Int32))])) _
      refine XS.iload X52.here hx rfl (hb hby at_262) rfl ?_
      show Steps p.tables e below (T52.setTop (mkF m 264 #[.val (.int p0), .val (.int p1), .val (.int p2), .val (.int p3), .val (.int (0 : Int32)), .val (.int (own_e0 p1)), .val (.int (own_e1 p1 p2)), .val (.int (own_e2 p1 p2 p3)), .val (.ref b3), .val (.ref b8), .val (.ref aS), .val (.int (1 : Int32)), .val (.int (0 : Int32)), .val (.int (0 : Int32)), .unset] [(.int (0 : Int32)), (.int (0 : Int32))])) _
      refine XS.isub X52.here hx rfl (hb hby at_264) rfl ?_
      show Steps p.tables e below (T52.setTop (mkF m 265 #[.val (.int p0), .val (.int p1), .val (.int p2), .val (.int p3), .val (.int (0 : Int32)), .val (.int (own_e0 p1)), .val (.int (own_e1 p1 p2)), .val (.int (own_e2 p1 p2 p3)), .val (.ref b3), .val (.ref b8), .val (.ref aS), .val (.int (1 : Int32)), .val (.int (0 : Int32)), .val (.int (0 : Int32)), .unset] [(.int (0 : Int32))])) _
      refine XS.istore X52.here hx rfl (hb hby at_265) rfl (l' := #[.val (.int p0), .val (.int p1), .val (.int p2), .val (.int p3), .val (.int (0 : Int32)), .val (.int (own_e0 p1)), .val (.int (own_e1 p1 p2)), .val (.int (own_e2 p1 p2 p3)), .val (.ref b3), .val (.ref b8), .val (.ref aS), .val (.int (1 : Int32)), .val (.int (0 : Int32)), .val (.int (0 : Int32)), .val (.int (0 : Int32))]) rfl ?_
      show Steps p.tables e below (T52.setTop (mkF m 267 #[.val (.int p0), .val (.int p1), .val (.int p2), .val (.int p3), .val (.int (0 : Int32)), .val (.int (own_e0 p1)), .val (.int (own_e1 p1 p2)), .val (.int (own_e2 p1 p2 p3)), .val (.ref b3), .val (.ref b8), .val (.ref aS), .val (.int (1 : Int32)), .val (.int (0 : Int32)), .val (.int (0 : Int32)), .val (.int (0 : Int32))] [])) _
      refine XS.aload X52.here hx rfl (hb hby at_267) rfl rfl ?_
      show Steps p.tables e below (T52.setTop (mkF m 269 #[.val (.int p0), .val (.int p1), .val (.int p2), .val (.int p3), .val (.int (0 : Int32)), .val (.int (own_e0 p1)), .val (.int (own_e1 p1 p2)), .val (.int (own_e2 p1 p2 p3)), .val (.ref b3), .val (.ref b8), .val (.ref aS), .val (.int (1 : Int32)), .val (.int (0 : Int32)), .val (.int (0 : Int32)), .val (.int (0 : Int32))] [(.ref aS)])) _
      refine XS.ifnullNo X52.here hx rfl (hb hby at_269) rfl ?_
      show Steps p.tables e below (T52.setTop (mkF m 272 #[.val (.int p0), .val (.int p1), .val (.int p2), .val (.int p3), .val (.int (0 : Int32)), .val (.int (own_e0 p1)), .val (.int (own_e1 p1 p2)), .val (.int (own_e2 p1 p2 p3)), .val (.ref b3), .val (.ref b8), .val (.ref aS), .val (.int (1 : Int32)), .val (.int (0 : Int32)), .val (.int (0 : Int32)), .val (.int (0 : Int32))] [])) _
      refine XS.aload X52.here hx rfl (hb hby at_272) rfl rfl ?_
      show Steps p.tables e below (T52.setTop (mkF m 274 #[.val (.int p0), .val (.int p1), .val (.int p2), .val (.int p3), .val (.int (0 : Int32)), .val (.int (own_e0 p1)), .val (.int (own_e1 p1 p2)), .val (.int (own_e2 p1 p2 p3)), .val (.ref b3), .val (.ref b8), .val (.ref aS), .val (.int (1 : Int32)), .val (.int (0 : Int32)), .val (.int (0 : Int32)), .val (.int (0 : Int32))] [(.ref aS)])) _
      refine X52.arraylength hx Ar63.1 (State.isArrayOf_alike hZ.alike Ar63.2.1) (g := (mkF m 274 #[.val (.int p0), .val (.int p1), .val (.int p2), .val (.int p3), .val (.int (0 : Int32)), .val (.int (own_e0 p1)), .val (.int (own_e1 p1 p2)), .val (.int (own_e2 p1 p2 p3)), .val (.ref b3), .val (.ref b8), .val (.ref aS), .val (.int (1 : Int32)), .val (.int (0 : Int32)), .val (.int (0 : Int32)), .val (.int (0 : Int32))] [(.ref aS)])) rfl rfl (hb hby at_274) _ ?_
      rw [own_len (z := (0 : Int32)) S63 rfl]
      show Steps p.tables e below (T52.setTop (mkF m 275 #[.val (.int p0), .val (.int p1), .val (.int p2), .val (.int p3), .val (.int (0 : Int32)), .val (.int (own_e0 p1)), .val (.int (own_e1 p1 p2)), .val (.int (own_e2 p1 p2 p3)), .val (.ref b3), .val (.ref b8), .val (.ref aS), .val (.int (1 : Int32)), .val (.int (0 : Int32)), .val (.int (0 : Int32)), .val (.int (0 : Int32))] [(.int (0 : Int32))])) _
      refine XS.iload X52.here hx rfl (hb hby at_275) rfl ?_
      show Steps p.tables e below (T52.setTop (mkF m 277 #[.val (.int p0), .val (.int p1), .val (.int p2), .val (.int p3), .val (.int (0 : Int32)), .val (.int (own_e0 p1)), .val (.int (own_e1 p1 p2)), .val (.int (own_e2 p1 p2 p3)), .val (.ref b3), .val (.ref b8), .val (.ref aS), .val (.int (1 : Int32)), .val (.int (0 : Int32)), .val (.int (0 : Int32)), .val (.int (0 : Int32))] [(.int (0 : Int32)), (.int (0 : Int32))])) _
      refine XS.icmpYes X52.here hx rfl (pc0 := 277) (pc' := 282) rfl (hb hby at_277) rfl (teq (rfl : (0 : Int32) = (0 : Int32))).1 (by decide) (by decide) ?_
      show Steps p.tables e below (T52.setTop (mkF m 282 #[.val (.int p0), .val (.int p1), .val (.int p2), .val (.int p3), .val (.int (0 : Int32)), .val (.int (own_e0 p1)), .val (.int (own_e1 p1 p2)), .val (.int (own_e2 p1 p2 p3)), .val (.ref b3), .val (.ref b8), .val (.ref aS), .val (.int (1 : Int32)), .val (.int (0 : Int32)), .val (.int (0 : Int32)), .val (.int (0 : Int32))] [])) _
      refine XS.iload X52.here hx rfl (hb hby at_282) rfl ?_
      show Steps p.tables e below (T52.setTop (mkF m 284 #[.val (.int p0), .val (.int p1), .val (.int p2), .val (.int p3), .val (.int (0 : Int32)), .val (.int (own_e0 p1)), .val (.int (own_e1 p1 p2)), .val (.int (own_e2 p1 p2 p3)), .val (.ref b3), .val (.ref b8), .val (.ref aS), .val (.int (1 : Int32)), .val (.int (0 : Int32)), .val (.int (0 : Int32)), .val (.int (0 : Int32))] [(.int (0 : Int32))])) _
      refine XS.ifYes X52.here hx rfl (pc0 := 284) (pc' := 313) rfl (hb hby at_284) rfl ((if0 _ _).trans (flt (by decide : ¬ ((0 : Int32) < (0 : Int32)))).2.2.2) (by decide) (by decide) ?_
      show Steps p.tables e below (T52.setTop (mkF m 313 #[.val (.int p0), .val (.int p1), .val (.int p2), .val (.int p3), .val (.int (0 : Int32)), .val (.int (own_e0 p1)), .val (.int (own_e1 p1 p2)), .val (.int (own_e2 p1 p2 p3)), .val (.ref b3), .val (.ref b8), .val (.ref aS), .val (.int (1 : Int32)), .val (.int (0 : Int32)), .val (.int (0 : Int32)), .val (.int (0 : Int32))] [])) _
      refine XS.iload X52.here hx rfl (hb hby at_313) rfl ?_
      show Steps p.tables e below (T52.setTop (mkF m 315 #[.val (.int p0), .val (.int p1), .val (.int p2), .val (.int p3), .val (.int (0 : Int32)), .val (.int (own_e0 p1)), .val (.int (own_e1 p1 p2)), .val (.int (own_e2 p1 p2 p3)), .val (.ref b3), .val (.ref b8), .val (.ref aS), .val (.int (1 : Int32)), .val (.int (0 : Int32)), .val (.int (0 : Int32)), .val (.int (0 : Int32))] [(.int (0 : Int32))])) _
      refine XS.iconst X52.here hx rfl (hb hby at_315) ?_
      show Steps p.tables e below (T52.setTop (mkF m 316 #[.val (.int p0), .val (.int p1), .val (.int p2), .val (.int p3), .val (.int (0 : Int32)), .val (.int (own_e0 p1)), .val (.int (own_e1 p1 p2)), .val (.int (own_e2 p1 p2 p3)), .val (.ref b3), .val (.ref b8), .val (.ref aS), .val (.int (1 : Int32)), .val (.int (0 : Int32)), .val (.int (0 : Int32)), .val (.int (0 : Int32))] [(.int (1 : Int32)), (.int (0 : Int32))])) _
      refine XS.icmpYes X52.here hx rfl (pc0 := 316) (pc' := 347) rfl (hb hby at_316) rfl (flt (by decide : ¬ ((1 : Int32) < (0 : Int32)))).2.2.2 (by decide) (by decide) ?_
      show Steps p.tables e below (T52.setTop (mkF m 347 #[.val (.int p0), .val (.int p1), .val (.int p2), .val (.int p3), .val (.int (0 : Int32)), .val (.int (own_e0 p1)), .val (.int (own_e1 p1 p2)), .val (.int (own_e2 p1 p2 p3)), .val (.ref b3), .val (.ref b8), .val (.ref aS), .val (.int (1 : Int32)), .val (.int (0 : Int32)), .val (.int (0 : Int32)), .val (.int (0 : Int32))] [])) _
      refine XS.iload X52.here hx rfl (hb hby at_347) rfl ?_
      show Steps p.tables e below (T52.setTop (mkF m 349 #[.val (.int p0), .val (.int p1), .val (.int p2), .val (.int p3), .val (.int (0 : Int32)), .val (.int (own_e0 p1)), .val (.int (own_e1 p1 p2)), .val (.int (own_e2 p1 p2 p3)), .val (.ref b3), .val (.ref b8), .val (.ref aS), .val (.int (1 : Int32)), .val (.int (0 : Int32)), .val (.int (0 : Int32)), .val (.int (0 : Int32))] [(.int (0 : Int32))])) _
      refine XS.iconst X52.here hx rfl (hb hby at_349) ?_
      show Steps p.tables e below (T52.setTop (mkF m 350 #[.val (.int p0), .val (.int p1), .val (.int p2), .val (.int p3), .val (.int (0 : Int32)), .val (.int (own_e0 p1)), .val (.int (own_e1 p1 p2)), .val (.int (own_e2 p1 p2 p3)), .val (.ref b3), .val (.ref b8), .val (.ref aS), .val (.int (1 : Int32)), .val (.int (0 : Int32)), .val (.int (0 : Int32)), .val (.int (0 : Int32))] [(.int (2 : Int32)), (.int (0 : Int32))])) _
      refine XS.icmpYes X52.here hx rfl (pc0 := 350) (pc' := 381) rfl (hb hby at_350) rfl (flt (by decide : ¬ ((2 : Int32) < (0 : Int32)))).2.2.2 (by decide) (by decide) ?_
      show Steps p.tables e below (T52.setTop (mkF m 381 #[.val (.int p0), .val (.int p1), .val (.int p2), .val (.int p3), .val (.int (0 : Int32)), .val (.int (own_e0 p1)), .val (.int (own_e1 p1 p2)), .val (.int (own_e2 p1 p2 p3)), .val (.ref b3), .val (.ref b8), .val (.ref aS), .val (.int (1 : Int32)), .val (.int (0 : Int32)), .val (.int (0 : Int32)), .val (.int (0 : Int32))] [])) _
      refine XS.iload X52.here hx rfl (hb hby at_381) rfl ?_
      exact kt
    obtain ⟨fs, hr, hrun, hended, hW, hsame⟩ := X52.leave (v := some (.int (1 : Int32))) (fun h => by rw [Bd.returns] at h; cases h)
    refine ⟨_, _, pre64 _ ?_, hrun, hended, _, _, rfl, ?_, ⟨_, rfl⟩, hW, hsame.mono (by decide) (by decide)⟩
    · show Steps p.tables e below (T52.setTop (mkF m 383 #[.val (.int p0), .val (.int p1), .val (.int p2), .val (.int p3), .val (.int (0 : Int32)), .val (.int (own_e0 p1)), .val (.int (own_e1 p1 p2)), .val (.int (own_e2 p1 p2 p3)), .val (.ref b3), .val (.ref b8), .val (.ref aS), .val (.int (1 : Int32)), .val (.int (0 : Int32)), .val (.int (0 : Int32)), .val (.int (0 : Int32))] [(.int (1 : Int32))])) _
      exact retN X52 hx (t := .boolean) Bd.returns (by simp) (hb hby at_383) hr
    · show own_Q_law Z p0 p1 p2 p3 aS h0 n0 (some (.int (1 : Int32))) T52.heap _
      skip
      exact ⟨rfl, nf61⟩
  · have pre65 : ∀ t, Steps p.tables e below (s₁.setTop (mkF m 33 #[.val (.int p0), .val (.int p1), .val (.int p2), .val (.int p3), .val (.int (1 : Int32)), .val (.int (own_e0 p1)), .val (.int (own_e1 p1 p2)), .val (.int (own_e2 p1 p2 p3)), .unset, .unset, .unset, .unset, .unset, .unset, .unset] [])) t → Steps p.tables e below (s₁.setTop (entryFrame m #[(.int p0), (.int p1), (.int p2), (.int p3)] maxLocals)) t := by
      intro t kt
      refine pre1 t ?_
      rw [hn1]
      exact kt
    obtain ⟨T66, h66, k66, X66, e66, E66, A66, I66, st66⟩ := newPE X0 hx hZ (hw _ (List.mem_of_getElem? (i := 2) rfl)) e0 (g := (mkF m 53 #[.val (.int p0), .val (.int p1), .val (.int p2), .val (.int p3), .val (.int (1 : Int32)), .val (.int (own_e0 p1)), .val (.int (own_e1 p1 p2)), .val (.int (own_e2 p1 p2 p3)), .unset, .unset, .unset, .unset, .unset, .unset, .unset] [(.int (1 : Int32))])) rfl (hb hby at_53) rfl (by decide) (cap := 1) (by decide) (by decide) (by decide) (by decide) (ad := "[I") rfl
    obtain ⟨b66, g66⟩ : ∃ z, z = h0.size := ⟨_, rfl⟩
    rw [← g66] at A66 I66 st66
    have sz_b66 : h0.size ≤ b66 := Nat.le_trans K0.1 (Nat.le_of_eq g66.symm)
    have gn_b66 : n0 ≤ b66 := Nat.le_trans Z0 sz_b66
    have ne_aS_b66 : aS ≠ b66 := Nat.ne_of_lt (Nat.lt_of_lt_of_le AS.lt (Nat.le_of_eq g66.symm))
    have f67 := S0.ext E66
    have f68 := AS.ext E66
    have k69 := K0.ext E66
    have f70 : own_A Z h66 b66 1 (own_v1 (0 : Int32)) := (own_A.new A66 rfl).congr (fun j hj => by rcases j with _ | j <;> first | rfl | (simp [own_upd]; done) | omega)
    obtain ⟨cl71, Ar71, S71, H71⟩ := id f70
    have hin71 : ¬ ((0 : Int32) < 0 ∨ cl71.slots.size ≤ ((0 : Int32)).toNatClampNeg) := own_inb S71 (by decide) (by decide)
    obtain ⟨T72, h72, X72, e72, W72, st72⟩ := stI X66 hx hZ e66 Ar71 (j := (0 : Int32)) hin71 (g := (mkF m 59 #[.val (.int p0), .val (.int p1), .val (.int p2), .val (.int p3), .val (.int (1 : Int32)), .val (.int (own_e0 p1)), .val (.int (own_e1 p1 p2)), .val (.int (own_e2 p1 p2 p3)), .unset, .unset, .unset, .unset, .unset, .unset, .unset] [(.int (own_e0 p1)), (.int (0 : Int32)), (.ref b66), (.ref b66)])) rfl rfl (hb hby at_59)
    have f73 := f67.wr W72
    have f74 := f68.other W72 ne_aS_b66
    have f75 := I66.wr W72
    have k77 := k69.wr W72 (Or.inr sz_b66)
    have nf78 := Fr.snoc X72 N0 gn_b66
    have f79 := f70.set W72
    have f80 : own_A Z h72 b66 1 (own_v1 (own_e0 p1)) := f79.congr (fun j hj => by rcases j with _ | j <;> first | rfl | (simp [own_upd]; done) | omega)
    obtain ⟨T81, h81, k81, X81, e81, E81, A81, I81, st81⟩ := newPE X72 hx hZ (hw _ (List.mem_of_getElem? (i := 2) rfl)) e72 (g := (mkF m 110 #[.val (.int p0), .val (.int p1), .val (.int p2), .val (.int p3), .val (.int (1 : Int32)), .val (.int (own_e0 p1)), .val (.int (own_e1 p1 p2)), .val (.int (own_e2 p1 p2 p3)), .val (.ref b66), .unset, .unset, .unset, .unset, .unset, .unset] [(.int (3 : Int32))])) rfl (hb hby at_110) rfl (by decide) (cap := 3) (by decide) (by decide) (by decide) (by decide) (ad := "[I") rfl
    obtain ⟨b81, g81⟩ : ∃ z, z = h72.size := ⟨_, rfl⟩
    rw [← g81] at A81 I81 st81
    have sz_b81 : h0.size ≤ b81 := Nat.le_trans k77.1 (Nat.le_of_eq g81.symm)
    have gn_b81 : n0 ≤ b81 := Nat.le_trans Z0 sz_b81
    have ne_aS_b81 : aS ≠ b81 := Nat.ne_of_lt (Nat.lt_of_lt_of_le f74.lt (Nat.le_of_eq g81.symm))
    have ne_b66_b81 : b66 ≠ b81 := Nat.ne_of_lt (Nat.lt_of_lt_of_le f80.lt (Nat.le_of_eq g81.symm))
    have f82 := f73.ext E81
    have f83 := f74.ext E81
    have f84 := f75.ext E81
    have f85 := f80.ext E81
    have k86 := k77.ext E81
    have f87 : own_A Z h81 b81 3 (own_v3 (0 : Int32) (0 : Int32) (0 : Int32)) := (own_A.new A81 rfl).congr (fun j hj => by rcases j with _ | _ | _ | j <;> first | rfl | (simp [own_upd]; done) | omega)
    obtain ⟨cl88, Ar88, S88, H88⟩ := id f87
    have hin88 : ¬ ((0 : Int32) < 0 ∨ cl88.slots.size ≤ ((0 : Int32)).toNatClampNeg) := own_inb S88 (by decide) (by decide)
    obtain ⟨T89, h89, X89, e89, W89, st89⟩ := stI X81 hx hZ e81 Ar88 (j := (0 : Int32)) hin88 (g := (mkF m 116 #[.val (.int p0), .val (.int p1), .val (.int p2), .val (.int p3), .val (.int (1 : Int32)), .val (.int (own_e0 p1)), .val (.int (own_e1 p1 p2)), .val (.int (own_e2 p1 p2 p3)), .val (.ref b66), .unset, .unset, .unset, .unset, .unset, .unset] [(.int (own_e0 p1)), (.int (0 : Int32)), (.ref b81), (.ref b81)])) rfl rfl (hb hby at_116)
    have f90 := f82.wr W89
    have f91 := f83.other W89 ne_aS_b81
    have f92 := f84.wr W89
    have f93 := f85.other W89 ne_b66_b81
    have f94 := I81.wr W89
    have k96 := k86.wr W89 (Or.inr sz_b81)
    have nf97 := Fr.snoc X89 nf78 gn_b81
    have f98 := f87.set W89
    have f99 : own_A Z h89 b81 3 (own_v3 (own_e0 p1) (0 : Int32) (0 : Int32)) := f98.congr (fun j hj => by rcases j with _ | _ | _ | j <;> first | rfl | (simp [own_upd]; done) | omega)
    obtain ⟨cl100, Ar100, S100, H100⟩ := id f99
    have hin100 : ¬ ((1 : Int32) < 0 ∨ cl100.slots.size ≤ ((1 : Int32)).toNatClampNeg) := own_inb S100 (by decide) (by decide)
    obtain ⟨T101, h101, X101, e101, W101, st101⟩ := stI X89 hx hZ e89 Ar100 (j := (1 : Int32)) hin100 (g := (mkF m 121 #[.val (.int p0), .val (.int p1), .val (.int p2), .val (.int p3), .val (.int (1 : Int32)), .val (.int (own_e0 p1)), .val (.int (own_e1 p1 p2)), .val (.int (own_e2 p1 p2 p3)), .val (.ref b66), .unset, .unset, .unset, .unset, .unset, .unset] [(.int (own_e1 p1 p2)), (.int (1 : Int32)), (.ref b81), (.ref b81)])) rfl rfl (hb hby at_121)
    have f102 := f90.wr W101
    have f103 := f91.other W101 ne_aS_b81
    have f104 := f92.wr W101
    have f105 := f93.other W101 ne_b66_b81
    have f106 := f94.wr W101
    have k108 := k96.wr W101 (Or.inr sz_b81)
    have nf109 := Fr.snoc X101 nf97 gn_b81
    have f110 := f99.set W101
    have f111 : own_A Z h101 b81 3 (own_v3 (own_e0 p1) (own_e1 p1 p2) (0 : Int32)) := f110.congr (fun j hj => by rcases j with _ | _ | _ | j <;> first | rfl | (simp [own_upd]; done) | omega)
    obtain ⟨cl112, Ar112, S112, H112⟩ := id f111
    have hin112 : ¬ ((2 : Int32) < 0 ∨ cl112.slots.size ≤ ((2 : Int32)).toNatClampNeg) := own_inb S112 (by decide) (by decide)
    obtain ⟨T113, h113, X113, e113, W113, st113⟩ := stI X101 hx hZ e101 Ar112 (j := (2 : Int32)) hin112 (g := (mkF m 126 #[.val (.int p0), .val (.int p1), .val (.int p2), .val (.int p3), .val (.int (1 : Int32)), .val (.int (own_e0 p1)), .val (.int (own_e1 p1 p2)), .val (.int (own_e2 p1 p2 p3)), .val (.ref b66), .unset, .unset, .unset, .unset, .unset, .unset] [(.int (own_e2 p1 p2 p3)), (.int (2 : Int32)), (.ref b81), (.ref b81)])) rfl rfl (hb hby at_126)
    have f114 := f102.wr W113
    have f115 := f103.other W113 ne_aS_b81
    have f116 := f104.wr W113
    have f117 := f105.other W113 ne_b66_b81
    have f118 := f106.wr W113
    have k120 := k108.wr W113 (Or.inr sz_b81)
    have nf121 := Fr.snoc X113 nf109 gn_b81
    have f122 := f111.set W113
    have f123 : own_A Z h113 b81 3 (own_v3 (own_e0 p1) (own_e1 p1 p2) (own_e2 p1 p2 p3)) := f122.congr (fun j hj => by rcases j with _ | _ | _ | j <;> first | rfl | (simp [own_upd]; done) | omega)
    have pre124 : ∀ t, Steps p.tables e below (T113.setTop (mkF m 129 #[.val (.int p0), .val (.int p1), .val (.int p2), .val (.int p3), .val (.int (1 : Int32)), .val (.int (own_e0 p1)), .val (.int (own_e1 p1 p2)), .val (.int (own_e2 p1 p2 p3)), .val (.ref b66), .val (.ref b81), .unset, .unset, .unset, .unset, .unset] [])) t → Steps p.tables e below (s₁.setTop (entryFrame m #[(.int p0), (.int p1), (.int p2), (.int p3)] maxLocals)) t := by
      intro t kt
      refine pre65 t ?_
      show Steps p.tables e below (s₁.setTop (mkF m 33 #[.val (.int p0), .val (.int p1), .val (.int p2), .val (.int p3), .val (.int (1 : Int32)), .val (.int (own_e0 p1)), .val (.int (own_e1 p1 p2)), .val (.int (own_e2 p1 p2 p3)), .unset, .unset, .unset, .unset, .unset, .unset, .unset] [])) _
      refine XS.iload X0.here hx rfl (hb hby at_33) rfl ?_
      show Steps p.tables e below (s₁.setTop (mkF m 35 #[.val (.int p0), .val (.int p1), .val (.int p2), .val (.int p3), .val (.int (1 : Int32)), .val (.int (own_e0 p1)), .val (.int (own_e1 p1 p2)), .val (.int (own_e2 p1 p2 p3)), .unset, .unset, .unset, .unset, .unset, .unset, .unset] [(.int (1 : Int32))])) _
      refine XS.ifYes X0.here hx rfl (pc0 := 35) (pc' := 46) rfl (hb hby at_35) rfl ((if0 _ _).trans (feq (by decide : ¬ ((1 : Int32) = (0 : Int32)))).2) (by decide) (by decide) ?_
      show Steps p.tables e below (s₁.setTop (mkF m 46 #[.val (.int p0), .val (.int p1), .val (.int p2), .val (.int p3), .val (.int (1 : Int32)), .val (.int (own_e0 p1)), .val (.int (own_e1 p1 p2)), .val (.int (own_e2 p1 p2 p3)), .unset, .unset, .unset, .unset, .unset, .unset, .unset] [])) _
      refine XS.iload X0.here hx rfl (hb hby at_46) rfl ?_
      show Steps p.tables e below (s₁.setTop (mkF m 48 #[.val (.int p0), .val (.int p1), .val (.int p2), .val (.int p3), .val (.int (1 : Int32)), .val (.int (own_e0 p1)), .val (.int (own_e1 p1 p2)), .val (.int (own_e2 p1 p2 p3)), .unset, .unset, .unset, .unset, .unset, .unset, .unset] [(.int (1 : Int32))])) _
      refine XS.iconst X0.here hx rfl (hb hby at_48) ?_
      show Steps p.tables e below (s₁.setTop (mkF m 49 #[.val (.int p0), .val (.int p1), .val (.int p2), .val (.int p3), .val (.int (1 : Int32)), .val (.int (own_e0 p1)), .val (.int (own_e1 p1 p2)), .val (.int (own_e2 p1 p2 p3)), .unset, .unset, .unset, .unset, .unset, .unset, .unset] [(.int (1 : Int32)), (.int (1 : Int32))])) _
      refine XS.icmpNo X0.here hx rfl (hb hby at_49) rfl (teq (rfl : (1 : Int32) = (1 : Int32))).2 ?_
      show Steps p.tables e below (s₁.setTop (mkF m 52 #[.val (.int p0), .val (.int p1), .val (.int p2), .val (.int p3), .val (.int (1 : Int32)), .val (.int (own_e0 p1)), .val (.int (own_e1 p1 p2)), .val (.int (own_e2 p1 p2 p3)), .unset, .unset, .unset, .unset, .unset, .unset, .unset] [])) _
      refine XS.iconst X0.here hx rfl (hb hby at_52) ?_
      show Steps p.tables e below (s₁.setTop (mkF m 53 #[.val (.int p0), .val (.int p1), .val (.int p2), .val (.int p3), .val (.int (1 : Int32)), .val (.int (own_e0 p1)), .val (.int (own_e1 p1 p2)), .val (.int (own_e2 p1 p2 p3)), .unset, .unset, .unset, .unset, .unset, .unset, .unset] [(.int (1 : Int32))])) _
      refine st66 _ ?_
      show Steps p.tables e below (T66.setTop (mkF m 55 #[.val (.int p0), .val (.int p1), .val (.int p2), .val (.int p3), .val (.int (1 : Int32)), .val (.int (own_e0 p1)), .val (.int (own_e1 p1 p2)), .val (.int (own_e2 p1 p2 p3)), .unset, .unset, .unset, .unset, .unset, .unset, .unset] [(.ref b66)])) _
      refine XS.dup X66.here hx rfl (hb hby at_55) rfl rfl ?_
      show Steps p.tables e below (T66.setTop (mkF m 56 #[.val (.int p0), .val (.int p1), .val (.int p2), .val (.int p3), .val (.int (1 : Int32)), .val (.int (own_e0 p1)), .val (.int (own_e1 p1 p2)), .val (.int (own_e2 p1 p2 p3)), .unset, .unset, .unset, .unset, .unset, .unset, .unset] [(.ref b66), (.ref b66)])) _
      refine XS.iconst X66.here hx rfl (hb hby at_56) ?_
      show Steps p.tables e below (T66.setTop (mkF m 57 #[.val (.int p0), .val (.int p1), .val (.int p2), .val (.int p3), .val (.int (1 : Int32)), .val (.int (own_e0 p1)), .val (.int (own_e1 p1 p2)), .val (.int (own_e2 p1 p2 p3)), .unset, .unset, .unset, .unset, .unset, .unset, .unset] [(.int (0 : Int32)), (.ref b66), (.ref b66)])) _
      refine XS.iload X66.here hx rfl (hb hby at_57) rfl ?_
      show Steps p.tables e below (T66.setTop (mkF m 59 #[.val (.int p0), .val (.int p1), .val (.int p2), .val (.int p3), .val (.int (1 : Int32)), .val (.int (own_e0 p1)), .val (.int (own_e1 p1 p2)), .val (.int (own_e2 p1 p2 p3)), .unset, .unset, .unset, .unset, .unset, .unset, .unset] [(.int (own_e0 p1)), (.int (0 : Int32)), (.ref b66), (.ref b66)])) _
      refine st72 _ ?_
      show Steps p.tables e below (T72.setTop (mkF m 60 #[.val (.int p0), .val (.int p1), .val (.int p2), .val (.int p3), .val (.int (1 : Int32)), .val (.int (own_e0 p1)), .val (.int (own_e1 p1 p2)), .val (.int (own_e2 p1 p2 p3)), .unset, .unset, .unset, .unset, .unset, .unset, .unset] [(.ref b66)])) _
      refine XS.astore X72.here hx rfl (hb hby at_60) rfl rfl (l' := #[.val (.int p0), .val (.int p1), .val (.int p2), .val (.int p3), .val (.int (1 : Int32)), .val (.int (own_e0 p1)), .val (.int (own_e1 p1 p2)), .val (.int (own_e2 p1 p2 p3)), .val (.ref b66), .unset, .unset, .unset, .unset, .unset, .unset]) rfl ?_
      show Steps p.tables e below (T72.setTop (mkF m 62 #[.val (.int p0), .val (.int p1), .val (.int p2), .val (.int p3), .val (.int (1 : Int32)), .val (.int (own_e0 p1)), .val (.int (own_e1 p1 p2)), .val (.int (own_e2 p1 p2 p3)), .val (.ref b66), .unset, .unset, .unset, .unset, .unset, .unset] [])) _
      refine XS.goto X72.here hx rfl (pc0 := 62) (pc' := 109) rfl (hb hby at_62) (by decide) (by decide) ?_
      show Steps p.tables e below (T72.setTop (mkF m 109 #[.val (.int p0), .val (.int p1), .val (.int p2), .val (.int p3), .val (.int (1 : Int32)), .val (.int (own_e0 p1)), .val (.int (own_e1 p1 p2)), .val (.int (own_e2 p1 p2 p3)), .val (.ref b66), .unset, .unset, .unset, .unset, .unset, .unset] [])) _
      refine XS.iconst X72.here hx rfl (hb hby at_109) ?_
      show Steps p.tables e below (T72.setTop (mkF m 110 #[.val (.int p0), .val (.int p1), .val (.int p2), .val (.int p3), .val (.int (1 : Int32)), .val (.int (own_e0 p1)), .val (.int (own_e1 p1 p2)), .val (.int (own_e2 p1 p2 p3)), .val (.ref b66), .unset, .unset, .unset, .unset, .unset, .unset] [(.int (3 : Int32))])) _
      refine st81 _ ?_
      show Steps p.tables e below (T81.setTop (mkF m 112 #[.val (.int p0), .val (.int p1), .val (.int p2), .val (.int p3), .val (.int (1 : Int32)), .val (.int (own_e0 p1)), .val (.int (own_e1 p1 p2)), .val (.int (own_e2 p1 p2 p3)), .val (.ref b66), .unset, .unset, .unset, .unset, .unset, .unset] [(.ref b81)])) _
      refine XS.dup X81.here hx rfl (hb hby at_112) rfl rfl ?_
      show Steps p.tables e below (T81.setTop (mkF m 113 #[.val (.int p0), .val (.int p1), .val (.int p2), .val (.int p3), .val (.int (1 : Int32)), .val (.int (own_e0 p1)), .val (.int (own_e1 p1 p2)), .val (.int (own_e2 p1 p2 p3)), .val (.ref b66), .unset, .unset, .unset, .unset, .unset, .unset] [(.ref b81), (.ref b81)])) _
      refine XS.iconst X81.here hx rfl (hb hby at_113) ?_
      show Steps p.tables e below (T81.setTop (mkF m 114 #[.val (.int p0), .val (.int p1), .val (.int p2), .val (.int p3), .val (.int (1 : Int32)), .val (.int (own_e0 p1)), .val (.int (own_e1 p1 p2)), .val (.int (own_e2 p1 p2 p3)), .val (.ref b66), .unset, .unset, .unset, .unset, .unset, .unset] [(.int (0 : Int32)), (.ref b81), (.ref b81)])) _
      refine XS.iload X81.here hx rfl (hb hby at_114) rfl ?_
      show Steps p.tables e below (T81.setTop (mkF m 116 #[.val (.int p0), .val (.int p1), .val (.int p2), .val (.int p3), .val (.int (1 : Int32)), .val (.int (own_e0 p1)), .val (.int (own_e1 p1 p2)), .val (.int (own_e2 p1 p2 p3)), .val (.ref b66), .unset, .unset, .unset, .unset, .unset, .unset] [(.int (own_e0 p1)), (.int (0 : Int32)), (.ref b81), (.ref b81)])) _
      refine st89 _ ?_
      show Steps p.tables e below (T89.setTop (mkF m 117 #[.val (.int p0), .val (.int p1), .val (.int p2), .val (.int p3), .val (.int (1 : Int32)), .val (.int (own_e0 p1)), .val (.int (own_e1 p1 p2)), .val (.int (own_e2 p1 p2 p3)), .val (.ref b66), .unset, .unset, .unset, .unset, .unset, .unset] [(.ref b81)])) _
      refine XS.dup X89.here hx rfl (hb hby at_117) rfl rfl ?_
      show Steps p.tables e below (T89.setTop (mkF m 118 #[.val (.int p0), .val (.int p1), .val (.int p2), .val (.int p3), .val (.int (1 : Int32)), .val (.int (own_e0 p1)), .val (.int (own_e1 p1 p2)), .val (.int (own_e2 p1 p2 p3)), .val (.ref b66), .unset, .unset, .unset, .unset, .unset, .unset] [(.ref b81), (.ref b81)])) _
      refine XS.iconst X89.here hx rfl (hb hby at_118) ?_
      show Steps p.tables e below (T89.setTop (mkF m 119 #[.val (.int p0), .val (.int p1), .val (.int p2), .val (.int p3), .val (.int (1 : Int32)), .val (.int (own_e0 p1)), .val (.int (own_e1 p1 p2)), .val (.int (own_e2 p1 p2 p3)), .val (.ref b66), .unset, .unset, .unset, .unset, .unset, .unset] [(.int (1 : Int32)), (.ref b81), (.ref b81)])) _
      refine XS.iload X89.here hx rfl (hb hby at_119) rfl ?_
      show Steps p.tables e below (T89.setTop (mkF m 121 #[.val (.int p0), .val (.int p1), .val (.int p2), .val (.int p3), .val (.int (1 : Int32)), .val (.int (own_e0 p1)), .val (.int (own_e1 p1 p2)), .val (.int (own_e2 p1 p2 p3)), .val (.ref b66), .unset, .unset, .unset, .unset, .unset, .unset] [(.int (own_e1 p1 p2)), (.int (1 : Int32)), (.ref b81), (.ref b81)])) _
      refine st101 _ ?_
      show Steps p.tables e below (T101.setTop (mkF m 122 #[.val (.int p0), .val (.int p1), .val (.int p2), .val (.int p3), .val (.int (1 : Int32)), .val (.int (own_e0 p1)), .val (.int (own_e1 p1 p2)), .val (.int (own_e2 p1 p2 p3)), .val (.ref b66), .unset, .unset, .unset, .unset, .unset, .unset] [(.ref b81)])) _
      refine XS.dup X101.here hx rfl (hb hby at_122) rfl rfl ?_
      show Steps p.tables e below (T101.setTop (mkF m 123 #[.val (.int p0), .val (.int p1), .val (.int p2), .val (.int p3), .val (.int (1 : Int32)), .val (.int (own_e0 p1)), .val (.int (own_e1 p1 p2)), .val (.int (own_e2 p1 p2 p3)), .val (.ref b66), .unset, .unset, .unset, .unset, .unset, .unset] [(.ref b81), (.ref b81)])) _
      refine XS.iconst X101.here hx rfl (hb hby at_123) ?_
      show Steps p.tables e below (T101.setTop (mkF m 124 #[.val (.int p0), .val (.int p1), .val (.int p2), .val (.int p3), .val (.int (1 : Int32)), .val (.int (own_e0 p1)), .val (.int (own_e1 p1 p2)), .val (.int (own_e2 p1 p2 p3)), .val (.ref b66), .unset, .unset, .unset, .unset, .unset, .unset] [(.int (2 : Int32)), (.ref b81), (.ref b81)])) _
      refine XS.iload X101.here hx rfl (hb hby at_124) rfl ?_
      show Steps p.tables e below (T101.setTop (mkF m 126 #[.val (.int p0), .val (.int p1), .val (.int p2), .val (.int p3), .val (.int (1 : Int32)), .val (.int (own_e0 p1)), .val (.int (own_e1 p1 p2)), .val (.int (own_e2 p1 p2 p3)), .val (.ref b66), .unset, .unset, .unset, .unset, .unset, .unset] [(.int (own_e2 p1 p2 p3)), (.int (2 : Int32)), (.ref b81), (.ref b81)])) _
      refine st113 _ ?_
      show Steps p.tables e below (T113.setTop (mkF m 127 #[.val (.int p0), .val (.int p1), .val (.int p2), .val (.int p3), .val (.int (1 : Int32)), .val (.int (own_e0 p1)), .val (.int (own_e1 p1 p2)), .val (.int (own_e2 p1 p2 p3)), .val (.ref b66), .unset, .unset, .unset, .unset, .unset, .unset] [(.ref b81)])) _
      refine XS.astore X113.here hx rfl (hb hby at_127) rfl rfl (l' := #[.val (.int p0), .val (.int p1), .val (.int p2), .val (.int p3), .val (.int (1 : Int32)), .val (.int (own_e0 p1)), .val (.int (own_e1 p1 p2)), .val (.int (own_e2 p1 p2 p3)), .val (.ref b66), .val (.ref b81), .unset, .unset, .unset, .unset, .unset]) rfl ?_
      exact kt
    by_cases hz0 : (own_e0 p1) = (0 : Int32)
    · skip
      have zs125 : n0 ≤ h113.size := Nat.le_trans Z0 k120.1
      obtain ⟨_, _, ⟨T126, L126, k126, n126⟩, -, X126, ⟨Lc126, hQ126, l126, y126, z126⟩, st126⟩ := Jvm.LawKit.callS X113 hx (y := (⟨"com/example/unfold/unfold/semantics/GateSets", "outsideHide", "([I)[I"⟩ : MethodName)) hown (mvT hZ (hw _ (List.mem_of_getElem? (i := 3) rfl))) (mvT hZ (hw _ (List.mem_of_getElem? (i := 4) rfl))) (mvT hZ (hw _ (List.mem_of_getElem? (i := 5) rfl))) (mvT hZ (hw _ (List.mem_of_getElem? (i := 6) rfl))) (by decide) (backOf (W := 0) (own_rm_oh1z l Z a0 hw [] b66 (own_e0 p1) aS h113 n0 zs125 f117 hz0 f114) hZ (hw _ (List.mem_of_getElem? (i := 6) rfl)) (hw _ (List.mem_of_getElem? (i := 5) rfl)) (by decide) (by decide)) (g := (mkF m 131 #[.val (.int p0), .val (.int p1), .val (.int p2), .val (.int p3), .val (.int (1 : Int32)), .val (.int (own_e0 p1)), .val (.int (own_e1 p1 p2)), .val (.int (own_e2 p1 p2 p3)), .val (.ref b66), .val (.ref b81), .unset, .unset, .unset, .unset, .unset] [(.ref b66)])) rfl (by rw [hml]; rfl) (argsL := [(.ref b66)]) (rest := []) (lenOf own_pd0 rfl) rfl (by show 2 * 0 + _ ≤ _; exact Nat.le_of_eq rfl) (hb hby at_131) (fun _ _ => ⟨rfl, e113, (by decide : 2 + 1 ≤ _), (by decide : 4 + 0 ≤ _)⟩)
      dsimp only [Pt.U, Pt.locs, Pt.cells, Pt.slots] at X126 l126 y126 z126 st126 hQ126
      subst l126 y126 z126
      obtain ⟨rfl, N127, K127⟩ := hQ126
      have f128 := own_sta_keep f114 K127 all0
      have f129 := f115.keep K127 nin0
      have f130 := f116.keep K127
      have f131 := f117.keep K127 nin0
      have f132 := f118.keep K127
      have f133 := f123.keep K127 nin0
      have k134 := k120.trans K127 all0
      have nf135 := Fr.app nf121 N127
      obtain ⟨cl136, Ar136, S136, -⟩ := id f131
      obtain ⟨cl137, Ar137, S137, H137⟩ := id f131
      have hin137 : ¬ ((0 : Int32) < 0 ∨ cl137.slots.size ≤ ((0 : Int32)).toNatClampNeg) := own_inb S137 (by decide) (by decide)
      have hat137 : cl137.slots[((0 : Int32)).toNatClampNeg]? = some (.int (own_e0 p1)) := H137 _ (by decide)
      obtain ⟨cl138, Ar138, S138, -⟩ := id f129
      have pre139 : ∀ t, Steps p.tables e below (T126.setTop (mkF m 383 #[.val (.int p0), .val (.int p1), .val (.int p2), .val (.int p3), .val (.int (1 : Int32)), .val (.int (own_e0 p1)), .val (.int (own_e1 p1 p2)), .val (.int (own_e2 p1 p2 p3)), .val (.ref b66), .val (.ref b81), .val (.ref aS), .val (.int (1 : Int32)), .val (.int (1 : Int32)), .val (.int (1 : Int32)), .val (.int (0 : Int32))] [(.int (1 : Int32))])) t → Steps p.tables e below (s₁.setTop (entryFrame m #[(.int p0), (.int p1), (.int p2), (.int p3)] maxLocals)) t := by
        intro t kt
        refine pre124 t ?_
        show Steps p.tables e below (T113.setTop (mkF m 129 #[.val (.int p0), .val (.int p1), .val (.int p2), .val (.int p3), .val (.int (1 : Int32)), .val (.int (own_e0 p1)), .val (.int (own_e1 p1 p2)), .val (.int (own_e2 p1 p2 p3)), .val (.ref b66), .val (.ref b81), .unset, .unset, .unset, .unset, .unset] [])) _
        refine XS.aload X113.here hx rfl (hb hby at_129) rfl rfl ?_
        show Steps p.tables e below (T113.setTop (mkF m 131 #[.val (.int p0), .val (.int p1), .val (.int p2), .val (.int p3), .val (.int (1 : Int32)), .val (.int (own_e0 p1)), .val (.int (own_e1 p1 p2)), .val (.int (own_e2 p1 p2 p3)), .val (.ref b66), .val (.ref b81), .unset, .unset, .unset, .unset, .unset] [(.ref b66)])) _
        refine st126 _ ?_
        show Steps p.tables e below (T126.setTop (mkF m 134 #[.val (.int p0), .val (.int p1), .val (.int p2), .val (.int p3), .val (.int (1 : Int32)), .val (.int (own_e0 p1)), .val (.int (own_e1 p1 p2)), .val (.int (own_e2 p1 p2 p3)), .val (.ref b66), .val (.ref b81), .unset, .unset, .unset, .unset, .unset] [(.ref aS)])) _
        refine XS.astore X126.here hx rfl (hb hby at_134) rfl rfl (l' := #[.val (.int p0), .val (.int p1), .val (.int p2), .val (.int p3), .val (.int (1 : Int32)), .val (.int (own_e0 p1)), .val (.int (own_e1 p1 p2)), .val (.int (own_e2 p1 p2 p3)), .val (.ref b66), .val (.ref b81), .val (.ref aS), .unset, .unset, .unset, .unset]) rfl ?_
        show Steps p.tables e below (T126.setTop (mkF m 136 #[.val (.int p0), .val (.int p1), .val (.int p2), .val (.int p3), .val (.int (1 : Int32)), .val (.int (own_e0 p1)), .val (.int (own_e1 p1 p2)), .val (.int (own_e2 p1 p2 p3)), .val (.ref b66), .val (.ref b81), .val (.ref aS), .unset, .unset, .unset, .unset] [])) _
        refine XS.aload X126.here hx rfl (hb hby at_136) rfl rfl ?_
        show Steps p.tables e below (T126.setTop (mkF m 138 #[.val (.int p0), .val (.int p1), .val (.int p2), .val (.int p3), .val (.int (1 : Int32)), .val (.int (own_e0 p1)), .val (.int (own_e1 p1 p2)), .val (.int (own_e2 p1 p2 p3)), .val (.ref b66), .val (.ref b81), .val (.ref aS), .unset, .unset, .unset, .unset] [(.ref b66)])) _
        refine X126.arraylength hx Ar136.1 (State.isArrayOf_alike hZ.alike Ar136.2.1) (g := (mkF m 138 #[.val (.int p0), .val (.int p1), .val (.int p2), .val (.int p3), .val (.int (1 : Int32)), .val (.int (own_e0 p1)), .val (.int (own_e1 p1 p2)), .val (.int (own_e2 p1 p2 p3)), .val (.ref b66), .val (.ref b81), .val (.ref aS), .unset, .unset, .unset, .unset] [(.ref b66)])) rfl rfl (hb hby at_138) _ ?_
        rw [own_len (z := (1 : Int32)) S136 rfl]
        show Steps p.tables e below (T126.setTop (mkF m 139 #[.val (.int p0), .val (.int p1), .val (.int p2), .val (.int p3), .val (.int (1 : Int32)), .val (.int (own_e0 p1)), .val (.int (own_e1 p1 p2)), .val (.int (own_e2 p1 p2 p3)), .val (.ref b66), .val (.ref b81), .val (.ref aS), .unset, .unset, .unset, .unset] [(.int (1 : Int32))])) _
        refine XS.iload X126.here hx rfl (hb hby at_139) rfl ?_
        show Steps p.tables e below (T126.setTop (mkF m 141 #[.val (.int p0), .val (.int p1), .val (.int p2), .val (.int p3), .val (.int (1 : Int32)), .val (.int (own_e0 p1)), .val (.int (own_e1 p1 p2)), .val (.int (own_e2 p1 p2 p3)), .val (.ref b66), .val (.ref b81), .val (.ref aS), .unset, .unset, .unset, .unset] [(.int (1 : Int32)), (.int (1 : Int32))])) _
        refine XS.icmpNo X126.here hx rfl (hb hby at_141) rfl (teq (rfl : (1 : Int32) = (1 : Int32))).2 ?_
        show Steps p.tables e below (T126.setTop (mkF m 144 #[.val (.int p0), .val (.int p1), .val (.int p2), .val (.int p3), .val (.int (1 : Int32)), .val (.int (own_e0 p1)), .val (.int (own_e1 p1 p2)), .val (.int (own_e2 p1 p2 p3)), .val (.ref b66), .val (.ref b81), .val (.ref aS), .unset, .unset, .unset, .unset] [])) _
        refine XS.iconst X126.here hx rfl (hb hby at_144) ?_
        show Steps p.tables e below (T126.setTop (mkF m 145 #[.val (.int p0), .val (.int p1), .val (.int p2), .val (.int p3), .val (.int (1 : Int32)), .val (.int (own_e0 p1)), .val (.int (own_e1 p1 p2)), .val (.int (own_e2 p1 p2 p3)), .val (.ref b66), .val (.ref b81), .val (.ref aS), .unset, .unset, .unset, .unset] [(.int (1 : Int32))])) _
        refine XS.goto X126.here hx rfl (pc0 := 145) (pc' := 149) rfl (hb hby at_145) (by decide) (by decide) ?_
        show Steps p.tables e below (T126.setTop (mkF m 149 #[.val (.int p0), .val (.int p1), .val (.int p2), .val (.int p3), .val (.int (1 : Int32)), .val (.int (own_e0 p1)), .val (.int (own_e1 p1 p2)), .val (.int (own_e2 p1 p2 p3)), .val (.ref b66), .val (.ref b81), .val (.ref aS), .unset, .unset, .unset, .unset] [(.int (1 : Int32))])) _
        refine XS.istore X126.here hx rfl (hb hby at_149) rfl (l' := #[.val (.int p0), .val (.int p1), .val (.int p2), .val (.int p3), .val (.int (1 : Int32)), .val (.int (own_e0 p1)), .val (.int (own_e1 p1 p2)), .val (.int (own_e2 p1 p2 p3)), .val (.ref b66), .val (.ref b81), .val (.ref aS), .val (.int (1 : Int32)), .unset, .unset, .unset]) rfl ?_
        show Steps p.tables e below (T126.setTop (mkF m 151 #[.val (.int p0), .val (.int p1), .val (.int p2), .val (.int p3), .val (.int (1 : Int32)), .val (.int (own_e0 p1)), .val (.int (own_e1 p1 p2)), .val (.int (own_e2 p1 p2 p3)), .val (.ref b66), .val (.ref b81), .val (.ref aS), .val (.int (1 : Int32)), .unset, .unset, .unset] [])) _
        refine XS.iload X126.here hx rfl (hb hby at_151) rfl ?_
        show Steps p.tables e below (T126.setTop (mkF m 153 #[.val (.int p0), .val (.int p1), .val (.int p2), .val (.int p3), .val (.int (1 : Int32)), .val (.int (own_e0 p1)), .val (.int (own_e1 p1 p2)), .val (.int (own_e2 p1 p2 p3)), .val (.ref b66), .val (.ref b81), .val (.ref aS), .val (.int (1 : Int32)), .unset, .unset, .unset] [(.int (1 : Int32))])) _
        refine XS.ifNo X126.here hx rfl (hb hby at_153) rfl ((if0 _ _).trans (tlt (by decide : (0 : Int32) < (1 : Int32))).2.2.2) ?_
        show Steps p.tables e below (T126.setTop (mkF m 156 #[.val (.int p0), .val (.int p1), .val (.int p2), .val (.int p3), .val (.int (1 : Int32)), .val (.int (own_e0 p1)), .val (.int (own_e1 p1 p2)), .val (.int (own_e2 p1 p2 p3)), .val (.ref b66), .val (.ref b81), .val (.ref aS), .val (.int (1 : Int32)), .unset, .unset, .unset] [])) _
        refine XS.iload X126.here hx rfl (hb hby at_156) rfl ?_
        show Steps p.tables e below (T126.setTop (mkF m 158 #[.val (.int p0), .val (.int p1), .val (.int p2), .val (.int p3), .val (.int (1 : Int32)), .val (.int (own_e0 p1)), .val (.int (own_e1 p1 p2)), .val (.int (own_e2 p1 p2 p3)), .val (.ref b66), .val (.ref b81), .val (.ref aS), .val (.int (1 : Int32)), .unset, .unset, .unset] [(.int (1 : Int32))])) _
        refine XS.ifNo X126.here hx rfl (hb hby at_158) rfl ((if0 _ _).trans (feq (by decide : ¬ ((1 : Int32) = (0 : Int32)))).1) ?_
        show Steps p.tables e below (T126.setTop (mkF m 161 #[.val (.int p0), .val (.int p1), .val (.int p2), .val (.int p3), .val (.int (1 : Int32)), .val (.int (own_e0 p1)), .val (.int (own_e1 p1 p2)), .val (.int (own_e2 p1 p2 p3)), .val (.ref b66), .val (.ref b81), .val (.ref aS), .val (.int (1 : Int32)), .unset, .unset, .unset] [])) _
        refine XS.aload X126.here hx rfl (hb hby at_161) rfl rfl ?_
        show Steps p.tables e below (T126.setTop (mkF m 163 #[.val (.int p0), .val (.int p1), .val (.int p2), .val (.int p3), .val (.int (1 : Int32)), .val (.int (own_e0 p1)), .val (.int (own_e1 p1 p2)), .val (.int (own_e2 p1 p2 p3)), .val (.ref b66), .val (.ref b81), .val (.ref aS), .val (.int (1 : Int32)), .unset, .unset, .unset] [(.ref b66)])) _
        refine XS.iconst X126.here hx rfl (hb hby at_163) ?_
        show Steps p.tables e below (T126.setTop (mkF m 164 #[.val (.int p0), .val (.int p1), .val (.int p2), .val (.int p3), .val (.int (1 : Int32)), .val (.int (own_e0 p1)), .val (.int (own_e1 p1 p2)), .val (.int (own_e2 p1 p2 p3)), .val (.ref b66), .val (.ref b81), .val (.ref aS), .val (.int (1 : Int32)), .unset, .unset, .unset] [(.int (0 : Int32)), (.ref b66)])) _
        refine X126.iaload hx (j := (0 : Int32)) (v := (.int (own_e0 p1))) Ar137.1 (State.isArrayOf_alike hZ.alike Ar137.2.1) Ar137.2.2 hin137 hat137 (g := (mkF m 164 #[.val (.int p0), .val (.int p1), .val (.int p2), .val (.int p3), .val (.int (1 : Int32)), .val (.int (own_e0 p1)), .val (.int (own_e1 p1 p2)), .val (.int (own_e2 p1 p2 p3)), .val (.ref b66), .val (.ref b81), .val (.ref aS), .val (.int (1 : Int32)), .unset, .unset, .unset] [(.int (0 : Int32)), (.ref b66)])) rfl rfl (hb hby at_164) _ ?_
        show Steps p.tables e below (T126.setTop (mkF m 165 #[.val (.int p0), .val (.int p1), .val (.int p2), .val (.int p3), .val (.int (1 : Int32)), .val (.int (own_e0 p1)), .val (.int (own_e1 p1 p2)), .val (.int (own_e2 p1 p2 p3)), .val (.ref b66), .val (.ref b81), .val (.ref aS), .val (.int (1 : Int32)), .unset, .unset, .unset] [(.int (own_e0 p1))])) _
        refine XS.iload X126.here hx rfl (hb hby at_165) rfl ?_
        show Steps p.tables e below (T126.setTop (mkF m 167 #[.val (.int p0), .val (.int p1), .val (.int p2), .val (.int p3), .val (.int (1 : Int32)), .val (.int (own_e0 p1)), .val (.int (own_e1 p1 p2)), .val (.int (own_e2 p1 p2 p3)), .val (.ref b66), .val (.ref b81), .val (.ref aS), .val (.int (1 : Int32)), .unset, .unset, .unset] [(.int (own_e0 p1)), (.int (own_e0 p1))])) _
        refine XS.icmpNo X126.here hx rfl (hb hby at_167) rfl (teq (rfl : (own_e0 p1) = (own_e0 p1))).2 ?_
        show Steps p.tables e below (T126.setTop (mkF m 170 #[.val (.int p0), .val (.int p1), .val (.int p2), .val (.int p3), .val (.int (1 : Int32)), .val (.int (own_e0 p1)), .val (.int (own_e1 p1 p2)), .val (.int (own_e2 p1 p2 p3)), .val (.ref b66), .val (.ref b81), .val (.ref aS), .val (.int (1 : Int32)), .unset, .unset, .unset] [])) _
        refine XS.iconst X126.here hx rfl (hb hby at_170) ?_
        show Steps p.tables e below (T126.setTop (mkF m 171 #[.val (.int p0), .val (.int p1), .val (.int p2), .val (.int p3), .val (.int (1 : Int32)), .val (.int (own_e0 p1)), .val (.int (own_e1 p1 p2)), .val (.int (own_e2 p1 p2 p3)), .val (.ref b66), .val (.ref b81), .val (.ref aS), .val (.int (1 : Int32)), .unset, .unset, .unset] [(.int (1 : Int32))])) _
        refine XS.goto X126.here hx rfl (pc0 := 171) (pc' := 175) rfl (hb hby at_171) (by decide) (by decide) ?_
        show Steps p.tables e below (T126.setTop (mkF m 175 #[.val (.int p0), .val (.int p1), .val (.int p2), .val (.int p3), .val (.int (1 : Int32)), .val (.int (own_e0 p1)), .val (.int (own_e1 p1 p2)), .val (.int (own_e2 p1 p2 p3)), .val (.ref b66), .val (.ref b81), .val (.ref aS), .val (.int (1 : Int32)), .unset, .unset, .unset] [(.int (1 : Int32))])) _
        refine XS.istore X126.here hx rfl (hb hby at_175) rfl (l' := #[.val (.int p0), .val (.int p1), .val (.int p2), .val (.int p3), .val (.int (1 : Int32)), .val (.int (own_e0 p1)), .val (.int (own_e1 p1 p2)), .val (.int (own_e2 p1 p2 p3)), .val (.ref b66), .val (.ref b81), .val (.ref aS), .val (.int (1 : Int32)), .unset, .unset, .unset]) rfl ?_
        show Steps p.tables e below (T126.setTop (mkF m 177 #[.val (.int p0), .val (.int p1), .val (.int p2), .val (.int p3), .val (.int (1 : Int32)), .val (.int (own_e0 p1)), .val (.int (own_e1 p1 p2)), .val (.int (own_e2 p1 p2 p3)), .val (.ref b66), .val (.ref b81), .val (.ref aS), .val (.int (1 : Int32)), .unset, .unset, .unset] [])) _
        refine XS.iload X126.here hx rfl (hb hby at_177) rfl ?_
        show Steps p.tables e below (T126.setTop (mkF m 179 #[.val (.int p0), .val (.int p1), .val (.int p2), .val (.int p3), .val (.int (1 : Int32)), .val (.int (own_e0 p1)), .val (.int (own_e1 p1 p2)), .val (.int (own_e2 p1 p2 p3)), .val (.ref b66), .val (.ref b81), .val (.ref aS), .val (.int (1 : Int32)), .unset, .unset, .unset] [(.int (1 : Int32))])) _
        refine XS.iconst X126.here hx rfl (hb hby at_179) ?_
        show Steps p.tables e below (T126.setTop (mkF m 180 #[.val (.int p0), .val (.int p1), .val (.int p2), .val (.int p3), .val (.int (1 : Int32)), .val (.int (own_e0 p1)), .val (.int (own_e1 p1 p2)), .val (.int (own_e2 p1 p2 p3)), .val (.ref b66), .val (.ref b81), .val (.ref aS), .val (.int (1 : Int32)), .unset, .unset, .unset] [(.int (1 : Int32)), (.int (1 : Int32))])) _
        refine XS.icmpYes X126.here hx rfl (pc0 := 180) (pc' := 204) rfl (hb hby at_180) rfl (flt (by decide : ¬ ((1 : Int32) < (1 : Int32)))).2.2.2 (by decide) (by decide) ?_
        show Steps p.tables e below (T126.setTop (mkF m 204 #[.val (.int p0), .val (.int p1), .val (.int p2), .val (.int p3), .val (.int (1 : Int32)), .val (.int (own_e0 p1)), .val (.int (own_e1 p1 p2)), .val (.int (own_e2 p1 p2 p3)), .val (.ref b66), .val (.ref b81), .val (.ref aS), .val (.int (1 : Int32)), .unset, .unset, .unset] [])) _
        refine XS.iload X126.here hx rfl (hb hby at_204) rfl ?_
        show Steps p.tables e below (T126.setTop (mkF m 206 #[.val (.int p0), .val (.int p1), .val (.int p2), .val (.int p3), .val (.int (1 : Int32)), .val (.int (own_e0 p1)), .val (.int (own_e1 p1 p2)), .val (.int (own_e2 p1 p2 p3)), .val (.ref b66), .val (.ref b81), .val (.ref aS), .val (.int (1 : Int32)), .unset, .unset, .unset] [(.int (1 : Int32))])) _
        refine XS.iconst X126.here hx rfl (hb hby at_206) ?_
        show Steps p.tables e below (T126.setTop (mkF m 207 #[.val (.int p0), .val (.int p1), .val (.int p2), .val (.int p3), .val (.int (1 : Int32)), .val (.int (own_e0 p1)), .val (.int (own_e1 p1 p2)), .val (.int (own_e2 p1 p2 p3)), .val (.ref b66), .val (.ref b81), .val (.ref aS), .val (.int (1 : Int32)), .unset, .unset, .unset] [(.int (2 : Int32)), (.int (1 : Int32))])) _
        refine XS.icmpYes X126.here hx rfl (pc0 := 207) (pc' := 231) rfl (hb hby at_207) rfl (flt (by decide : ¬ ((2 : Int32) < (1 : Int32)))).2.2.2 (by decide) (by decide) ?_
        show Steps p.tables e below (T126.setTop (mkF m 231 #[.val (.int p0), .val (.int p1), .val (.int p2), .val (.int p3), .val (.int (1 : Int32)), .val (.int (own_e0 p1)), .val (.int (own_e1 p1 p2)), .val (.int (own_e2 p1 p2 p3)), .val (.ref b66), .val (.ref b81), .val (.ref aS), .val (.int (1 : Int32)), .unset, .unset, .unset] [])) _
        refine XS.iload X126.here hx rfl (hb hby at_231) rfl ?_
        show Steps p.tables e below (T126.setTop (mkF m 233 #[.val (.int p0), .val (.int p1), .val (.int p2), .val (.int p3), .val (.int (1 : Int32)), .val (.int (own_e0 p1)), .val (.int (own_e1 p1 p2)), .val (.int (own_e2 p1 p2 p3)), .val (.ref b66), .val (.ref b81), .val (.ref aS), .val (.int (1 : Int32)), .unset, .unset, .unset] [(.int (1 : Int32))])) _
        refine XS.ifNo X126.here hx rfl (hb hby at_233) rfl ((if0 _ _).trans (tlt (by decide : (0 : Int32) < (1 : Int32))).2.2.2) ?_
        show Steps p.tables e below (T126.setTop (mkF m 236 #[.val (.int p0), .val (.int p1), .val (.int p2), .val (.int p3), .val (.int (1 : Int32)), .val (.int (own_e0 p1)), .val (.int (own_e1 p1 p2)), .val (.int (own_e2 p1 p2 p3)), .val (.ref b66), .val (.ref b81), .val (.ref aS), .val (.int (1 : Int32)), .unset, .unset, .unset] [])) _
        refine XS.iload X126.here hx rfl (hb hby at_236) rfl ?_
        show Steps p.tables e below (T126.setTop (mkF m 238 #[.val (.int p0), .val (.int p1), .val (.int p2), .val (.int p3), .val (.int (1 : Int32)), .val (.int (own_e0 p1)), .val (.int (own_e1 p1 p2)), .val (.int (own_e2 p1 p2 p3)), .val (.ref b66), .val (.ref b81), .val (.ref aS), .val (.int (1 : Int32)), .unset, .unset, .unset] [(.int (own_e0 p1))])) _
        refine XS.ifNo X126.here hx rfl (hb hby at_238) rfl ((if0 _ _).trans (teq hz0).2) ?_
        show Steps p.tables e below (T126.setTop (mkF m 241 #[.val (.int p0), .val (.int p1), .val (.int p2), .val (.int p3), .val (.int (1 : Int32)), .val (.int (own_e0 p1)), .val (.int (own_e1 p1 p2)), .val (.int (own_e2 p1 p2 p3)), .val (.ref b66), .val (.ref b81), .val (.ref aS), .val (.int (1 : Int32)), .unset, .unset, .unset] [])) _
        refine XS.iconst X126.here hx rfl (hb hby at_241) ?_
        show Steps p.tables e below (T126.setTop (mkF m 242 #[.val (.int p0), .val (.int p1), .val (.int p2), .val (.int p3), .val (.int (1 : Int32)), .val (.int (own_e0 p1)), .val (.int (own_e1 p1 p2)), .val (.int (own_e2 p1 p2 p3)), .val (.ref b66), .val (.ref b81), .val (.ref aS), .val (.int (1 : Int32)), .unset, .unset, .unset] [(.int (1 : Int32))])) _
        refine XS.goto X126.here hx rfl (pc0 := 242) (pc' := 246) rfl (hb hby at_242) (by decide) (by decide) ?_
        show Steps p.tables e below (T126.setTop (mkF m 246 #[.val (.int p0), .val (.int p1), .val (.int p2), .val (.int p3), .val (.int (1 : Int32)), .val (.int (own_e0 p1)), .val (.int (own_e1 p1 p2)), .val (.int (own_e2 p1 p2 p3)), .val (.ref b66), .val (.ref b81), .val (.ref aS), .val (.int (1 : Int32)), .unset, .unset, .unset] [(.int (1 : Int32))])) _
        refine XS.istore X126.here hx rfl (hb hby at_246) rfl (l' := #[.val (.int p0), .val (.int p1), .val (.int p2), .val (.int p3), .val (.int (1 : Int32)), .val (.int (own_e0 p1)), .val (.int (own_e1 p1 p2)), .val (.int (own_e2 p1 p2 p3)), .val (.ref b66), .val (.ref b81), .val (.ref aS), .val (.int (1 : Int32)), .val (.int (1 : Int32)), .unset, .unset]) rfl ?_
        show Steps p.tables e below (T126.setTop (mkF m 248 #[.val (.int p0), .val (.int p1), .val (.int p2), .val (.int p3), .val (.int (1 : Int32)), .val (.int (own_e0 p1)), .val (.int (own_e1 p1 p2)), .val (.int (own_e2 p1 p2 p3)), .val (.ref b66), .val (.ref b81), .val (.ref aS), .val (.int (1 : Int32)), .val (.int (1 : Int32)), .unset, .unset] [])) _
        refine XS.iload X126.here hx rfl (hb hby at_248) rfl ?_
        show Steps p.tables e below (T126.setTop (mkF m 250 #[.val (.int p0), .val (.int p1), .val (.int p2), .val (.int p3), .val (.int (1 : Int32)), .val (.int (own_e0 p1)), .val (.int (own_e1 p1 p2)), .val (.int (own_e2 p1 p2 p3)), .val (.ref b66), .val (.ref b81), .val (.ref aS), .val (.int (1 : Int32)), .val (.int (1 : Int32)), .unset, .unset] [(.int (1 : Int32))])) _
        refine XS.ifNo X126.here hx rfl (hb hby at_250) rfl ((if0 _ _).trans (feq (by decide : ¬ ((1 : Int32) = (0 : Int32)))).1) ?_
        show Steps p.tables e below (T126.setTop (mkF m 253 #[.val (.int p0), .val (.int p1), .val (.int p2), .val (.int p3), .val (.int (1 : Int32)), .val (.int (own_e0 p1)), .val (.int (own_e1 p1 p2)), .val (.int (own_e2 p1 p2 p3)), .val (.ref b66), .val (.ref b81), .val (.ref aS), .val (.int (1 : Int32)), .val (.int (1 : Int32)), .unset, .unset] [])) _
        refine XS.iconst X126.here hx rfl (hb hby at_253) ?_
        show Steps p.tables e below (T126.setTop (mkF m 254 #[.val (.int p0), .val (.int p1), .val (.int p2), .val (.int p3), .val (.int (1 : Int32)), .val (.int (own_e0 p1)), .val (.int (own_e1 p1 p2)), .val (.int (own_e2 p1 p2 p3)), .val (.ref b66), .val (.ref b81), .val (.ref aS), .val (.int (1 : Int32)), .val (.int (1 : Int32)), .unset, .unset] [(.int (1 : Int32))])) _
        refine XS.goto X126.here hx rfl (pc0 := 254) (pc' := 258) rfl (hb hby at_254) (by decide) (by decide) ?_
        show Steps p.tables e below (T126.setTop (mkF m 258 #[.val (.int p0), .val (.int p1), .val (.int p2), .val (.int p3), .val (.int (1 : Int32)), .val (.int (own_e0 p1)), .val (.int (own_e1 p1 p2)), .val (.int (own_e2 p1 p2 p3)), .val (.ref b66), .val (.ref b81), .val (.ref aS), .val (.int (1 : Int32)), .val (.int (1 : Int32)), .unset, .unset] [(.int (1 : Int32))])) _
        refine XS.istore X126.here hx rfl (hb hby at_258) rfl (l' := #[.val (.int p0), .val (.int p1), .val (.int p2), .val (.int p3), .val (.int (1 : Int32)), .val (.int (own_e0 p1)), .val (.int (own_e1 p1 p2)), .val (.int (own_e2 p1 p2 p3)), .val (.ref b66), .val (.ref b81), .val (.ref aS), .val (.int (1 : Int32)), .val (.int (1 : Int32)), .val (.int (1 : Int32)), .unset]) rfl ?_
        show Steps p.tables e below (T126.setTop (mkF m 260 #[.val (.int p0), .val (.int p1), .val (.int p2), .val (.int p3), .val (.int (1 : Int32)), .val (.int (own_e0 p1)), .val (.int (own_e1 p1 p2)), .val (.int (own_e2 p1 p2 p3)), .val (.ref b66), .val (.ref b81), .val (.ref aS), .val (.int (1 : Int32)), .val (.int (1 : Int32)), .val (.int (1 : Int32)), .unset] [])) _
        refine XS.iload X126.here hx rfl (hb hby at_260) rfl ?_
        show Steps p.tables e below (T126.setTop (mkF m 262 #[.val (.int p0), .val (.int p1), .val (.int p2), .val (.int p3), .val (.int (1 : Int32)), .val (.int (own_e0 p1)), .val (.int (own_e1 p1 p2)), .val (.int (own_e2 p1 p2 p3)), .val (.ref b66), .val (.ref b81), .val (.ref aS), .val (.int (1 : Int32)), .val (.int (1 : Int32)), .val (.int (1 : Int32)), .unset] [(.int (1 : Int32))])) _
        refine XS.iload X126.here hx rfl (hb hby at_262) rfl ?_
        show Steps p.tables e below (T126.setTop (mkF m 264 #[.val (.int p0), .val (.int p1), .val (.int p2), .val (.int p3), .val (.int (1 : Int32)), .val (.int (own_e0 p1)), .val (.int (own_e1 p1 p2)), .val (.int (own_e2 p1 p2 p3)), .val (.ref b66), .val (.ref b81), .val (.ref aS), .val (.int (1 : Int32)), .val (.int (1 : Int32)), .val (.int (1 : Int32)), .unset] [(.int (1 : Int32)), (.int (1 : Int32))])) _
        refine XS.isub X126.here hx rfl (hb hby at_264) rfl ?_
        show Steps p.tables e below (T126.setTop (mkF m 265 #[.val (.int p0), .val (.int p1), .val (.int p2), .val (.int p3), .val (.int (1 : Int32)), .val (.int (own_e0 p1)), .val (.int (own_e1 p1 p2)), .val (.int (own_e2 p1 p2 p3)), .val (.ref b66), .val (.ref b81), .val (.ref aS), .val (.int (1 : Int32)), .val (.int (1 : Int32)), .val (.int (1 : Int32)), .unset] [(.int (0 : Int32))])) _
        refine XS.istore X126.here hx rfl (hb hby at_265) rfl (l' := #[.val (.int p0), .val (.int p1), .val (.int p2), .val (.int p3), .val (.int (1 : Int32)), .val (.int (own_e0 p1)), .val (.int (own_e1 p1 p2)), .val (.int (own_e2 p1 p2 p3)), .val (.ref b66), .val (.ref b81), .val (.ref aS), .val (.int (1 : Int32)), .val (.int (1 : Int32)), .val (.int (1 : Int32)), .val (.int (0 : Int32))]) rfl ?_
        show Steps p.tables e below (T126.setTop (mkF m 267 #[.val (.int p0), .val (.int p1), .val (.int p2), .val (.int p3), .val (.int (1 : Int32)), .val (.int (own_e0 p1)), .val (.int (own_e1 p1 p2)), .val (.int (own_e2 p1 p2 p3)), .val (.ref b66), .val (.ref b81), .val (.ref aS), .val (.int (1 : Int32)), .val (.int (1 : Int32)), .val (.int (1 : Int32)), .val (.int (0 : Int32))] [])) _
        refine XS.aload X126.here hx rfl (hb hby at_267) rfl rfl ?_
        show Steps p.tables e below (T126.setTop (mkF m 269 #[.val (.int p0), .val (.int p1), .val (.int p2), .val (.int p3), .val (.int (1 : Int32)), .val (.int (own_e0 p1)), .val (.int (own_e1 p1 p2)), .val (.int (own_e2 p1 p2 p3)), .val (.ref b66), .val (.ref b81), .val (.ref aS), .val (.int (1 : Int32)), .val (.int (1 : Int32)), .val (.int (1 : Int32)), .val (.int (0 : Int32))] [(.ref aS)])) _
        refine XS.ifnullNo X126.here hx rfl (hb hby at_269) rfl ?_
        show Steps p.tables e below (T126.setTop (mkF m 272 #[.val (.int p0), .val (.int p1), .val (.int p2), .val (.int p3), .val (.int (1 : Int32)), .val (.int (own_e0 p1)), .val (.int (own_e1 p1 p2)), .val (.int (own_e2 p1 p2 p3)), .val (.ref b66), .val (.ref b81), .val (.ref aS), .val (.int (1 : Int32)), .val (.int (1 : Int32)), .val (.int (1 : Int32)), .val (.int (0 : Int32))] [])) _
        refine XS.aload X126.here hx rfl (hb hby at_272) rfl rfl ?_
        show Steps p.tables e below (T126.setTop (mkF m 274 #[.val (.int p0), .val (.int p1), .val (.int p2), .val (.int p3), .val (.int (1 : Int32)), .val (.int (own_e0 p1)), .val (.int (own_e1 p1 p2)), .val (.int (own_e2 p1 p2 p3)), .val (.ref b66), .val (.ref b81), .val (.ref aS), .val (.int (1 : Int32)), .val (.int (1 : Int32)), .val (.int (1 : Int32)), .val (.int (0 : Int32))] [(.ref aS)])) _
        refine X126.arraylength hx Ar138.1 (State.isArrayOf_alike hZ.alike Ar138.2.1) (g := (mkF m 274 #[.val (.int p0), .val (.int p1), .val (.int p2), .val (.int p3), .val (.int (1 : Int32)), .val (.int (own_e0 p1)), .val (.int (own_e1 p1 p2)), .val (.int (own_e2 p1 p2 p3)), .val (.ref b66), .val (.ref b81), .val (.ref aS), .val (.int (1 : Int32)), .val (.int (1 : Int32)), .val (.int (1 : Int32)), .val (.int (0 : Int32))] [(.ref aS)])) rfl rfl (hb hby at_274) _ ?_
        rw [own_len (z := (0 : Int32)) S138 rfl]
        show Steps p.tables e below (T126.setTop (mkF m 275 #[.val (.int p0), .val (.int p1), .val (.int p2), .val (.int p3), .val (.int (1 : Int32)), .val (.int (own_e0 p1)), .val (.int (own_e1 p1 p2)), .val (.int (own_e2 p1 p2 p3)), .val (.ref b66), .val (.ref b81), .val (.ref aS), .val (.int (1 : Int32)), .val (.int (1 : Int32)), .val (.int (1 : Int32)), .val (.int (0 : Int32))] [(.int (0 : Int32))])) _
        refine XS.iload X126.here hx rfl (hb hby at_275) rfl ?_
        show Steps p.tables e below (T126.setTop (mkF m 277 #[.val (.int p0), .val (.int p1), .val (.int p2), .val (.int p3), .val (.int (1 : Int32)), .val (.int (own_e0 p1)), .val (.int (own_e1 p1 p2)), .val (.int (own_e2 p1 p2 p3)), .val (.ref b66), .val (.ref b81), .val (.ref aS), .val (.int (1 : Int32)), .val (.int (1 : Int32)), .val (.int (1 : Int32)), .val (.int (0 : Int32))] [(.int (0 : Int32)), (.int (0 : Int32))])) _
        refine XS.icmpYes X126.here hx rfl (pc0 := 277) (pc' := 282) rfl (hb hby at_277) rfl (teq (rfl : (0 : Int32) = (0 : Int32))).1 (by decide) (by decide) ?_
        show Steps p.tables e below (T126.setTop (mkF m 282 #[.val (.int p0), .val (.int p1), .val (.int p2), .val (.int p3), .val (.int (1 : Int32)), .val (.int (own_e0 p1)), .val (.int (own_e1 p1 p2)), .val (.int (own_e2 p1 p2 p3)), .val (.ref b66), .val (.ref b81), .val (.ref aS), .val (.int (1 : Int32)), .val (.int (1 : Int32)), .val (.int (1 : Int32)), .val (.int (0 : Int32))] [])) _
        refine XS.iload X126.here hx rfl (hb hby at_282) rfl ?_
        show Steps p.tables e below (T126.setTop (mkF m 284 #[.val (.int p0), .val (.int p1), .val (.int p2), .val (.int p3), .val (.int (1 : Int32)), .val (.int (own_e0 p1)), .val (.int (own_e1 p1 p2)), .val (.int (own_e2 p1 p2 p3)), .val (.ref b66), .val (.ref b81), .val (.ref aS), .val (.int (1 : Int32)), .val (.int (1 : Int32)), .val (.int (1 : Int32)), .val (.int (0 : Int32))] [(.int (0 : Int32))])) _
        refine XS.ifYes X126.here hx rfl (pc0 := 284) (pc' := 313) rfl (hb hby at_284) rfl ((if0 _ _).trans (flt (by decide : ¬ ((0 : Int32) < (0 : Int32)))).2.2.2) (by decide) (by decide) ?_
        show Steps p.tables e below (T126.setTop (mkF m 313 #[.val (.int p0), .val (.int p1), .val (.int p2), .val (.int p3), .val (.int (1 : Int32)), .val (.int (own_e0 p1)), .val (.int (own_e1 p1 p2)), .val (.int (own_e2 p1 p2 p3)), .val (.ref b66), .val (.ref b81), .val (.ref aS), .val (.int (1 : Int32)), .val (.int (1 : Int32)), .val (.int (1 : Int32)), .val (.int (0 : Int32))] [])) _
        refine XS.iload X126.here hx rfl (hb hby at_313) rfl ?_
        show Steps p.tables e below (T126.setTop (mkF m 315 #[.val (.int p0), .val (.int p1), .val (.int p2), .val (.int p3), .val (.int (1 : Int32)), .val (.int (own_e0 p1)), .val (.int (own_e1 p1 p2)), .val (.int (own_e2 p1 p2 p3)), .val (.ref b66), .val (.ref b81), .val (.ref aS), .val (.int (1 : Int32)), .val (.int (1 : Int32)), .val (.int (1 : Int32)), .val (.int (0 : Int32))] [(.int (0 : Int32))])) _
        refine XS.iconst X126.here hx rfl (hb hby at_315) ?_
        show Steps p.tables e below (T126.setTop (mkF m 316 #[.val (.int p0), .val (.int p1), .val (.int p2), .val (.int p3), .val (.int (1 : Int32)), .val (.int (own_e0 p1)), .val (.int (own_e1 p1 p2)), .val (.int (own_e2 p1 p2 p3)), .val (.ref b66), .val (.ref b81), .val (.ref aS), .val (.int (1 : Int32)), .val (.int (1 : Int32)), .val (.int (1 : Int32)), .val (.int (0 : Int32))] [(.int (1 : Int32)), (.int (0 : Int32))])) _
        refine XS.icmpYes X126.here hx rfl (pc0 := 316) (pc' := 347) rfl (hb hby at_316) rfl (flt (by decide : ¬ ((1 : Int32) < (0 : Int32)))).2.2.2 (by decide) (by decide) ?_
        show Steps p.tables e below (T126.setTop (mkF m 347 #[.val (.int p0), .val (.int p1), .val (.int p2), .val (.int p3), .val (.int (1 : Int32)), .val (.int (own_e0 p1)), .val (.int (own_e1 p1 p2)), .val (.int (own_e2 p1 p2 p3)), .val (.ref b66), .val (.ref b81), .val (.ref aS), .val (.int (1 : Int32)), .val (.int (1 : Int32)), .val (.int (1 : Int32)), .val (.int (0 : Int32))] [])) _
        refine XS.iload X126.here hx rfl (hb hby at_347) rfl ?_
        show Steps p.tables e below (T126.setTop (mkF m 349 #[.val (.int p0), .val (.int p1), .val (.int p2), .val (.int p3), .val (.int (1 : Int32)), .val (.int (own_e0 p1)), .val (.int (own_e1 p1 p2)), .val (.int (own_e2 p1 p2 p3)), .val (.ref b66), .val (.ref b81), .val (.ref aS), .val (.int (1 : Int32)), .val (.int (1 : Int32)), .val (.int (1 : Int32)), .val (.int (0 : Int32))] [(.int (0 : Int32))])) _
        refine XS.iconst X126.here hx rfl (hb hby at_349) ?_
        show Steps p.tables e below (T126.setTop (mkF m 350 #[.val (.int p0), .val (.int p1), .val (.int p2), .val (.int p3), .val (.int (1 : Int32)), .val (.int (own_e0 p1)), .val (.int (own_e1 p1 p2)), .val (.int (own_e2 p1 p2 p3)), .val (.ref b66), .val (.ref b81), .val (.ref aS), .val (.int (1 : Int32)), .val (.int (1 : Int32)), .val (.int (1 : Int32)), .val (.int (0 : Int32))] [(.int (2 : Int32)), (.int (0 : Int32))])) _
        refine XS.icmpYes X126.here hx rfl (pc0 := 350) (pc' := 381) rfl (hb hby at_350) rfl (flt (by decide : ¬ ((2 : Int32) < (0 : Int32)))).2.2.2 (by decide) (by decide) ?_
        show Steps p.tables e below (T126.setTop (mkF m 381 #[.val (.int p0), .val (.int p1), .val (.int p2), .val (.int p3), .val (.int (1 : Int32)), .val (.int (own_e0 p1)), .val (.int (own_e1 p1 p2)), .val (.int (own_e2 p1 p2 p3)), .val (.ref b66), .val (.ref b81), .val (.ref aS), .val (.int (1 : Int32)), .val (.int (1 : Int32)), .val (.int (1 : Int32)), .val (.int (0 : Int32))] [])) _
        refine XS.iload X126.here hx rfl (hb hby at_381) rfl ?_
        exact kt
      obtain ⟨fs, hr, hrun, hended, hW, hsame⟩ := X126.leave (v := some (.int (1 : Int32))) (fun h => by rw [Bd.returns] at h; cases h)
      refine ⟨_, _, pre139 _ ?_, hrun, hended, _, _, rfl, ?_, ⟨_, rfl⟩, hW, hsame.mono (by decide) (by decide)⟩
      · show Steps p.tables e below (T126.setTop (mkF m 383 #[.val (.int p0), .val (.int p1), .val (.int p2), .val (.int p3), .val (.int (1 : Int32)), .val (.int (own_e0 p1)), .val (.int (own_e1 p1 p2)), .val (.int (own_e2 p1 p2 p3)), .val (.ref b66), .val (.ref b81), .val (.ref aS), .val (.int (1 : Int32)), .val (.int (1 : Int32)), .val (.int (1 : Int32)), .val (.int (0 : Int32))] [(.int (1 : Int32))])) _
        exact retN X126 hx (t := .boolean) Bd.returns (by simp) (hb hby at_383) hr
      · show own_Q_law Z p0 p1 p2 p3 aS h0 n0 (some (.int (1 : Int32))) T126.heap _
        skip
        exact ⟨rfl, nf135⟩
    · skip
      have zs140 : n0 ≤ h113.size := Nat.le_trans Z0 k120.1
      obtain ⟨_, _, ⟨T141, L141, k141, n141⟩, -, X141, ⟨Lc141, hQ141, l141, y141, z141⟩, st141⟩ := Jvm.LawKit.callS X113 hx (y := (⟨"com/example/unfold/unfold/semantics/GateSets", "outsideHide", "([I)[I"⟩ : MethodName)) hown (mvT hZ (hw _ (List.mem_of_getElem? (i := 3) rfl))) (mvT hZ (hw _ (List.mem_of_getElem? (i := 4) rfl))) (mvT hZ (hw _ (List.mem_of_getElem? (i := 5) rfl))) (mvT hZ (hw _ (List.mem_of_getElem? (i := 6) rfl))) (by decide) (backOf (W := 0) (own_rm_oh1n l Z a0 hw [] b66 (own_e0 p1) h113 n0 zs140 f117 hz0) hZ (hw _ (List.mem_of_getElem? (i := 6) rfl)) (hw _ (List.mem_of_getElem? (i := 5) rfl)) (by decide) (by decide)) (g := (mkF m 131 #[.val (.int p0), .val (.int p1), .val (.int p2), .val (.int p3), .val (.int (1 : Int32)), .val (.int (own_e0 p1)), .val (.int (own_e1 p1 p2)), .val (.int (own_e2 p1 p2 p3)), .val (.ref b66), .val (.ref b81), .unset, .unset, .unset, .unset, .unset] [(.ref b66)])) rfl (by rw [hml]; rfl) (argsL := [(.ref b66)]) (rest := []) (lenOf own_pd0 rfl) rfl (by show 2 * 0 + _ ≤ _; exact Nat.le_of_eq rfl) (hb hby at_131) (fun _ _ => ⟨rfl, e113, (by decide : 2 + 1 ≤ _), (by decide : 4 + 1 ≤ _)⟩)
      dsimp only [Pt.U, Pt.locs, Pt.cells, Pt.slots] at X141 l141 y141 z141 st141 hQ141
      subst l141 y141 z141
      obtain ⟨r142, rfl, N142, K142, c142_0, c142_1⟩ := hQ141
      have sz_r142 : h0.size ≤ r142 := Nat.le_trans k120.1 c142_0
      have gn_r142 : n0 ≤ r142 := Nat.le_trans Z0 sz_r142
      have ne_aS_r142 : aS ≠ r142 := Nat.ne_of_lt (Nat.lt_of_lt_of_le f115.lt c142_0)
      have ne_b66_r142 : b66 ≠ r142 := Nat.ne_of_lt (Nat.lt_of_lt_of_le f117.lt c142_0)
      have ne_b81_r142 : b81 ≠ r142 := Nat.ne_of_lt (Nat.lt_of_lt_of_le f123.lt c142_0)
      have f143 := own_sta_keep f114 K142 all0
      have f144 := f115.keep K142 nin0
      have f145 := f116.keep K142
      have f146 := f117.keep K142 nin0
      have f147 := f118.keep K142
      have f148 := f123.keep K142 nin0
      have k149 := k120.trans K142 all0
      have nf150 := Fr.app nf121 N142
      obtain ⟨cl151, Ar151, S151, -⟩ := id f146
      obtain ⟨cl152, Ar152, S152, H152⟩ := id f146
      have hin152 : ¬ ((0 : Int32) < 0 ∨ cl152.slots.size ≤ ((0 : Int32)).toNatClampNeg) := own_inb S152 (by decide) (by decide)
      have hat152 : cl152.slots[((0 : Int32)).toNatClampNeg]? = some (.int (own_e0 p1)) := H152 _ (by decide)
      obtain ⟨cl153, Ar153, S153, -⟩ := id c142_1
      obtain ⟨cl154, Ar154, S154, H154⟩ := id c142_1
      have hin154 : ¬ ((0 : Int32) < 0 ∨ cl154.slots.size ≤ ((0 : Int32)).toNatClampNeg) := own_inb S154 (by decide) (by decide)
      have hat154 : cl154.slots[((0 : Int32)).toNatClampNeg]? = some (.int ((own_e0 p1) - (1 : Int32))) := H154 _ (by decide)
      obtain ⟨cl155, Ar155, S155, H155⟩ := id f148
      have hin155 : ¬ ((0 : Int32) < 0 ∨ cl155.slots.size ≤ ((0 : Int32)).toNatClampNeg) := own_inb S155 (by decide) (by decide)
      have hat155 : cl155.slots[((0 : Int32)).toNatClampNeg]? = some (.int (own_e0 p1)) := H155 _ (by decide)
      have pre156 : ∀ t, Steps p.tables e below (T141.setTop (mkF m 383 #[.val (.int p0), .val (.int p1), .val (.int p2), .val (.int p3), .val (.int (1 : Int32)), .val (.int (own_e0 p1)), .val (.int (own_e1 p1 p2)), .val (.int (own_e2 p1 p2 p3)), .val (.ref b66), .val (.ref b81), .val (.ref r142), .val (.int (1 : Int32)), .val (.int (0 : Int32)), .val (.int (0 : Int32)), .val (.int (1 : Int32))] [(.int (1 : Int32))])) t → Steps p.tables e below (s₁.setTop (entryFrame m #[(.int p0), (.int p1), (.int p2), (.int p3)] maxLocals)) t := by
        intro t kt
        refine pre124 t ?_
        show Steps p.tables e below (T113.setTop (mkF m 129 #[.val (.int p0), .val (.int p1), .val (.int p2), .val (.int p3), .val (.int (1 : Int32)), .val (.int (own_e0 p1)), .val (.int (own_e1 p1 p2)), .val (.int (own_e2 p1 p2 p3)), .val (.ref b66), .val (.ref b81), .unset, .unset, .unset, .unset, .unset] [])) _
        refine XS.aload X113.here hx rfl (hb hby at_129) rfl rfl ?_
        show Steps p.tables e below (T113.setTop (mkF m 131 #[.val (.int p0), .val (.int p1), .val (.int p2), .val (.int p3), .val (.int (1 : Int32)), .val (.int (own_e0 p1)), .val (.int (own_e1 p1 p2)), .val (.int (own_e2 p1 p2 p3)), .val (.ref b66), .val (.ref b81), .unset, .unset, .unset, .unset, .unset] [(.ref b66)])) _
        refine st141 _ ?_
        show Steps p.tables e below (T141.setTop (mkF m 134 #[.val (.int p0), .val (.int p1), .val (.int p2), .val (.int p3), .val (.int (1 : Int32)), .val (.int (own_e0 p1)), .val (.int (own_e1 p1 p2)), .val (.int (own_e2 p1 p2 p3)), .val (.ref b66), .val (.ref b81), .unset, .unset, .unset, .unset, .unset] [(.ref r142)])) _
        refine XS.astore X141.here hx rfl (hb hby at_134) rfl rfl (l' := #[.val (.int p0), .val (.int p1), .val (.int p2), .val (.int p3), .val (.int (1 : Int32)), .val (.int (own_e0 p1)), .val (.int (own_e1 p1 p2)), .val (.int (own_e2 p1 p2 p3)), .val (.ref b66), .val (.ref b81), .val (.ref r142), .unset, .unset, .unset, .unset]) rfl ?_
        show Steps p.tables e below (T141.setTop (mkF m 136 #[.val (.int p0), .val (.int p1), .val (.int p2), .val (.int p3), .val (.int (1 : Int32)), .val (.int (own_e0 p1)), .val (.int (own_e1 p1 p2)), .val (.int (own_e2 p1 p2 p3)), .val (.ref b66), .val (.ref b81), .val (.ref r142), .unset, .unset, .unset, .unset] [])) _
        refine XS.aload X141.here hx rfl (hb hby at_136) rfl rfl ?_
        show Steps p.tables e below (T141.setTop (mkF m 138 #[.val (.int p0), .val (.int p1), .val (.int p2), .val (.int p3), .val (.int (1 : Int32)), .val (.int (own_e0 p1)), .val (.int (own_e1 p1 p2)), .val (.int (own_e2 p1 p2 p3)), .val (.ref b66), .val (.ref b81), .val (.ref r142), .unset, .unset, .unset, .unset] [(.ref b66)])) _
        refine X141.arraylength hx Ar151.1 (State.isArrayOf_alike hZ.alike Ar151.2.1) (g := (mkF m 138 #[.val (.int p0), .val (.int p1), .val (.int p2), .val (.int p3), .val (.int (1 : Int32)), .val (.int (own_e0 p1)), .val (.int (own_e1 p1 p2)), .val (.int (own_e2 p1 p2 p3)), .val (.ref b66), .val (.ref b81), .val (.ref r142), .unset, .unset, .unset, .unset] [(.ref b66)])) rfl rfl (hb hby at_138) _ ?_
        rw [own_len (z := (1 : Int32)) S151 rfl]
        show Steps p.tables e below (T141.setTop (mkF m 139 #[.val (.int p0), .val (.int p1), .val (.int p2), .val (.int p3), .val (.int (1 : Int32)), .val (.int (own_e0 p1)), .val (.int (own_e1 p1 p2)), .val (.int (own_e2 p1 p2 p3)), .val (.ref b66), .val (.ref b81), .val (.ref r142), .unset, .unset, .unset, .unset] [(.int (1 : Int32))])) _
        refine XS.iload X141.here hx rfl (hb hby at_139) rfl ?_
        show Steps p.tables e below (T141.setTop (mkF m 141 #[.val (.int p0), .val (.int p1), .val (.int p2), .val (.int p3), .val (.int (1 : Int32)), .val (.int (own_e0 p1)), .val (.int (own_e1 p1 p2)), .val (.int (own_e2 p1 p2 p3)), .val (.ref b66), .val (.ref b81), .val (.ref r142), .unset, .unset, .unset, .unset] [(.int (1 : Int32)), (.int (1 : Int32))])) _
        refine XS.icmpNo X141.here hx rfl (hb hby at_141) rfl (teq (rfl : (1 : Int32) = (1 : Int32))).2 ?_
        show Steps p.tables e below (T141.setTop (mkF m 144 #[.val (.int p0), .val (.int p1), .val (.int p2), .val (.int p3), .val (.int (1 : Int32)), .val (.int (own_e0 p1)), .val (.int (own_e1 p1 p2)), .val (.int (own_e2 p1 p2 p3)), .val (.ref b66), .val (.ref b81), .val (.ref r142), .unset, .unset, .unset, .unset] [])) _
        refine XS.iconst X141.here hx rfl (hb hby at_144) ?_
        show Steps p.tables e below (T141.setTop (mkF m 145 #[.val (.int p0), .val (.int p1), .val (.int p2), .val (.int p3), .val (.int (1 : Int32)), .val (.int (own_e0 p1)), .val (.int (own_e1 p1 p2)), .val (.int (own_e2 p1 p2 p3)), .val (.ref b66), .val (.ref b81), .val (.ref r142), .unset, .unset, .unset, .unset] [(.int (1 : Int32))])) _
        refine XS.goto X141.here hx rfl (pc0 := 145) (pc' := 149) rfl (hb hby at_145) (by decide) (by decide) ?_
        show Steps p.tables e below (T141.setTop (mkF m 149 #[.val (.int p0), .val (.int p1), .val (.int p2), .val (.int p3), .val (.int (1 : Int32)), .val (.int (own_e0 p1)), .val (.int (own_e1 p1 p2)), .val (.int (own_e2 p1 p2 p3)), .val (.ref b66), .val (.ref b81), .val (.ref r142), .unset, .unset, .unset, .unset] [(.int (1 : Int32))])) _
        refine XS.istore X141.here hx rfl (hb hby at_149) rfl (l' := #[.val (.int p0), .val (.int p1), .val (.int p2), .val (.int p3), .val (.int (1 : Int32)), .val (.int (own_e0 p1)), .val (.int (own_e1 p1 p2)), .val (.int (own_e2 p1 p2 p3)), .val (.ref b66), .val (.ref b81), .val (.ref r142), .val (.int (1 : Int32)), .unset, .unset, .unset]) rfl ?_
        show Steps p.tables e below (T141.setTop (mkF m 151 #[.val (.int p0), .val (.int p1), .val (.int p2), .val (.int p3), .val (.int (1 : Int32)), .val (.int (own_e0 p1)), .val (.int (own_e1 p1 p2)), .val (.int (own_e2 p1 p2 p3)), .val (.ref b66), .val (.ref b81), .val (.ref r142), .val (.int (1 : Int32)), .unset, .unset, .unset] [])) _
        refine XS.iload X141.here hx rfl (hb hby at_151) rfl ?_
        show Steps p.tables e below (T141.setTop (mkF m 153 #[.val (.int p0), .val (.int p1), .val (.int p2), .val (.int p3), .val (.int (1 : Int32)), .val (.int (own_e0 p1)), .val (.int (own_e1 p1 p2)), .val (.int (own_e2 p1 p2 p3)), .val (.ref b66), .val (.ref b81), .val (.ref r142), .val (.int (1 : Int32)), .unset, .unset, .unset] [(.int (1 : Int32))])) _
        refine XS.ifNo X141.here hx rfl (hb hby at_153) rfl ((if0 _ _).trans (tlt (by decide : (0 : Int32) < (1 : Int32))).2.2.2) ?_
        show Steps p.tables e below (T141.setTop (mkF m 156 #[.val (.int p0), .val (.int p1), .val (.int p2), .val (.int p3), .val (.int (1 : Int32)), .val (.int (own_e0 p1)), .val (.int (own_e1 p1 p2)), .val (.int (own_e2 p1 p2 p3)), .val (.ref b66), .val (.ref b81), .val (.ref r142), .val (.int (1 : Int32)), .unset, .unset, .unset] [])) _
        refine XS.iload X141.here hx rfl (hb hby at_156) rfl ?_
        show Steps p.tables e below (T141.setTop (mkF m 158 #[.val (.int p0), .val (.int p1), .val (.int p2), .val (.int p3), .val (.int (1 : Int32)), .val (.int (own_e0 p1)), .val (.int (own_e1 p1 p2)), .val (.int (own_e2 p1 p2 p3)), .val (.ref b66), .val (.ref b81), .val (.ref r142), .val (.int (1 : Int32)), .unset, .unset, .unset] [(.int (1 : Int32))])) _
        refine XS.ifNo X141.here hx rfl (hb hby at_158) rfl ((if0 _ _).trans (feq (by decide : ¬ ((1 : Int32) = (0 : Int32)))).1) ?_
        show Steps p.tables e below (T141.setTop (mkF m 161 #[.val (.int p0), .val (.int p1), .val (.int p2), .val (.int p3), .val (.int (1 : Int32)), .val (.int (own_e0 p1)), .val (.int (own_e1 p1 p2)), .val (.int (own_e2 p1 p2 p3)), .val (.ref b66), .val (.ref b81), .val (.ref r142), .val (.int (1 : Int32)), .unset, .unset, .unset] [])) _
        refine XS.aload X141.here hx rfl (hb hby at_161) rfl rfl ?_
        show Steps p.tables e below (T141.setTop (mkF m 163 #[.val (.int p0), .val (.int p1), .val (.int p2), .val (.int p3), .val (.int (1 : Int32)), .val (.int (own_e0 p1)), .val (.int (own_e1 p1 p2)), .val (.int (own_e2 p1 p2 p3)), .val (.ref b66), .val (.ref b81), .val (.ref r142), .val (.int (1 : Int32)), .unset, .unset, .unset] [(.ref b66)])) _
        refine XS.iconst X141.here hx rfl (hb hby at_163) ?_
        show Steps p.tables e below (T141.setTop (mkF m 164 #[.val (.int p0), .val (.int p1), .val (.int p2), .val (.int p3), .val (.int (1 : Int32)), .val (.int (own_e0 p1)), .val (.int (own_e1 p1 p2)), .val (.int (own_e2 p1 p2 p3)), .val (.ref b66), .val (.ref b81), .val (.ref r142), .val (.int (1 : Int32)), .unset, .unset, .unset] [(.int (0 : Int32)), (.ref b66)])) _
        refine X141.iaload hx (j := (0 : Int32)) (v := (.int (own_e0 p1))) Ar152.1 (State.isArrayOf_alike hZ.alike Ar152.2.1) Ar152.2.2 hin152 hat152 (g := (mkF m 164 #[.val (.int p0), .val (.int p1), .val (.int p2), .val (.int p3), .val (.int (1 : Int32)), .val (.int (own_e0 p1)), .val (.int (own_e1 p1 p2)), .val (.int (own_e2 p1 p2 p3)), .val (.ref b66), .val (.ref b81), .val (.ref r142), .val (.int (1 : Int32)), .unset, .unset, .unset] [(.int (0 : Int32)), (.ref b66)])) rfl rfl (hb hby at_164) _ ?_
        show Steps p.tables e below (T141.setTop (mkF m 165 #[.val (.int p0), .val (.int p1), .val (.int p2), .val (.int p3), .val (.int (1 : Int32)), .val (.int (own_e0 p1)), .val (.int (own_e1 p1 p2)), .val (.int (own_e2 p1 p2 p3)), .val (.ref b66), .val (.ref b81), .val (.ref r142), .val (.int (1 : Int32)), .unset, .unset, .unset] [(.int (own_e0 p1))])) _
        refine XS.iload X141.here hx rfl (hb hby at_165) rfl ?_
        show Steps p.tables e below (T141.setTop (mkF m 167 #[.val (.int p0), .val (.int p1), .val (.int p2), .val (.int p3), .val (.int (1 : Int32)), .val (.int (own_e0 p1)), .val (.int (own_e1 p1 p2)), .val (.int (own_e2 p1 p2 p3)), .val (.ref b66), .val (.ref b81), .val (.ref r142), .val (.int (1 : Int32)), .unset, .unset, .unset] [(.int (own_e0 p1)), (.int (own_e0 p1))])) _
        refine XS.icmpNo X141.here hx rfl (hb hby at_167) rfl (teq (rfl : (own_e0 p1) = (own_e0 p1))).2 ?_
        show Steps p.tables e below (T141.setTop (mkF m 170 #[.val (.int p0), .val (.int p1), .val (.int p2), .val (.int p3), .val (.int (1 : Int32)), .val (.int (own_e0 p1)), .val (.int (own_e1 p1 p2)), .val (.int (own_e2 p1 p2 p3)), .val (.ref b66), .val (.ref b81), .val (.ref r142), .val (.int (1 : Int32)), .unset, .unset, .unset] [])) _
        refine XS.iconst X141.here hx rfl (hb hby at_170) ?_
        show Steps p.tables e below (T141.setTop (mkF m 171 #[.val (.int p0), .val (.int p1), .val (.int p2), .val (.int p3), .val (.int (1 : Int32)), .val (.int (own_e0 p1)), .val (.int (own_e1 p1 p2)), .val (.int (own_e2 p1 p2 p3)), .val (.ref b66), .val (.ref b81), .val (.ref r142), .val (.int (1 : Int32)), .unset, .unset, .unset] [(.int (1 : Int32))])) _
        refine XS.goto X141.here hx rfl (pc0 := 171) (pc' := 175) rfl (hb hby at_171) (by decide) (by decide) ?_
        show Steps p.tables e below (T141.setTop (mkF m 175 #[.val (.int p0), .val (.int p1), .val (.int p2), .val (.int p3), .val (.int (1 : Int32)), .val (.int (own_e0 p1)), .val (.int (own_e1 p1 p2)), .val (.int (own_e2 p1 p2 p3)), .val (.ref b66), .val (.ref b81), .val (.ref r142), .val (.int (1 : Int32)), .unset, .unset, .unset] [(.int (1 : Int32))])) _
        refine XS.istore X141.here hx rfl (hb hby at_175) rfl (l' := #[.val (.int p0), .val (.int p1), .val (.int p2), .val (.int p3), .val (.int (1 : Int32)), .val (.int (own_e0 p1)), .val (.int (own_e1 p1 p2)), .val (.int (own_e2 p1 p2 p3)), .val (.ref b66), .val (.ref b81), .val (.ref r142), .val (.int (1 : Int32)), .unset, .unset, .unset]) rfl ?_
        show Steps p.tables e below (T141.setTop (mkF m 177 #[.val (.int p0), .val (.int p1), .val (.int p2), .val (.int p3), .val (.int (1 : Int32)), .val (.int (own_e0 p1)), .val (.int (own_e1 p1 p2)), .val (.int (own_e2 p1 p2 p3)), .val (.ref b66), .val (.ref b81), .val (.ref r142), .val (.int (1 : Int32)), .unset, .unset, .unset] [])) _
        refine XS.iload X141.here hx rfl (hb hby at_177) rfl ?_
        show Steps p.tables e below (T141.setTop (mkF m 179 #[.val (.int p0), .val (.int p1), .val (.int p2), .val (.int p3), .val (.int (1 : Int32)), .val (.int (own_e0 p1)), .val (.int (own_e1 p1 p2)), .val (.int (own_e2 p1 p2 p3)), .val (.ref b66), .val (.ref b81), .val (.ref r142), .val (.int (1 : Int32)), .unset, .unset, .unset] [(.int (1 : Int32))])) _
        refine XS.iconst X141.here hx rfl (hb hby at_179) ?_
        show Steps p.tables e below (T141.setTop (mkF m 180 #[.val (.int p0), .val (.int p1), .val (.int p2), .val (.int p3), .val (.int (1 : Int32)), .val (.int (own_e0 p1)), .val (.int (own_e1 p1 p2)), .val (.int (own_e2 p1 p2 p3)), .val (.ref b66), .val (.ref b81), .val (.ref r142), .val (.int (1 : Int32)), .unset, .unset, .unset] [(.int (1 : Int32)), (.int (1 : Int32))])) _
        refine XS.icmpYes X141.here hx rfl (pc0 := 180) (pc' := 204) rfl (hb hby at_180) rfl (flt (by decide : ¬ ((1 : Int32) < (1 : Int32)))).2.2.2 (by decide) (by decide) ?_
        show Steps p.tables e below (T141.setTop (mkF m 204 #[.val (.int p0), .val (.int p1), .val (.int p2), .val (.int p3), .val (.int (1 : Int32)), .val (.int (own_e0 p1)), .val (.int (own_e1 p1 p2)), .val (.int (own_e2 p1 p2 p3)), .val (.ref b66), .val (.ref b81), .val (.ref r142), .val (.int (1 : Int32)), .unset, .unset, .unset] [])) _
        refine XS.iload X141.here hx rfl (hb hby at_204) rfl ?_
        show Steps p.tables e below (T141.setTop (mkF m 206 #[.val (.int p0), .val (.int p1), .val (.int p2), .val (.int p3), .val (.int (1 : Int32)), .val (.int (own_e0 p1)), .val (.int (own_e1 p1 p2)), .val (.int (own_e2 p1 p2 p3)), .val (.ref b66), .val (.ref b81), .val (.ref r142), .val (.int (1 : Int32)), .unset, .unset, .unset] [(.int (1 : Int32))])) _
        refine XS.iconst X141.here hx rfl (hb hby at_206) ?_
        show Steps p.tables e below (T141.setTop (mkF m 207 #[.val (.int p0), .val (.int p1), .val (.int p2), .val (.int p3), .val (.int (1 : Int32)), .val (.int (own_e0 p1)), .val (.int (own_e1 p1 p2)), .val (.int (own_e2 p1 p2 p3)), .val (.ref b66), .val (.ref b81), .val (.ref r142), .val (.int (1 : Int32)), .unset, .unset, .unset] [(.int (2 : Int32)), (.int (1 : Int32))])) _
        refine XS.icmpYes X141.here hx rfl (pc0 := 207) (pc' := 231) rfl (hb hby at_207) rfl (flt (by decide : ¬ ((2 : Int32) < (1 : Int32)))).2.2.2 (by decide) (by decide) ?_
        show Steps p.tables e below (T141.setTop (mkF m 231 #[.val (.int p0), .val (.int p1), .val (.int p2), .val (.int p3), .val (.int (1 : Int32)), .val (.int (own_e0 p1)), .val (.int (own_e1 p1 p2)), .val (.int (own_e2 p1 p2 p3)), .val (.ref b66), .val (.ref b81), .val (.ref r142), .val (.int (1 : Int32)), .unset, .unset, .unset] [])) _
        refine XS.iload X141.here hx rfl (hb hby at_231) rfl ?_
        show Steps p.tables e below (T141.setTop (mkF m 233 #[.val (.int p0), .val (.int p1), .val (.int p2), .val (.int p3), .val (.int (1 : Int32)), .val (.int (own_e0 p1)), .val (.int (own_e1 p1 p2)), .val (.int (own_e2 p1 p2 p3)), .val (.ref b66), .val (.ref b81), .val (.ref r142), .val (.int (1 : Int32)), .unset, .unset, .unset] [(.int (1 : Int32))])) _
        refine XS.ifNo X141.here hx rfl (hb hby at_233) rfl ((if0 _ _).trans (tlt (by decide : (0 : Int32) < (1 : Int32))).2.2.2) ?_
        show Steps p.tables e below (T141.setTop (mkF m 236 #[.val (.int p0), .val (.int p1), .val (.int p2), .val (.int p3), .val (.int (1 : Int32)), .val (.int (own_e0 p1)), .val (.int (own_e1 p1 p2)), .val (.int (own_e2 p1 p2 p3)), .val (.ref b66), .val (.ref b81), .val (.ref r142), .val (.int (1 : Int32)), .unset, .unset, .unset] [])) _
        refine XS.iload X141.here hx rfl (hb hby at_236) rfl ?_
        show Steps p.tables e below (T141.setTop (mkF m 238 #[.val (.int p0), .val (.int p1), .val (.int p2), .val (.int p3), .val (.int (1 : Int32)), .val (.int (own_e0 p1)), .val (.int (own_e1 p1 p2)), .val (.int (own_e2 p1 p2 p3)), .val (.ref b66), .val (.ref b81), .val (.ref r142), .val (.int (1 : Int32)), .unset, .unset, .unset] [(.int (own_e0 p1))])) _
        refine XS.ifYes X141.here hx rfl (pc0 := 238) (pc' := 245) rfl (hb hby at_238) rfl ((if0 _ _).trans (feq hz0).2) (by decide) (by decide) ?_
        show Steps p.tables e below (T141.setTop (mkF m 245 #[.val (.int p0), .val (.int p1), .val (.int p2), .val (.int p3), .val (.int (1 : Int32)), .val (.int (own_e0 p1)), .val (.int (own_e1 p1 p2)), .val (.int (own_e2 p1 p2 p3)), .val (.ref b66), .val (.ref b81), .val (.ref r142), .val (.int (1 : Int32)), .unset, .unset, .unset] [])) _
        refine XS.iconst X141.here hx rfl (hb hby at_245) ?_
        show Steps p.tables e below (T141.setTop (mkF m 246 #[.val (.int p0), .val (.int p1), .val (.int p2), .val (.int p3), .val (.int (1 : Int32)), .val (.int (own_e0 p1)), .val (.int (own_e1 p1 p2)), .val (.int (own_e2 p1 p2 p3)), .val (.ref b66), .val (.ref b81), .val (.ref r142), .val (.int (1 : Int32)), .unset, .unset, .unset] [(.int (0 : Int32))])) _
        refine XS.istore X141.here hx rfl (hb hby at_246) rfl (l' := #[.val (.int p0), .val (.int p1), .val (.int p2), .val (.int p3), .val (.int (1 : Int32)), .val (.int (own_e0 p1)), .val (.int (own_e1 p1 p2)), .val (.int (own_e2 p1 p2 p3)), .val (.ref b66), .val (.ref b81), .val (.ref r142), .val (.int (1 : Int32)), .val (.int (0 : Int32)), .unset, .unset]) rfl ?_
        show Steps p.tables e below (T141.setTop (mkF m 248 #[.val (.int p0), .val (.int p1), .val (.int p2), .val (.int p3), .val (.int (1 : Int32)), .val (.int (own_e0 p1)), .val (.int (own_e1 p1 p2)), .val (.int (own_e2 p1 p2 p3)), .val (.ref b66), .val (.ref b81), .val (.ref r142), .val (.int (1 : Int32)), .val (.int (0 : Int32)), .unset, .unset] [])) _
        refine XS.iload X141.here hx rfl (hb hby at_248) rfl ?_
        show Steps p.tables e below (T141.setTop (mkF m 250 #[.val (.int p0), .val (.int p1), .val (.int p2), .val (.int p3), .val (.int (1 : Int32)), .val (.int (own_e0 p1)), .val (.int (own_e1 p1 p2)), .val (.int (own_e2 p1 p2 p3)), .val (.ref b66), .val (.ref b81), .val (.ref r142), .val (.int (1 : Int32)), .val (.int (0 : Int32)), .unset, .unset] [(.int (0 : Int32))])) _
        refine XS.ifYes X141.here hx rfl (pc0 := 250) (pc' := 257) rfl (hb hby at_250) rfl ((if0 _ _).trans (teq (rfl : (0 : Int32) = (0 : Int32))).1) (by decide) (by decide) ?_
        show Steps p.tables e below (T141.setTop (mkF m 257 #[.val (.int p0), .val (.int p1), .val (.int p2), .val (.int p3), .val (.int (1 : Int32)), .val (.int (own_e0 p1)), .val (.int (own_e1 p1 p2)), .val (.int (own_e2 p1 p2 p3)), .val (.ref b66), .val (.ref b81), .val (.ref r142), .val (.int (1 : Int32)), .val (.int (0 : Int32)), .unset, .unset] [])) _
        refine XS.iconst X141.here hx rfl (hb hby at_257) ?_
        show Steps p.tables e below (T141.setTop (mkF m 258 #[.val (.int p0), .val (.int p1), .val (.int p2), .val (.int p3), .val (.int (1 : Int32)), .val (.int (own_e0 p1)), .val (.int (own_e1 p1 p2)), .val (.int (own_e2 p1 p2 p3)), .val (.ref b66), .val (.ref b81), .val (.ref r142), .val (.int (1 : Int32)), .val (.int (0 : Int32)), .unset, .unset] [(.int (0 : Int32))])) _
        refine XS.istore X141.here hx rfl (hb hby at_258) rfl (l' := #[.val (.int p0), .val (.int p1), .val (.int p2), .val (.int p3), .val (.int (1 : Int32)), .val (.int (own_e0 p1)), .val (.int (own_e1 p1 p2)), .val (.int (own_e2 p1 p2 p3)), .val (.ref b66), .val (.ref b81), .val (.ref r142), .val (.int (1 : Int32)), .val (.int (0 : Int32)), .val (.int (0 : Int32)), .unset]) rfl ?_
        show Steps p.tables e below (T141.setTop (mkF m 260 #[.val (.int p0), .val (.int p1), .val (.int p2), .val (.int p3), .val (.int (1 : Int32)), .val (.int (own_e0 p1)), .val (.int (own_e1 p1 p2)), .val (.int (own_e2 p1 p2 p3)), .val (.ref b66), .val (.ref b81), .val (.ref r142), .val (.int (1 : Int32)), .val (.int (0 : Int32)), .val (.int (0 : Int32)), .unset] [])) _
        refine XS.iload X141.here hx rfl (hb hby at_260) rfl ?_
        show Steps p.tables e below (T141.setTop (mkF m 262 #[.val (.int p0), .val (.int p1), .val (.int p2), .val (.int p3), .val (.int (1 : Int32)), .val (.int (own_e0 p1)), .val (.int (own_e1 p1 p2)), .val (.int (own_e2 p1 p2 p3)), .val (.ref b66), .val (.ref b81), .val (.ref r142), .val (.int (1 : Int32)), .val (.int (0 : Int32)), .val (.int (0 : Int32)), .unset] [(.int (1 : Int32))])) _
        refine XS.iload X141.here hx rfl (hb hby at_262) rfl ?_
        show Steps p.tables e below (T141.setTop (mkF m 264 #[.val (.int p0), .val (.int p1), .val (.int p2), .val (.int p3), .val (.int (1 : Int32)), .val (.int (own_e0 p1)), .val (.int (own_e1 p1 p2)), .val (.int (own_e2 p1 p2 p3)), .val (.ref b66), .val (.ref b81), .val (.ref r142), .val (.int (1 : Int32)), .val (.int (0 : Int32)), .val (.int (0 : Int32)), .unset] [(.int (0 : Int32)), (.int (1 : Int32))])) _
        refine XS.isub X141.here hx rfl (hb hby at_264) rfl ?_
        show Steps p.tables e below (T141.setTop (mkF m 265 #[.val (.int p0), .val (.int p1), .val (.int p2), .val (.int p3), .val (.int (1 : Int32)), .val (.int (own_e0 p1)), .val (.int (own_e1 p1 p2)), .val (.int (own_e2 p1 p2 p3)), .val (.ref b66), .val (.ref b81), .val (.ref r142), .val (.int (1 : Int32)), .val (.int (0 : Int32)), .val (.int (0 : Int32)), .unset] [(.int (1 : Int32))])) _
        refine XS.istore X141.here hx rfl (hb hby at_265) rfl (l' := #[.val (.int p0), .val (.int p1), .val (.int p2), .val (.int p3), .val (.int (1 : Int32)), .val (.int (own_e0 p1)), .val (.int (own_e1 p1 p2)), .val (.int (own_e2 p1 p2 p3)), .val (.ref b66), .val (.ref b81), .val (.ref r142), .val (.int (1 : Int32)), .val (.int (0 : Int32)), .val (.int (0 : Int32)), .val (.int (1 : Int32))]) rfl ?_
        show Steps p.tables e below (T141.setTop (mkF m 267 #[.val (.int p0), .val (.int p1), .val (.int p2), .val (.int p3), .val (.int (1 : Int32)), .val (.int (own_e0 p1)), .val (.int (own_e1 p1 p2)), .val (.int (own_e2 p1 p2 p3)), .val (.ref b66), .val (.ref b81), .val (.ref r142), .val (.int (1 : Int32)), .val (.int (0 : Int32)), .val (.int (0 : Int32)), .val (.int (1 : Int32))] [])) _
        refine XS.aload X141.here hx rfl (hb hby at_267) rfl rfl ?_
        show Steps p.tables e below (T141.setTop (mkF m 269 #[.val (.int p0), .val (.int p1), .val (.int p2), .val (.int p3), .val (.int (1 : Int32)), .val (.int (own_e0 p1)), .val (.int (own_e1 p1 p2)), .val (.int (own_e2 p1 p2 p3)), .val (.ref b66), .val (.ref b81), .val (.ref r142), .val (.int (1 : Int32)), .val (.int (0 : Int32)), .val (.int (0 : Int32)), .val (.int (1 : Int32))] [(.ref r142)])) _
        refine XS.ifnullNo X141.here hx rfl (hb hby at_269) rfl ?_
        show Steps p.tables e below (T141.setTop (mkF m 272 #[.val (.int p0), .val (.int p1), .val (.int p2), .val (.int p3), .val (.int (1 : Int32)), .val (.int (own_e0 p1)), .val (.int (own_e1 p1 p2)), .val (.int (own_e2 p1 p2 p3)), .val (.ref b66), .val (.ref b81), .val (.ref r142), .val (.int (1 : Int32)), .val (.int (0 : Int32)), .val (.int (0 : Int32)), .val (.int (1 : Int32))] [])) _
        refine XS.aload X141.here hx rfl (hb hby at_272) rfl rfl ?_
        show Steps p.tables e below (T141.setTop (mkF m 274 #[.val (.int p0), .val (.int p1), .val (.int p2), .val (.int p3), .val (.int (1 : Int32)), .val (.int (own_e0 p1)), .val (.int (own_e1 p1 p2)), .val (.int (own_e2 p1 p2 p3)), .val (.ref b66), .val (.ref b81), .val (.ref r142), .val (.int (1 : Int32)), .val (.int (0 : Int32)), .val (.int (0 : Int32)), .val (.int (1 : Int32))] [(.ref r142)])) _
        refine X141.arraylength hx Ar153.1 (State.isArrayOf_alike hZ.alike Ar153.2.1) (g := (mkF m 274 #[.val (.int p0), .val (.int p1), .val (.int p2), .val (.int p3), .val (.int (1 : Int32)), .val (.int (own_e0 p1)), .val (.int (own_e1 p1 p2)), .val (.int (own_e2 p1 p2 p3)), .val (.ref b66), .val (.ref b81), .val (.ref r142), .val (.int (1 : Int32)), .val (.int (0 : Int32)), .val (.int (0 : Int32)), .val (.int (1 : Int32))] [(.ref r142)])) rfl rfl (hb hby at_274) _ ?_
        rw [own_len (z := (1 : Int32)) S153 rfl]
        show Steps p.tables e below (T141.setTop (mkF m 275 #[.val (.int p0), .val (.int p1), .val (.int p2), .val (.int p3), .val (.int (1 : Int32)), .val (.int (own_e0 p1)), .val (.int (own_e1 p1 p2)), .val (.int (own_e2 p1 p2 p3)), .val (.ref b66), .val (.ref b81), .val (.ref r142), .val (.int (1 : Int32)), .val (.int (0 : Int32)), .val (.int (0 : Int32)), .val (.int (1 : Int32))] [(.int (1 : Int32))])) _
        refine XS.iload X141.here hx rfl (hb hby at_275) rfl ?_
        show Steps p.tables e below (T141.setTop (mkF m 277 #[.val (.int p0), .val (.int p1), .val (.int p2), .val (.int p3), .val (.int (1 : Int32)), .val (.int (own_e0 p1)), .val (.int (own_e1 p1 p2)), .val (.int (own_e2 p1 p2 p3)), .val (.ref b66), .val (.ref b81), .val (.ref r142), .val (.int (1 : Int32)), .val (.int (0 : Int32)), .val (.int (0 : Int32)), .val (.int (1 : Int32))] [(.int (1 : Int32)), (.int (1 : Int32))])) _
        refine XS.icmpYes X141.here hx rfl (pc0 := 277) (pc' := 282) rfl (hb hby at_277) rfl (teq (rfl : (1 : Int32) = (1 : Int32))).1 (by decide) (by decide) ?_
        show Steps p.tables e below (T141.setTop (mkF m 282 #[.val (.int p0), .val (.int p1), .val (.int p2), .val (.int p3), .val (.int (1 : Int32)), .val (.int (own_e0 p1)), .val (.int (own_e1 p1 p2)), .val (.int (own_e2 p1 p2 p3)), .val (.ref b66), .val (.ref b81), .val (.ref r142), .val (.int (1 : Int32)), .val (.int (0 : Int32)), .val (.int (0 : Int32)), .val (.int (1 : Int32))] [])) _
        refine XS.iload X141.here hx rfl (hb hby at_282) rfl ?_
        show Steps p.tables e below (T141.setTop (mkF m 284 #[.val (.int p0), .val (.int p1), .val (.int p2), .val (.int p3), .val (.int (1 : Int32)), .val (.int (own_e0 p1)), .val (.int (own_e1 p1 p2)), .val (.int (own_e2 p1 p2 p3)), .val (.ref b66), .val (.ref b81), .val (.ref r142), .val (.int (1 : Int32)), .val (.int (0 : Int32)), .val (.int (0 : Int32)), .val (.int (1 : Int32))] [(.int (1 : Int32))])) _
        refine XS.ifNo X141.here hx rfl (hb hby at_284) rfl ((if0 _ _).trans (tlt (by decide : (0 : Int32) < (1 : Int32))).2.2.2) ?_
        show Steps p.tables e below (T141.setTop (mkF m 287 #[.val (.int p0), .val (.int p1), .val (.int p2), .val (.int p3), .val (.int (1 : Int32)), .val (.int (own_e0 p1)), .val (.int (own_e1 p1 p2)), .val (.int (own_e2 p1 p2 p3)), .val (.ref b66), .val (.ref b81), .val (.ref r142), .val (.int (1 : Int32)), .val (.int (0 : Int32)), .val (.int (0 : Int32)), .val (.int (1 : Int32))] [])) _
        refine XS.iload X141.here hx rfl (hb hby at_287) rfl ?_
        show Steps p.tables e below (T141.setTop (mkF m 289 #[.val (.int p0), .val (.int p1), .val (.int p2), .val (.int p3), .val (.int (1 : Int32)), .val (.int (own_e0 p1)), .val (.int (own_e1 p1 p2)), .val (.int (own_e2 p1 p2 p3)), .val (.ref b66), .val (.ref b81), .val (.ref r142), .val (.int (1 : Int32)), .val (.int (0 : Int32)), .val (.int (0 : Int32)), .val (.int (1 : Int32))] [(.int (1 : Int32))])) _
        refine XS.ifNo X141.here hx rfl (hb hby at_289) rfl ((if0 _ _).trans (feq (by decide : ¬ ((1 : Int32) = (0 : Int32)))).1) ?_
        show Steps p.tables e below (T141.setTop (mkF m 292 #[.val (.int p0), .val (.int p1), .val (.int p2), .val (.int p3), .val (.int (1 : Int32)), .val (.int (own_e0 p1)), .val (.int (own_e1 p1 p2)), .val (.int (own_e2 p1 p2 p3)), .val (.ref b66), .val (.ref b81), .val (.ref r142), .val (.int (1 : Int32)), .val (.int (0 : Int32)), .val (.int (0 : Int32)), .val (.int (1 : Int32))] [])) _
        refine XS.aload X141.here hx rfl (hb hby at_292) rfl rfl ?_
        show Steps p.tables e below (T141.setTop (mkF m 294 #[.val (.int p0), .val (.int p1), .val (.int p2), .val (.int p3), .val (.int (1 : Int32)), .val (.int (own_e0 p1)), .val (.int (own_e1 p1 p2)), .val (.int (own_e2 p1 p2 p3)), .val (.ref b66), .val (.ref b81), .val (.ref r142), .val (.int (1 : Int32)), .val (.int (0 : Int32)), .val (.int (0 : Int32)), .val (.int (1 : Int32))] [(.ref r142)])) _
        refine XS.iconst X141.here hx rfl (hb hby at_294) ?_
        show Steps p.tables e below (T141.setTop (mkF m 295 #[.val (.int p0), .val (.int p1), .val (.int p2), .val (.int p3), .val (.int (1 : Int32)), .val (.int (own_e0 p1)), .val (.int (own_e1 p1 p2)), .val (.int (own_e2 p1 p2 p3)), .val (.ref b66), .val (.ref b81), .val (.ref r142), .val (.int (1 : Int32)), .val (.int (0 : Int32)), .val (.int (0 : Int32)), .val (.int (1 : Int32))] [(.int (0 : Int32)), (.ref r142)])) _
        refine X141.iaload hx (j := (0 : Int32)) (v := (.int ((own_e0 p1) - (1 : Int32)))) Ar154.1 (State.isArrayOf_alike hZ.alike Ar154.2.1) Ar154.2.2 hin154 hat154 (g := (mkF m 295 #[.val (.int p0), .val (.int p1), .val (.int p2), .val (.int p3), .val (.int (1 : Int32)), .val (.int (own_e0 p1)), .val (.int (own_e1 p1 p2)), .val (.int (own_e2 p1 p2 p3)), .val (.ref b66), .val (.ref b81), .val (.ref r142), .val (.int (1 : Int32)), .val (.int (0 : Int32)), .val (.int (0 : Int32)), .val (.int (1 : Int32))] [(.int (0 : Int32)), (.ref r142)])) rfl rfl (hb hby at_295) _ ?_
        show Steps p.tables e below (T141.setTop (mkF m 296 #[.val (.int p0), .val (.int p1), .val (.int p2), .val (.int p3), .val (.int (1 : Int32)), .val (.int (own_e0 p1)), .val (.int (own_e1 p1 p2)), .val (.int (own_e2 p1 p2 p3)), .val (.ref b66), .val (.ref b81), .val (.ref r142), .val (.int (1 : Int32)), .val (.int (0 : Int32)), .val (.int (0 : Int32)), .val (.int (1 : Int32))] [(.int ((own_e0 p1) - (1 : Int32)))])) _
        refine XS.aload X141.here hx rfl (hb hby at_296) rfl rfl ?_
        show Steps p.tables e below (T141.setTop (mkF m 298 #[.val (.int p0), .val (.int p1), .val (.int p2), .val (.int p3), .val (.int (1 : Int32)), .val (.int (own_e0 p1)), .val (.int (own_e1 p1 p2)), .val (.int (own_e2 p1 p2 p3)), .val (.ref b66), .val (.ref b81), .val (.ref r142), .val (.int (1 : Int32)), .val (.int (0 : Int32)), .val (.int (0 : Int32)), .val (.int (1 : Int32))] [(.ref b81), (.int ((own_e0 p1) - (1 : Int32)))])) _
        refine XS.iload X141.here hx rfl (hb hby at_298) rfl ?_
        show Steps p.tables e below (T141.setTop (mkF m 300 #[.val (.int p0), .val (.int p1), .val (.int p2), .val (.int p3), .val (.int (1 : Int32)), .val (.int (own_e0 p1)), .val (.int (own_e1 p1 p2)), .val (.int (own_e2 p1 p2 p3)), .val (.ref b66), .val (.ref b81), .val (.ref r142), .val (.int (1 : Int32)), .val (.int (0 : Int32)), .val (.int (0 : Int32)), .val (.int (1 : Int32))] [(.int (0 : Int32)), (.ref b81), (.int ((own_e0 p1) - (1 : Int32)))])) _
        refine X141.iaload hx (j := (0 : Int32)) (v := (.int (own_e0 p1))) Ar155.1 (State.isArrayOf_alike hZ.alike Ar155.2.1) Ar155.2.2 hin155 hat155 (g := (mkF m 300 #[.val (.int p0), .val (.int p1), .val (.int p2), .val (.int p3), .val (.int (1 : Int32)), .val (.int (own_e0 p1)), .val (.int (own_e1 p1 p2)), .val (.int (own_e2 p1 p2 p3)), .val (.ref b66), .val (.ref b81), .val (.ref r142), .val (.int (1 : Int32)), .val (.int (0 : Int32)), .val (.int (0 : Int32)), .val (.int (1 : Int32))] [(.int (0 : Int32)), (.ref b81), (.int ((own_e0 p1) - (1 : Int32)))])) rfl rfl (hb hby at_300) _ ?_
        show Steps p.tables e below (T141.setTop (mkF m 301 #[.val (.int p0), .val (.int p1), .val (.int p2), .val (.int p3), .val (.int (1 : Int32)), .val (.int (own_e0 p1)), .val (.int (own_e1 p1 p2)), .val (.int (own_e2 p1 p2 p3)), .val (.ref b66), .val (.ref b81), .val (.ref r142), .val (.int (1 : Int32)), .val (.int (0 : Int32)), .val (.int (0 : Int32)), .val (.int (1 : Int32))] [(.int (own_e0 p1)), (.int ((own_e0 p1) - (1 : Int32)))])) _
        refine XS.iconst X141.here hx rfl (hb hby at_301) ?_
        show Steps p.tables e below (T141.setTop (mkF m 302 #[.val (.int p0), .val (.int p1), .val (.int p2), .val (.int p3), .val (.int (1 : Int32)), .val (.int (own_e0 p1)), .val (.int (own_e1 p1 p2)), .val (.int (own_e2 p1 p2 p3)), .val (.ref b66), .val (.ref b81), .val (.ref r142), .val (.int (1 : Int32)), .val (.int (0 : Int32)), .val (.int (0 : Int32)), .val (.int (1 : Int32))] [(.int (1 : Int32)), (.int (own_e0 p1)), (.int ((own_e0 p1) - (1 : Int32)))])) _
        refine XS.isub X141.here hx rfl (hb hby at_302) rfl ?_
        show Steps p.tables e below (T141.setTop (mkF m 303 #[.val (.int p0), .val (.int p1), .val (.int p2), .val (.int p3), .val (.int (1 : Int32)), .val (.int (own_e0 p1)), .val (.int (own_e1 p1 p2)), .val (.int (own_e2 p1 p2 p3)), .val (.ref b66), .val (.ref b81), .val (.ref r142), .val (.int (1 : Int32)), .val (.int (0 : Int32)), .val (.int (0 : Int32)), .val (.int (1 : Int32))] [(.int ((own_e0 p1) - (1 : Int32))), (.int ((own_e0 p1) - (1 : Int32)))])) _
        refine XS.icmpNo X141.here hx rfl (hb hby at_303) rfl (teq (rfl : ((own_e0 p1) - (1 : Int32)) = ((own_e0 p1) - (1 : Int32)))).2 ?_
        show Steps p.tables e below (T141.setTop (mkF m 306 #[.val (.int p0), .val (.int p1), .val (.int p2), .val (.int p3), .val (.int (1 : Int32)), .val (.int (own_e0 p1)), .val (.int (own_e1 p1 p2)), .val (.int (own_e2 p1 p2 p3)), .val (.ref b66), .val (.ref b81), .val (.ref r142), .val (.int (1 : Int32)), .val (.int (0 : Int32)), .val (.int (0 : Int32)), .val (.int (1 : Int32))] [])) _
        refine XS.iconst X141.here hx rfl (hb hby at_306) ?_
        show Steps p.tables e below (T141.setTop (mkF m 307 #[.val (.int p0), .val (.int p1), .val (.int p2), .val (.int p3), .val (.int (1 : Int32)), .val (.int (own_e0 p1)), .val (.int (own_e1 p1 p2)), .val (.int (own_e2 p1 p2 p3)), .val (.ref b66), .val (.ref b81), .val (.ref r142), .val (.int (1 : Int32)), .val (.int (0 : Int32)), .val (.int (0 : Int32)), .val (.int (1 : Int32))] [(.int (1 : Int32))])) _
        refine XS.goto X141.here hx rfl (pc0 := 307) (pc' := 311) rfl (hb hby at_307) (by decide) (by decide) ?_
        show Steps p.tables e below (T141.setTop (mkF m 311 #[.val (.int p0), .val (.int p1), .val (.int p2), .val (.int p3), .val (.int (1 : Int32)), .val (.int (own_e0 p1)), .val (.int (own_e1 p1 p2)), .val (.int (own_e2 p1 p2 p3)), .val (.ref b66), .val (.ref b81), .val (.ref r142), .val (.int (1 : Int32)), .val (.int (0 : Int32)), .val (.int (0 : Int32)), .val (.int (1 : Int32))] [(.int (1 : Int32))])) _
        refine XS.istore X141.here hx rfl (hb hby at_311) rfl (l' := #[.val (.int p0), .val (.int p1), .val (.int p2), .val (.int p3), .val (.int (1 : Int32)), .val (.int (own_e0 p1)), .val (.int (own_e1 p1 p2)), .val (.int (own_e2 p1 p2 p3)), .val (.ref b66), .val (.ref b81), .val (.ref r142), .val (.int (1 : Int32)), .val (.int (0 : Int32)), .val (.int (0 : Int32)), .val (.int (1 : Int32))]) rfl ?_
        show Steps p.tables e below (T141.setTop (mkF m 313 #[.val (.int p0), .val (.int p1), .val (.int p2), .val (.int p3), .val (.int (1 : Int32)), .val (.int (own_e0 p1)), .val (.int (own_e1 p1 p2)), .val (.int (own_e2 p1 p2 p3)), .val (.ref b66), .val (.ref b81), .val (.ref r142), .val (.int (1 : Int32)), .val (.int (0 : Int32)), .val (.int (0 : Int32)), .val (.int (1 : Int32))] [])) _
        refine XS.iload X141.here hx rfl (hb hby at_313) rfl ?_
        show Steps p.tables e below (T141.setTop (mkF m 315 #[.val (.int p0), .val (.int p1), .val (.int p2), .val (.int p3), .val (.int (1 : Int32)), .val (.int (own_e0 p1)), .val (.int (own_e1 p1 p2)), .val (.int (own_e2 p1 p2 p3)), .val (.ref b66), .val (.ref b81), .val (.ref r142), .val (.int (1 : Int32)), .val (.int (0 : Int32)), .val (.int (0 : Int32)), .val (.int (1 : Int32))] [(.int (1 : Int32))])) _
        refine XS.iconst X141.here hx rfl (hb hby at_315) ?_
        show Steps p.tables e below (T141.setTop (mkF m 316 #[.val (.int p0), .val (.int p1), .val (.int p2), .val (.int p3), .val (.int (1 : Int32)), .val (.int (own_e0 p1)), .val (.int (own_e1 p1 p2)), .val (.int (own_e2 p1 p2 p3)), .val (.ref b66), .val (.ref b81), .val (.ref r142), .val (.int (1 : Int32)), .val (.int (0 : Int32)), .val (.int (0 : Int32)), .val (.int (1 : Int32))] [(.int (1 : Int32)), (.int (1 : Int32))])) _
        refine XS.icmpYes X141.here hx rfl (pc0 := 316) (pc' := 347) rfl (hb hby at_316) rfl (flt (by decide : ¬ ((1 : Int32) < (1 : Int32)))).2.2.2 (by decide) (by decide) ?_
        show Steps p.tables e below (T141.setTop (mkF m 347 #[.val (.int p0), .val (.int p1), .val (.int p2), .val (.int p3), .val (.int (1 : Int32)), .val (.int (own_e0 p1)), .val (.int (own_e1 p1 p2)), .val (.int (own_e2 p1 p2 p3)), .val (.ref b66), .val (.ref b81), .val (.ref r142), .val (.int (1 : Int32)), .val (.int (0 : Int32)), .val (.int (0 : Int32)), .val (.int (1 : Int32))] [])) _
        refine XS.iload X141.here hx rfl (hb hby at_347) rfl ?_
        show Steps p.tables e below (T141.setTop (mkF m 349 #[.val (.int p0), .val (.int p1), .val (.int p2), .val (.int p3), .val (.int (1 : Int32)), .val (.int (own_e0 p1)), .val (.int (own_e1 p1 p2)), .val (.int (own_e2 p1 p2 p3)), .val (.ref b66), .val (.ref b81), .val (.ref r142), .val (.int (1 : Int32)), .val (.int (0 : Int32)), .val (.int (0 : Int32)), .val (.int (1 : Int32))] [(.int (1 : Int32))])) _
        refine XS.iconst X141.here hx rfl (hb hby at_349) ?_
        show Steps p.tables e below (T141.setTop (mkF m 350 #[.val (.int p0), .val (.int p1), .val (.int p2), .val (.int p3), .val (.int (1 : Int32)), .val (.int (own_e0 p1)), .val (.int (own_e1 p1 p2)), .val (.int (own_e2 p1 p2 p3)), .val (.ref b66), .val (.ref b81), .val (.ref r142), .val (.int (1 : Int32)), .val (.int (0 : Int32)), .val (.int (0 : Int32)), .val (.int (1 : Int32))] [(.int (2 : Int32)), (.int (1 : Int32))])) _
        refine XS.icmpYes X141.here hx rfl (pc0 := 350) (pc' := 381) rfl (hb hby at_350) rfl (flt (by decide : ¬ ((2 : Int32) < (1 : Int32)))).2.2.2 (by decide) (by decide) ?_
        show Steps p.tables e below (T141.setTop (mkF m 381 #[.val (.int p0), .val (.int p1), .val (.int p2), .val (.int p3), .val (.int (1 : Int32)), .val (.int (own_e0 p1)), .val (.int (own_e1 p1 p2)), .val (.int (own_e2 p1 p2 p3)), .val (.ref b66), .val (.ref b81), .val (.ref r142), .val (.int (1 : Int32)), .val (.int (0 : Int32)), .val (.int (0 : Int32)), .val (.int (1 : Int32))] [])) _
        refine XS.iload X141.here hx rfl (hb hby at_381) rfl ?_
        exact kt
      obtain ⟨fs, hr, hrun, hended, hW, hsame⟩ := X141.leave (v := some (.int (1 : Int32))) (fun h => by rw [Bd.returns] at h; cases h)
      refine ⟨_, _, pre156 _ ?_, hrun, hended, _, _, rfl, ?_, ⟨_, rfl⟩, hW, hsame.mono (by decide) (by decide)⟩
      · show Steps p.tables e below (T141.setTop (mkF m 383 #[.val (.int p0), .val (.int p1), .val (.int p2), .val (.int p3), .val (.int (1 : Int32)), .val (.int (own_e0 p1)), .val (.int (own_e1 p1 p2)), .val (.int (own_e2 p1 p2 p3)), .val (.ref b66), .val (.ref b81), .val (.ref r142), .val (.int (1 : Int32)), .val (.int (0 : Int32)), .val (.int (0 : Int32)), .val (.int (1 : Int32))] [(.int (1 : Int32))])) _
        exact retN X141 hx (t := .boolean) Bd.returns (by simp) (hb hby at_383) hr
      · show own_Q_law Z p0 p1 p2 p3 aS h0 n0 (some (.int (1 : Int32))) T141.heap _
        skip
        exact ⟨rfl, nf150⟩
  · have pre157 : ∀ t, Steps p.tables e below (s₁.setTop (mkF m 33 #[.val (.int p0), .val (.int p1), .val (.int p2), .val (.int p3), .val (.int (2 : Int32)), .val (.int (own_e0 p1)), .val (.int (own_e1 p1 p2)), .val (.int (own_e2 p1 p2 p3)), .unset, .unset, .unset, .unset, .unset, .unset, .unset] [])) t → Steps p.tables e below (s₁.setTop (entryFrame m #[(.int p0), (.int p1), (.int p2), (.int p3)] maxLocals)) t := by
      intro t kt
      refine pre1 t ?_
      rw [hn2]
      exact kt
    obtain ⟨T158, h158, k158, X158, e158, E158, A158, I158, st158⟩ := newPE X0 hx hZ (hw _ (List.mem_of_getElem? (i := 2) rfl)) e0 (g := (mkF m 72 #[.val (.int p0), .val (.int p1), .val (.int p2), .val (.int p3), .val (.int (2 : Int32)), .val (.int (own_e0 p1)), .val (.int (own_e1 p1 p2)), .val (.int (own_e2 p1 p2 p3)), .unset, .unset, .unset, .unset, .unset, .unset, .unset] [(.int (2 : Int32))])) rfl (hb hby at_72) rfl (by decide) (cap := 2) (by decide) (by decide) (by decide) (by decide) (ad := "[I") rfl
    obtain ⟨b158, g158⟩ : ∃ z, z = h0.size := ⟨_, rfl⟩
    rw [← g158] at A158 I158 st158
    have sz_b158 : h0.size ≤ b158 := Nat.le_trans K0.1 (Nat.le_of_eq g158.symm)
    have gn_b158 : n0 ≤ b158 := Nat.le_trans Z0 sz_b158
    have ne_aS_b158 : aS ≠ b158 := Nat.ne_of_lt (Nat.lt_of_lt_of_le AS.lt (Nat.le_of_eq g158.symm))
    have f159 := S0.ext E158
    have f160 := AS.ext E158
    have k161 := K0.ext E158
    have f162 : own_A Z h158 b158 2 (own_v2 (0 : Int32) (0 : Int32)) := (own_A.new A158 rfl).congr (fun j hj => by rcases j with _ | _ | j <;> first | rfl | (simp [own_upd]; done) | omega)
    obtain ⟨cl163, Ar163, S163, H163⟩ := id f162
    have hin163 : ¬ ((0 : Int32) < 0 ∨ cl163.slots.size ≤ ((0 : Int32)).toNatClampNeg) := own_inb S163 (by decide) (by decide)
    obtain ⟨T164, h164, X164, e164, W164, st164⟩ := stI X158 hx hZ e158 Ar163 (j := (0 : Int32)) hin163 (g := (mkF m 78 #[.val (.int p0), .val (.int p1), .val (.int p2), .val (.int p3), .val (.int (2 : Int32)), .val (.int (own_e0 p1)), .val (.int (own_e1 p1 p2)), .val (.int (own_e2 p1 p2 p3)), .unset, .unset, .unset, .unset, .unset, .unset, .unset] [(.int (own_e0 p1)), (.int (0 : Int32)), (.ref b158), (.ref b158)])) rfl rfl (hb hby at_78)
    have f165 := f159.wr W164
    have f166 := f160.other W164 ne_aS_b158
    have f167 := I158.wr W164
    have k169 := k161.wr W164 (Or.inr sz_b158)
    have nf170 := Fr.snoc X164 N0 gn_b158
    have f171 := f162.set W164
    have f172 : own_A Z h164 b158 2 (own_v2 (own_e0 p1) (0 : Int32)) := f171.congr (fun j hj => by rcases j with _ | _ | j <;> first | rfl | (simp [own_upd]; done) | omega)
    obtain ⟨cl173, Ar173, S173, H173⟩ := id f172
    have hin173 : ¬ ((1 : Int32) < 0 ∨ cl173.slots.size ≤ ((1 : Int32)).toNatClampNeg) := own_inb S173 (by decide) (by decide)
    obtain ⟨T174, h174, X174, e174, W174, st174⟩ := stI X164 hx hZ e164 Ar173 (j := (1 : Int32)) hin173 (g := (mkF m 83 #[.val (.int p0), .val (.int p1), .val (.int p2), .val (.int p3), .val (.int (2 : Int32)), .val (.int (own_e0 p1)), .val (.int (own_e1 p1 p2)), .val (.int (own_e2 p1 p2 p3)), .unset, .unset, .unset, .unset, .unset, .unset, .unset] [(.int (own_e1 p1 p2)), (.int (1 : Int32)), (.ref b158), (.ref b158)])) rfl rfl (hb hby at_83)
    have f175 := f165.wr W174
    have f176 := f166.other W174 ne_aS_b158
    have f177 := f167.wr W174
    have k179 := k169.wr W174 (Or.inr sz_b158)
    have nf180 := Fr.snoc X174 nf170 gn_b158
    have f181 := f172.set W174
    have f182 : own_A Z h174 b158 2 (own_v2 (own_e0 p1) (own_e1 p1 p2)) := f181.congr (fun j hj => by rcases j with _ | _ | j <;> first | rfl | (simp [own_upd]; done) | omega)
    obtain ⟨T183, h183, k183, X183, e183, E183, A183, I183, st183⟩ := newPE X174 hx hZ (hw _ (List.mem_of_getElem? (i := 2) rfl)) e174 (g := (mkF m 110 #[.val (.int p0), .val (.int p1), .val (.int p2), .val (.int p3), .val (.int (2 : Int32)), .val (.int (own_e0 p1)), .val (.int (own_e1 p1 p2)), .val (.int (own_e2 p1 p2 p3)), .val (.ref b158), .unset, .unset, .unset, .unset, .unset, .unset] [(.int (3 : Int32))])) rfl (hb hby at_110) rfl (by decide) (cap := 3) (by decide) (by decide) (by decide) (by decide) (ad := "[I") rfl
    obtain ⟨b183, g183⟩ : ∃ z, z = h174.size := ⟨_, rfl⟩
    rw [← g183] at A183 I183 st183
    have sz_b183 : h0.size ≤ b183 := Nat.le_trans k179.1 (Nat.le_of_eq g183.symm)
    have gn_b183 : n0 ≤ b183 := Nat.le_trans Z0 sz_b183
    have ne_aS_b183 : aS ≠ b183 := Nat.ne_of_lt (Nat.lt_of_lt_of_le f176.lt (Nat.le_of_eq g183.symm))
    have ne_b158_b183 : b158 ≠ b183 := Nat.ne_of_lt (Nat.lt_of_lt_of_le f182.lt (Nat.le_of_eq g183.symm))
    have f184 := f175.ext E183
    have f185 := f176.ext E183
    have f186 := f177.ext E183
    have f187 := f182.ext E183
    have k188 := k179.ext E183
    have f189 : own_A Z h183 b183 3 (own_v3 (0 : Int32) (0 : Int32) (0 : Int32)) := (own_A.new A183 rfl).congr (fun j hj => by rcases j with _ | _ | _ | j <;> first | rfl | (simp [own_upd]; done) | omega)
    obtain ⟨cl190, Ar190, S190, H190⟩ := id f189
    have hin190 : ¬ ((0 : Int32) < 0 ∨ cl190.slots.size ≤ ((0 : Int32)).toNatClampNeg) := own_inb S190 (by decide) (by decide)
    obtain ⟨T191, h191, X191, e191, W191, st191⟩ := stI X183 hx hZ e183 Ar190 (j := (0 : Int32)) hin190 (g := (mkF m 116 #[.val (.int p0), .val (.int p1), .val (.int p2), .val (.int p3), .val (.int (2 : Int32)), .val (.int (own_e0 p1)), .val (.int (own_e1 p1 p2)), .val (.int (own_e2 p1 p2 p3)), .val (.ref b158), .unset, .unset, .unset, .unset, .unset, .unset] [(.int (own_e0 p1)), (.int (0 : Int32)), (.ref b183), (.ref b183)])) rfl rfl (hb hby at_116)
    have f192 := f184.wr W191
    have f193 := f185.other W191 ne_aS_b183
    have f194 := f186.wr W191
    have f195 := f187.other W191 ne_b158_b183
    have f196 := I183.wr W191
    have k198 := k188.wr W191 (Or.inr sz_b183)
    have nf199 := Fr.snoc X191 nf180 gn_b183
    have f200 := f189.set W191
    have f201 : own_A Z h191 b183 3 (own_v3 (own_e0 p1) (0 : Int32) (0 : Int32)) := f200.congr (fun j hj => by rcases j with _ | _ | _ | j <;> first | rfl | (simp [own_upd]; done) | omega)
    obtain ⟨cl202, Ar202, S202, H202⟩ := id f201
    have hin202 : ¬ ((1 : Int32) < 0 ∨ cl202.slots.size ≤ ((1 : Int32)).toNatClampNeg) := own_inb S202 (by decide) (by decide)
    obtain ⟨T203, h203, X203, e203, W203, st203⟩ := stI X191 hx hZ e191 Ar202 (j := (1 : Int32)) hin202 (g := (mkF m 121 #[.val (.int p0), .val (.int p1), .val (.int p2), .val (.int p3), .val (.int (2 : Int32)), .val (.int (own_e0 p1)), .val (.int (own_e1 p1 p2)), .val (.int (own_e2 p1 p2 p3)), .val (.ref b158), .unset, .unset, .unset, .unset, .unset, .unset] [(.int (own_e1 p1 p2)), (.int (1 : Int32)), (.ref b183), (.ref b183)])) rfl rfl (hb hby at_121)
    have f204 := f192.wr W203
    have f205 := f193.other W203 ne_aS_b183
    have f206 := f194.wr W203
    have f207 := f195.other W203 ne_b158_b183
    have f208 := f196.wr W203
    have k210 := k198.wr W203 (Or.inr sz_b183)
    have nf211 := Fr.snoc X203 nf199 gn_b183
    have f212 := f201.set W203
    have f213 : own_A Z h203 b183 3 (own_v3 (own_e0 p1) (own_e1 p1 p2) (0 : Int32)) := f212.congr (fun j hj => by rcases j with _ | _ | _ | j <;> first | rfl | (simp [own_upd]; done) | omega)
    obtain ⟨cl214, Ar214, S214, H214⟩ := id f213
    have hin214 : ¬ ((2 : Int32) < 0 ∨ cl214.slots.size ≤ ((2 : Int32)).toNatClampNeg) := own_inb S214 (by decide) (by decide)
    obtain ⟨T215, h215, X215, e215, W215, st215⟩ := stI X203 hx hZ e203 Ar214 (j := (2 : Int32)) hin214 (g := (mkF m 126 #[.val (.int p0), .val (.int p1), .val (.int p2), .val (.int p3), .val (.int (2 : Int32)), .val (.int (own_e0 p1)), .val (.int (own_e1 p1 p2)), .val (.int (own_e2 p1 p2 p3)), .val (.ref b158), .unset, .unset, .unset, .unset, .unset, .unset] [(.int (own_e2 p1 p2 p3)), (.int (2 : Int32)), (.ref b183), (.ref b183)])) rfl rfl (hb hby at_126)
    have f216 := f204.wr W215
    have f217 := f205.other W215 ne_aS_b183
    have f218 := f206.wr W215
    have f219 := f207.other W215 ne_b158_b183
    have f220 := f208.wr W215
    have k222 := k210.wr W215 (Or.inr sz_b183)
    have nf223 := Fr.snoc X215 nf211 gn_b183
    have f224 := f213.set W215
    have f225 : own_A Z h215 b183 3 (own_v3 (own_e0 p1) (own_e1 p1 p2) (own_e2 p1 p2 p3)) := f224.congr (fun j hj => by rcases j with _ | _ | _ | j <;> first | rfl | (simp [own_upd]; done) | omega)
    have pre226 : ∀ t, Steps p.tables e below (T215.setTop (mkF m 129 #[.val (.int p0), .val (.int p1), .val (.int p2), .val (.int p3), .val (.int (2 : Int32)), .val (.int (own_e0 p1)), .val (.int (own_e1 p1 p2)), .val (.int (own_e2 p1 p2 p3)), .val (.ref b158), .val (.ref b183), .unset, .unset, .unset, .unset, .unset] [])) t → Steps p.tables e below (s₁.setTop (entryFrame m #[(.int p0), (.int p1), (.int p2), (.int p3)] maxLocals)) t := by
      intro t kt
      refine pre157 t ?_
      show Steps p.tables e below (s₁.setTop (mkF m 33 #[.val (.int p0), .val (.int p1), .val (.int p2), .val (.int p3), .val (.int (2 : Int32)), .val (.int (own_e0 p1)), .val (.int (own_e1 p1 p2)), .val (.int (own_e2 p1 p2 p3)), .unset, .unset, .unset, .unset, .unset, .unset, .unset] [])) _
      refine XS.iload X0.here hx rfl (hb hby at_33) rfl ?_
      show Steps p.tables e below (s₁.setTop (mkF m 35 #[.val (.int p0), .val (.int p1), .val (.int p2), .val (.int p3), .val (.int (2 : Int32)), .val (.int (own_e0 p1)), .val (.int (own_e1 p1 p2)), .val (.int (own_e2 p1 p2 p3)), .unset, .unset, .unset, .unset, .unset, .unset, .unset] [(.int (2 : Int32))])) _
      refine XS.ifYes X0.here hx rfl (pc0 := 35) (pc' := 46) rfl (hb hby at_35) rfl ((if0 _ _).trans (feq (by decide : ¬ ((2 : Int32) = (0 : Int32)))).2) (by decide) (by decide) ?_
      show Steps p.tables e below (s₁.setTop (mkF m 46 #[.val (.int p0), .val (.int p1), .val (.int p2), .val (.int p3), .val (.int (2 : Int32)), .val (.int (own_e0 p1)), .val (.int (own_e1 p1 p2)), .val (.int (own_e2 p1 p2 p3)), .unset, .unset, .unset, .unset, .unset, .unset, .unset] [])) _
      refine XS.iload X0.here hx rfl (hb hby at_46) rfl ?_
      show Steps p.tables e below (s₁.setTop (mkF m 48 #[.val (.int p0), .val (.int p1), .val (.int p2), .val (.int p3), .val (.int (2 : Int32)), .val (.int (own_e0 p1)), .val (.int (own_e1 p1 p2)), .val (.int (own_e2 p1 p2 p3)), .unset, .unset, .unset, .unset, .unset, .unset, .unset] [(.int (2 : Int32))])) _
      refine XS.iconst X0.here hx rfl (hb hby at_48) ?_
      show Steps p.tables e below (s₁.setTop (mkF m 49 #[.val (.int p0), .val (.int p1), .val (.int p2), .val (.int p3), .val (.int (2 : Int32)), .val (.int (own_e0 p1)), .val (.int (own_e1 p1 p2)), .val (.int (own_e2 p1 p2 p3)), .unset, .unset, .unset, .unset, .unset, .unset, .unset] [(.int (1 : Int32)), (.int (2 : Int32))])) _
      refine XS.icmpYes X0.here hx rfl (pc0 := 49) (pc' := 65) rfl (hb hby at_49) rfl (feq (by decide : ¬ ((2 : Int32) = (1 : Int32)))).2 (by decide) (by decide) ?_
      show Steps p.tables e below (s₁.setTop (mkF m 65 #[.val (.int p0), .val (.int p1), .val (.int p2), .val (.int p3), .val (.int (2 : Int32)), .val (.int (own_e0 p1)), .val (.int (own_e1 p1 p2)), .val (.int (own_e2 p1 p2 p3)), .unset, .unset, .unset, .unset, .unset, .unset, .unset] [])) _
      refine XS.iload X0.here hx rfl (hb hby at_65) rfl ?_
      show Steps p.tables e below (s₁.setTop (mkF m 67 #[.val (.int p0), .val (.int p1), .val (.int p2), .val (.int p3), .val (.int (2 : Int32)), .val (.int (own_e0 p1)), .val (.int (own_e1 p1 p2)), .val (.int (own_e2 p1 p2 p3)), .unset, .unset, .unset, .unset, .unset, .unset, .unset] [(.int (2 : Int32))])) _
      refine XS.iconst X0.here hx rfl (hb hby at_67) ?_
      show Steps p.tables e below (s₁.setTop (mkF m 68 #[.val (.int p0), .val (.int p1), .val (.int p2), .val (.int p3), .val (.int (2 : Int32)), .val (.int (own_e0 p1)), .val (.int (own_e1 p1 p2)), .val (.int (own_e2 p1 p2 p3)), .unset, .unset, .unset, .unset, .unset, .unset, .unset] [(.int (2 : Int32)), (.int (2 : Int32))])) _
      refine XS.icmpNo X0.here hx rfl (hb hby at_68) rfl (teq (rfl : (2 : Int32) = (2 : Int32))).2 ?_
      show Steps p.tables e below (s₁.setTop (mkF m 71 #[.val (.int p0), .val (.int p1), .val (.int p2), .val (.int p3), .val (.int (2 : Int32)), .val (.int (own_e0 p1)), .val (.int (own_e1 p1 p2)), .val (.int (own_e2 p1 p2 p3)), .unset, .unset, .unset, .unset, .unset, .unset, .unset] [])) _
      refine XS.iconst X0.here hx rfl (hb hby at_71) ?_
      show Steps p.tables e below (s₁.setTop (mkF m 72 #[.val (.int p0), .val (.int p1), .val (.int p2), .val (.int p3), .val (.int (2 : Int32)), .val (.int (own_e0 p1)), .val (.int (own_e1 p1 p2)), .val (.int (own_e2 p1 p2 p3)), .unset, .unset, .unset, .unset, .unset, .unset, .unset] [(.int (2 : Int32))])) _
      refine st158 _ ?_
      show Steps p.tables e below (T158.setTop (mkF m 74 #[.val (.int p0), .val (.int p1), .val (.int p2), .val (.int p3), .val (.int (2 : Int32)), .val (.int (own_e0 p1)), .val (.int (own_e1 p1 p2)), .val (.int (own_e2 p1 p2 p3)), .unset, .unset, .unset, .unset, .unset, .unset, .unset] [(.ref b158)])) _
      refine XS.dup X158.here hx rfl (hb hby at_74) rfl rfl ?_
      show Steps p.tables e below (T158.setTop (mkF m 75 #[.val (.int p0), .val (.int p1), .val (.int p2), .val (.int p3), .val (.int (2 : Int32)), .val (.int (own_e0 p1)), .val (.int (own_e1 p1 p2)), .val (.int (own_e2 p1 p2 p3)), .unset, .unset, .unset, .unset, .unset, .unset, .unset] [(.ref b158), (.ref b158)])) _
      refine XS.iconst X158.here hx rfl (hb hby at_75) ?_
      show Steps p.tables e below (T158.setTop (mkF m 76 #[.val (.int p0), .val (.int p1), .val (.int p2), .val (.int p3), .val (.int (2 : Int32)), .val (.int (own_e0 p1)), .val (.int (own_e1 p1 p2)), .val (.int (own_e2 p1 p2 p3)), .unset, .unset, .unset, .unset, .unset, .unset, .unset] [(.int (0 : Int32)), (.ref b158), (.ref b158)])) _
      refine XS.iload X158.here hx rfl (hb hby at_76) rfl ?_
      show Steps p.tables e below (T158.setTop (mkF m 78 #[.val (.int p0), .val (.int p1), .val (.int p2), .val (.int p3), .val (.int (2 : Int32)), .val (.int (own_e0 p1)), .val (.int (own_e1 p1 p2)), .val (.int (own_e2 p1 p2 p3)), .unset, .unset, .unset, .unset, .unset, .unset, .unset] [(.int (own_e0 p1)), (.int (0 : Int32)), (.ref b158), (.ref b158)])) _
      refine st164 _ ?_
      show Steps p.tables e below (T164.setTop (mkF m 79 #[.val (.int p0), .val (.int p1), .val (.int p2), .val (.int p3), .val (.int (2 : Int32)), .val (.int (own_e0 p1)), .val (.int (own_e1 p1 p2)), .val (.int (own_e2 p1 p2 p3)), .unset, .unset, .unset, .unset, .unset, .unset, .unset] [(.ref b158)])) _
      refine XS.dup X164.here hx rfl (hb hby at_79) rfl rfl ?_
      show Steps p.tables e below (T164.setTop (mkF m 80 #[.val (.int p0), .val (.int p1), .val (.int p2), .val (.int p3), .val (.int (2 : Int32)), .val (.int (own_e0 p1)), .val (.int (own_e1 p1 p2)), .val (.int (own_e2 p1 p2 p3)), .unset, .unset, .unset, .unset, .unset, .unset, .unset] [(.ref b158), (.ref b158)])) _
      refine XS.iconst X164.here hx rfl (hb hby at_80) ?_
      show Steps p.tables e below (T164.setTop (mkF m 81 #[.val (.int p0), .val (.int p1), .val (.int p2), .val (.int p3), .val (.int (2 : Int32)), .val (.int (own_e0 p1)), .val (.int (own_e1 p1 p2)), .val (.int (own_e2 p1 p2 p3)), .unset, .unset, .unset, .unset, .unset, .unset, .unset] [(.int (1 : Int32)), (.ref b158), (.ref b158)])) _
      refine XS.iload X164.here hx rfl (hb hby at_81) rfl ?_
      show Steps p.tables e below (T164.setTop (mkF m 83 #[.val (.int p0), .val (.int p1), .val (.int p2), .val (.int p3), .val (.int (2 : Int32)), .val (.int (own_e0 p1)), .val (.int (own_e1 p1 p2)), .val (.int (own_e2 p1 p2 p3)), .unset, .unset, .unset, .unset, .unset, .unset, .unset] [(.int (own_e1 p1 p2)), (.int (1 : Int32)), (.ref b158), (.ref b158)])) _
      refine st174 _ ?_
      show Steps p.tables e below (T174.setTop (mkF m 84 #[.val (.int p0), .val (.int p1), .val (.int p2), .val (.int p3), .val (.int (2 : Int32)), .val (.int (own_e0 p1)), .val (.int (own_e1 p1 p2)), .val (.int (own_e2 p1 p2 p3)), .unset, .unset, .unset, .unset, .unset, .unset, .unset] [(.ref b158)])) _
      refine XS.astore X174.here hx rfl (hb hby at_84) rfl rfl (l' := #[.val (.int p0), .val (.int p1), .val (.int p2), .val (.int p3), .val (.int (2 : Int32)), .val (.int (own_e0 p1)), .val (.int (own_e1 p1 p2)), .val (.int (own_e2 p1 p2 p3)), .val (.ref b158), .unset, .unset, .unset, .unset, .unset, .unset]) rfl ?_
      show Steps p.tables e below (T174.setTop (mkF m 86 #[.val (.int p0), .val (.int p1), .val (.int p2), .val (.int p3), .val (.int (2 : Int32)), .val (.int (own_e0 p1)), .val (.int (own_e1 p1 p2)), .val (.int (own_e2 p1 p2 p3)), .val (.ref b158), .unset, .unset, .unset, .unset, .unset, .unset] [])) _
      refine XS.goto X174.here hx rfl (pc0 := 86) (pc' := 109) rfl (hb hby at_86) (by decide) (by decide) ?_
      show Steps p.tables e below (T174.setTop (mkF m 109 #[.val (.int p0), .val (.int p1), .val (.int p2), .val (.int p3), .val (.int (2 : Int32)), .val (.int (own_e0 p1)), .val (.int (own_e1 p1 p2)), .val (.int (own_e2 p1 p2 p3)), .val (.ref b158), .unset, .unset, .unset, .unset, .unset, .unset] [])) _
      refine XS.iconst X174.here hx rfl (hb hby at_109) ?_
      show Steps p.tables e below (T174.setTop (mkF m 110 #[.val (.int p0), .val (.int p1), .val (.int p2), .val (.int p3), .val (.int (2 : Int32)), .val (.int (own_e0 p1)), .val (.int (own_e1 p1 p2)), .val (.int (own_e2 p1 p2 p3)), .val (.ref b158), .unset, .unset, .unset, .unset, .unset, .unset] [(.int (3 : Int32))])) _
      refine st183 _ ?_
      show Steps p.tables e below (T183.setTop (mkF m 112 #[.val (.int p0), .val (.int p1), .val (.int p2), .val (.int p3), .val (.int (2 : Int32)), .val (.int (own_e0 p1)), .val (.int (own_e1 p1 p2)), .val (.int (own_e2 p1 p2 p3)), .val (.ref b158), .unset, .unset, .unset, .unset, .unset, .unset] [(.ref b183)])) _
      refine XS.dup X183.here hx rfl (hb hby at_112) rfl rfl ?_
      show Steps p.tables e below (T183.setTop (mkF m 113 #[.val (.int p0), .val (.int p1), .val (.int p2), .val (.int p3), .val (.int (2 : Int32)), .val (.int (own_e0 p1)), .val (.int (own_e1 p1 p2)), .val (.int (own_e2 p1 p2 p3)), .val (.ref b158), .unset, .unset, .unset, .unset, .unset, .unset] [(.ref b183), (.ref b183)])) _
      refine XS.iconst X183.here hx rfl (hb hby at_113) ?_
      show Steps p.tables e below (T183.setTop (mkF m 114 #[.val (.int p0), .val (.int p1), .val (.int p2), .val (.int p3), .val (.int (2 : Int32)), .val (.int (own_e0 p1)), .val (.int (own_e1 p1 p2)), .val (.int (own_e2 p1 p2 p3)), .val (.ref b158), .unset, .unset, .unset, .unset, .unset, .unset] [(.int (0 : Int32)), (.ref b183), (.ref b183)])) _
      refine XS.iload X183.here hx rfl (hb hby at_114) rfl ?_
      show Steps p.tables e below (T183.setTop (mkF m 116 #[.val (.int p0), .val (.int p1), .val (.int p2), .val (.int p3), .val (.int (2 : Int32)), .val (.int (own_e0 p1)), .val (.int (own_e1 p1 p2)), .val (.int (own_e2 p1 p2 p3)), .val (.ref b158), .unset, .unset, .unset, .unset, .unset, .unset] [(.int (own_e0 p1)), (.int (0 : Int32)), (.ref b183), (.ref b183)])) _
      refine st191 _ ?_
      show Steps p.tables e below (T191.setTop (mkF m 117 #[.val (.int p0), .val (.int p1), .val (.int p2), .val (.int p3), .val (.int (2 : Int32)), .val (.int (own_e0 p1)), .val (.int (own_e1 p1 p2)), .val (.int (own_e2 p1 p2 p3)), .val (.ref b158), .unset, .unset, .unset, .unset, .unset, .unset] [(.ref b183)])) _
      refine XS.dup X191.here hx rfl (hb hby at_117) rfl rfl ?_
      show Steps p.tables e below (T191.setTop (mkF m 118 #[.val (.int p0), .val (.int p1), .val (.int p2), .val (.int p3), .val (.int (2 : Int32)), .val (.int (own_e0 p1)), .val (.int (own_e1 p1 p2)), .val (.int (own_e2 p1 p2 p3)), .val (.ref b158), .unset, .unset, .unset, .unset, .unset, .unset] [(.ref b183), (.ref b183)])) _
      refine XS.iconst X191.here hx rfl (hb hby at_118) ?_
      show Steps p.tables e below (T191.setTop (mkF m 119 #[.val (.int p0), .val (.int p1), .val (.int p2), .val (.int p3), .val (.int (2 : Int32)), .val (.int (own_e0 p1)), .val (.int (own_e1 p1 p2)), .val (.int (own_e2 p1 p2 p3)), .val (.ref b158), .unset, .unset, .unset, .unset, .unset, .unset] [(.int (1 : Int32)), (.ref b183), (.ref b183)])) _
      refine XS.iload X191.here hx rfl (hb hby at_119) rfl ?_
      show Steps p.tables e below (T191.setTop (mkF m 121 #[.val (.int p0), .val (.int p1), .val (.int p2), .val (.int p3), .val (.int (2 : Int32)), .val (.int (own_e0 p1)), .val (.int (own_e1 p1 p2)), .val (.int (own_e2 p1 p2 p3)), .val (.ref b158), .unset, .unset, .unset, .unset, .unset, .unset] [(.int (own_e1 p1 p2)), (.int (1 : Int32)), (.ref b183), (.ref b183)])) _
      refine st203 _ ?_
      show Steps p.tables e below (T203.setTop (mkF m 122 #[.val (.int p0), .val (.int p1), .val (.int p2), .val (.int p3), .val (.int (2 : Int32)), .val (.int (own_e0 p1)), .val (.int (own_e1 p1 p2)), .val (.int (own_e2 p1 p2 p3)), .val (.ref b158), .unset, .unset, .unset, .unset, .unset, .unset] [(.ref b183)])) _
      refine XS.dup X203.here hx rfl (hb hby at_122) rfl rfl ?_
      show Steps p.tables e below (T203.setTop (mkF m 123 #[.val (.int p0), .val (.int p1), .val (.int p2), .val (.int p3), .val (.int (2 : Int32)), .val (.int (own_e0 p1)), .val (.int (own_e1 p1 p2)), .val (.int (own_e2 p1 p2 p3)), .val (.ref b158), .unset, .unset, .unset, .unset, .unset, .unset] [(.ref b183), (.ref b183)])) _
      refine XS.iconst X203.here hx rfl (hb hby at_123) ?_
      show Steps p.tables e below (T203.setTop (mkF m 124 #[.val (.int p0), .val (.int p1), .val (.int p2), .val (.int p3), .val (.int (2 : Int32)), .val (.int (own_e0 p1)), .val (.int (own_e1 p1 p2)), .val (.int (own_e2 p1 p2 p3)), .val (.ref b158), .unset, .unset, .unset, .unset, .unset, .unset] [(.int (2 : Int32)), (.ref b183), (.ref b183)])) _
      refine XS.iload X203.here hx rfl (hb hby at_124) rfl ?_
      show Steps p.tables e below (T203.setTop (mkF m 126 #[.val (.int p0), .val (.int p1), .val (.int p2), .val (.int p3), .val (.int (2 : Int32)), .val (.int (own_e0 p1)), .val (.int (own_e1 p1 p2)), .val (.int (own_e2 p1 p2 p3)), .val (.ref b158), .unset, .unset, .unset, .unset, .unset, .unset] [(.int (own_e2 p1 p2 p3)), (.int (2 : Int32)), (.ref b183), (.ref b183)])) _
      refine st215 _ ?_
      show Steps p.tables e below (T215.setTop (mkF m 127 #[.val (.int p0), .val (.int p1), .val (.int p2), .val (.int p3), .val (.int (2 : Int32)), .val (.int (own_e0 p1)), .val (.int (own_e1 p1 p2)), .val (.int (own_e2 p1 p2 p3)), .val (.ref b158), .unset, .unset, .unset, .unset, .unset, .unset] [(.ref b183)])) _
      refine XS.astore X215.here hx rfl (hb hby at_127) rfl rfl (l' := #[.val (.int p0), .val (.int p1), .val (.int p2), .val (.int p3), .val (.int (2 : Int32)), .val (.int (own_e0 p1)), .val (.int (own_e1 p1 p2)), .val (.int (own_e2 p1 p2 p3)), .val (.ref b158), .val (.ref b183), .unset, .unset, .unset, .unset, .unset]) rfl ?_
      exact kt
    by_cases hz0 : (own_e0 p1) = (0 : Int32)
    · skip
      have zs227 : n0 ≤ h215.size := Nat.le_trans Z0 k222.1
      obtain ⟨_, _, ⟨T228, L228, k228, n228⟩, -, X228, ⟨Lc228, hQ228, l228, y228, z228⟩, st228⟩ := Jvm.LawKit.callS X215 hx (y := (⟨"com/example/unfold/unfold/semantics/GateSets", "outsideHide", "([I)[I"⟩ : MethodName)) hown (mvT hZ (hw _ (List.mem_of_getElem? (i := 3) rfl))) (mvT hZ (hw _ (List.mem_of_getElem? (i := 4) rfl))) (mvT hZ (hw _ (List.mem_of_getElem? (i := 5) rfl))) (mvT hZ (hw _ (List.mem_of_getElem? (i := 6) rfl))) (by decide) (backOf (W := 0) (own_rm_oh2z l Z a0 hw [] b158 (own_e0 p1) (own_e1 p1 p2) h215 n0 zs227 f219 hz0) hZ (hw _ (List.mem_of_getElem? (i := 6) rfl)) (hw _ (List.mem_of_getElem? (i := 5) rfl)) (by decide) (by decide)) (g := (mkF m 131 #[.val (.int p0), .val (.int p1), .val (.int p2), .val (.int p3), .val (.int (2 : Int32)), .val (.int (own_e0 p1)), .val (.int (own_e1 p1 p2)), .val (.int (own_e2 p1 p2 p3)), .val (.ref b158), .val (.ref b183), .unset, .unset, .unset, .unset, .unset] [(.ref b158)])) rfl (by rw [hml]; rfl) (argsL := [(.ref b158)]) (rest := []) (lenOf own_pd0 rfl) rfl (by show 2 * 0 + _ ≤ _; exact Nat.le_of_eq rfl) (hb hby at_131) (fun _ _ => ⟨rfl, e215, (by decide : 2 + 1 ≤ _), (by decide : 5 + 1 ≤ _)⟩)
      dsimp only [Pt.U, Pt.locs, Pt.cells, Pt.slots] at X228 l228 y228 z228 st228 hQ228
      subst l228 y228 z228
      obtain ⟨r229, rfl, N229, K229, c229_0, c229_1⟩ := hQ228
      have sz_r229 : h0.size ≤ r229 := Nat.le_trans k222.1 c229_0
      have gn_r229 : n0 ≤ r229 := Nat.le_trans Z0 sz_r229
      have ne_aS_r229 : aS ≠ r229 := Nat.ne_of_lt (Nat.lt_of_lt_of_le f217.lt c229_0)
      have ne_b158_r229 : b158 ≠ r229 := Nat.ne_of_lt (Nat.lt_of_lt_of_le f219.lt c229_0)
      have ne_b183_r229 : b183 ≠ r229 := Nat.ne_of_lt (Nat.lt_of_lt_of_le f225.lt c229_0)
      have f230 := own_sta_keep f216 K229 all0
      have f231 := f217.keep K229 nin0
      have f232 := f218.keep K229
      have f233 := f219.keep K229 nin0
      have f234 := f220.keep K229
      have f235 := f225.keep K229 nin0
      have k236 := k222.trans K229 all0
      have nf237 := Fr.app nf223 N229
      obtain ⟨cl238, Ar238, S238, -⟩ := id f233
      obtain ⟨cl239, Ar239, S239, H239⟩ := id f233
      have hin239 : ¬ ((0 : Int32) < 0 ∨ cl239.slots.size ≤ ((0 : Int32)).toNatClampNeg) := own_inb S239 (by decide) (by decide)
      have hat239 : cl239.slots[((0 : Int32)).toNatClampNeg]? = some (.int (own_e0 p1)) := H239 _ (by decide)
      obtain ⟨cl240, Ar240, S240, H240⟩ := id f233
      have hin240 : ¬ ((1 : Int32) < 0 ∨ cl240.slots.size ≤ ((1 : Int32)).toNatClampNeg) := own_inb S240 (by decide) (by decide)
      have hat240 : cl240.slots[((1 : Int32)).toNatClampNeg]? = some (.int (own_e1 p1 p2)) := H240 _ (by decide)
      obtain ⟨cl241, Ar241, S241, -⟩ := id c229_1
      obtain ⟨cl242, Ar242, S242, H242⟩ := id c229_1
      have hin242 : ¬ ((0 : Int32) < 0 ∨ cl242.slots.size ≤ ((0 : Int32)).toNatClampNeg) := own_inb S242 (by decide) (by decide)
      have hat242 : cl242.slots[((0 : Int32)).toNatClampNeg]? = some (.int ((own_e1 p1 p2) - (1 : Int32))) := H242 _ (by decide)
      obtain ⟨cl243, Ar243, S243, H243⟩ := id f235
      have hin243 : ¬ ((1 : Int32) < 0 ∨ cl243.slots.size ≤ ((1 : Int32)).toNatClampNeg) := own_inb S243 (by decide) (by decide)
      have hat243 : cl243.slots[((1 : Int32)).toNatClampNeg]? = some (.int (own_e1 p1 p2)) := H243 _ (by decide)
      have pre244 : ∀ t, Steps p.tables e below (T228.setTop (mkF m 383 #[.val (.int p0), .val (.int p1), .val (.int p2), .val (.int p3), .val (.int (2 : Int32)), .val (.int (own_e0 p1)), .val (.int (own_e1 p1 p2)), .val (.int (own_e2 p1 p2 p3)), .val (.ref b158), .val (.ref b183), .val (.ref r229), .val (.int (1 : Int32)), .val (.int (1 : Int32)), .val (.int (1 : Int32)), .val (.int (1 : Int32))] [(.int (1 : Int32))])) t → Steps p.tables e below (s₁.setTop (entryFrame m #[(.int p0), (.int p1), (.int p2), (.int p3)] maxLocals)) t := by
        intro t kt
        refine pre226 t ?_
        show Steps p.tables e below (T215.setTop (mkF m 129 #[.val (.int p0), .val (.int p1), .val (.int p2), .val (.int p3), .val (.int (2 : Int32)), .val (.int (own_e0 p1)), .val (.int (own_e1 p1 p2)), .val (.int (own_e2 p1 p2 p3)), .val (.ref b158), .val (.ref b183), .unset, .unset, .unset, .unset, .unset] [])) _
        refine XS.aload X215.here hx rfl (hb hby at_129) rfl rfl ?_
        show Steps p.tables e below (T215.setTop (mkF m 131 #[.val (.int p0), .val (.int p1), .val (.int p2), .val (.int p3), .val (.int (2 : Int32)), .val (.int (own_e0 p1)), .val (.int (own_e1 p1 p2)), .val (.int (own_e2 p1 p2 p3)), .val (.ref b158), .val (.ref b183), .unset, .unset, .unset, .unset, .unset] [(.ref b158)])) _
        refine st228 _ ?_
        show Steps p.tables e below (T228.setTop (mkF m 134 #[.val (.int p0), .val (.int p1), .val (.int p2), .val (.int p3), .val (.int (2 : Int32)), .val (.int (own_e0 p1)), .val (.int (own_e1 p1 p2)), .val (.int (own_e2 p1 p2 p3)), .val (.ref b158), .val (.ref b183), .unset, .unset, .unset, .unset, .unset] [(.ref r229)])) _
        refine XS.astore X228.here hx rfl (hb hby at_134) rfl rfl (l' := #[.val (.int p0), .val (.int p1), .val (.int p2), .val (.int p3), .val (.int (2 : Int32)), .val (.int (own_e0 p1)), .val (.int (own_e1 p1 p2)), .val (.int (own_e2 p1 p2 p3)), .val (.ref b158), .val (.ref b183), .val (.ref r229), .unset, .unset, .unset, .unset]) rfl ?_
        show Steps p.tables e below (T228.setTop (mkF m 136 #[.val (.int p0), .val (.int p1), .val (.int p2), .val (.int p3), .val (.int (2 : Int32)), .val (.int (own_e0 p1)), .val (.int (own_e1 p1 p2)), .val (.int (own_e2 p1 p2 p3)), .val (.ref b158), .val (.ref b183), .val (.ref r229), .unset, .unset, .unset, .unset] [])) _
        refine XS.aload X228.here hx rfl (hb hby at_136) rfl rfl ?_
        show Steps p.tables e below (T228.setTop (mkF m 138 #[.val (.int p0), .val (.int p1), .val (.int p2), .val (.int p3), .val (.int (2 : Int32)), .val (.int (own_e0 p1)), .val (.int (own_e1 p1 p2)), .val (.int (own_e2 p1 p2 p3)), .val (.ref b158), .val (.ref b183), .val (.ref r229), .unset, .unset, .unset, .unset] [(.ref b158)])) _
        refine X228.arraylength hx Ar238.1 (State.isArrayOf_alike hZ.alike Ar238.2.1) (g := (mkF m 138 #[.val (.int p0), .val (.int p1), .val (.int p2), .val (.int p3), .val (.int (2 : Int32)), .val (.int (own_e0 p1)), .val (.int (own_e1 p1 p2)), .val (.int (own_e2 p1 p2 p3)), .val (.ref b158), .val (.ref b183), .val (.ref r229), .unset, .unset, .unset, .unset] [(.ref b158)])) rfl rfl (hb hby at_138) _ ?_
        rw [own_len (z := (2 : Int32)) S238 rfl]
        show Steps p.tables e below (T228.setTop (mkF m 139 #[.val (.int p0), .val (.int p1), .val (.int p2), .val (.int p3), .val (.int (2 : Int32)), .val (.int (own_e0 p1)), .val (.int (own_e1 p1 p2)), .val (.int (own_e2 p1 p2 p3)), .val (.ref b158), .val (.ref b183), .val (.ref r229), .unset, .unset, .unset, .unset] [(.int (2 : Int32))])) _
        refine XS.iload X228.here hx rfl (hb hby at_139) rfl ?_
        show Steps p.tables e below (T228.setTop (mkF m 141 #[.val (.int p0), .val (.int p1), .val (.int p2), .val (.int p3), .val (.int (2 : Int32)), .val (.int (own_e0 p1)), .val (.int (own_e1 p1 p2)), .val (.int (own_e2 p1 p2 p3)), .val (.ref b158), .val (.ref b183), .val (.ref r229), .unset, .unset, .unset, .unset] [(.int (2 : Int32)), (.int (2 : Int32))])) _
        refine XS.icmpNo X228.here hx rfl (hb hby at_141) rfl (teq (rfl : (2 : Int32) = (2 : Int32))).2 ?_
        show Steps p.tables e below (T228.setTop (mkF m 144 #[.val (.int p0), .val (.int p1), .val (.int p2), .val (.int p3), .val (.int (2 : Int32)), .val (.int (own_e0 p1)), .val (.int (own_e1 p1 p2)), .val (.int (own_e2 p1 p2 p3)), .val (.ref b158), .val (.ref b183), .val (.ref r229), .unset, .unset, .unset, .unset] [])) _
        refine XS.iconst X228.here hx rfl (hb hby at_144) ?_
        show Steps p.tables e below (T228.setTop (mkF m 145 #[.val (.int p0), .val (.int p1), .val (.int p2), .val (.int p3), .val (.int (2 : Int32)), .val (.int (own_e0 p1)), .val (.int (own_e1 p1 p2)), .val (.int (own_e2 p1 p2 p3)), .val (.ref b158), .val (.ref b183), .val (.ref r229), .unset, .unset, .unset, .unset] [(.int (1 : Int32))])) _
        refine XS.goto X228.here hx rfl (pc0 := 145) (pc' := 149) rfl (hb hby at_145) (by decide) (by decide) ?_
        show Steps p.tables e below (T228.setTop (mkF m 149 #[.val (.int p0), .val (.int p1), .val (.int p2), .val (.int p3), .val (.int (2 : Int32)), .val (.int (own_e0 p1)), .val (.int (own_e1 p1 p2)), .val (.int (own_e2 p1 p2 p3)), .val (.ref b158), .val (.ref b183), .val (.ref r229), .unset, .unset, .unset, .unset] [(.int (1 : Int32))])) _
        refine XS.istore X228.here hx rfl (hb hby at_149) rfl (l' := #[.val (.int p0), .val (.int p1), .val (.int p2), .val (.int p3), .val (.int (2 : Int32)), .val (.int (own_e0 p1)), .val (.int (own_e1 p1 p2)), .val (.int (own_e2 p1 p2 p3)), .val (.ref b158), .val (.ref b183), .val (.ref r229), .val (.int (1 : Int32)), .unset, .unset, .unset]) rfl ?_
        show Steps p.tables e below (T228.setTop (mkF m 151 #[.val (.int p0), .val (.int p1), .val (.int p2), .val (.int p3), .val (.int (2 : Int32)), .val (.int (own_e0 p1)), .val (.int (own_e1 p1 p2)), .val (.int (own_e2 p1 p2 p3)), .val (.ref b158), .val (.ref b183), .val (.ref r229), .val (.int (1 : Int32)), .unset, .unset, .unset] [])) _
        refine XS.iload X228.here hx rfl (hb hby at_151) rfl ?_
        show Steps p.tables e below (T228.setTop (mkF m 153 #[.val (.int p0), .val (.int p1), .val (.int p2), .val (.int p3), .val (.int (2 : Int32)), .val (.int (own_e0 p1)), .val (.int (own_e1 p1 p2)), .val (.int (own_e2 p1 p2 p3)), .val (.ref b158), .val (.ref b183), .val (.ref r229), .val (.int (1 : Int32)), .unset, .unset, .unset] [(.int (2 : Int32))])) _
        refine XS.ifNo X228.here hx rfl (hb hby at_153) rfl ((if0 _ _).trans (tlt (by decide : (0 : Int32) < (2 : Int32))).2.2.2) ?_
        show Steps p.tables e below (T228.setTop (mkF m 156 #[.val (.int p0), .val (.int p1), .val (.int p2), .val (.int p3), .val (.int (2 : Int32)), .val (.int (own_e0 p1)), .val (.int (own_e1 p1 p2)), .val (.int (own_e2 p1 p2 p3)), .val (.ref b158), .val (.ref b183), .val (.ref r229), .val (.int (1 : Int32)), .unset, .unset, .unset] [])) _
        refine XS.iload X228.here hx rfl (hb hby at_156) rfl ?_
        show Steps p.tables e below (T228.setTop (mkF m 158 #[.val (.int p0), .val (.int p1), .val (.int p2), .val (.int p3), .val (.int (2 : Int32)), .val (.int (own_e0 p1)), .val (.int (own_e1 p1 p2)), .val (.int (own_e2 p1 p2 p3)), .val (.ref b158), .val (.ref b183), .val (.ref r229), .val (.int (1 : Int32)), .unset, .unset, .unset] [(.int (1 : Int32))])) _
        refine XS.ifNo X228.here hx rfl (hb hby at_158) rfl ((if0 _ _).trans (feq (by decide : ¬ ((1 : Int32) = (0 : Int32)))).1) ?_
        show Steps p.tables e below (T228.setTop (mkF m 161 #[.val (.int p0), .val (.int p1), .val (.int p2), .val (.int p3), .val (.int (2 : Int32)), .val (.int (own_e0 p1)), .val (.int (own_e1 p1 p2)), .val (.int (own_e2 p1 p2 p3)), .val (.ref b158), .val (.ref b183), .val (.ref r229), .val (.int (1 : Int32)), .unset, .unset, .unset] [])) _
        refine XS.aload X228.here hx rfl (hb hby at_161) rfl rfl ?_
        show Steps p.tables e below (T228.setTop (mkF m 163 #[.val (.int p0), .val (.int p1), .val (.int p2), .val (.int p3), .val (.int (2 : Int32)), .val (.int (own_e0 p1)), .val (.int (own_e1 p1 p2)), .val (.int (own_e2 p1 p2 p3)), .val (.ref b158), .val (.ref b183), .val (.ref r229), .val (.int (1 : Int32)), .unset, .unset, .unset] [(.ref b158)])) _
        refine XS.iconst X228.here hx rfl (hb hby at_163) ?_
        show Steps p.tables e below (T228.setTop (mkF m 164 #[.val (.int p0), .val (.int p1), .val (.int p2), .val (.int p3), .val (.int (2 : Int32)), .val (.int (own_e0 p1)), .val (.int (own_e1 p1 p2)), .val (.int (own_e2 p1 p2 p3)), .val (.ref b158), .val (.ref b183), .val (.ref r229), .val (.int (1 : Int32)), .unset, .unset, .unset] [(.int (0 : Int32)), (.ref b158)])) _
        refine X228.iaload hx (j := (0 : Int32)) (v := (.int (own_e0 p1))) Ar239.1 (State.isArrayOf_alike hZ.alike Ar239.2.1) Ar239.2.2 hin239 hat239 (g := (mkF m 164 #[.val (.int p0), .val (.int p1), .val (.int p2), .val (.int p3), .val (.int (2 : Int32)), .val (.int (own_e0 p1)), .val (.int (own_e1 p1 p2)), .val (.int (own_e2 p1 p2 p3)), .val (.ref b158), .val (.ref b183), .val (.ref r229), .val (.int (1 : Int32)), .unset, .unset, .unset] [(.int (0 : Int32)), (.ref b158)])) rfl rfl (hb hby at_164) _ ?_
        show Steps p.tables e below (T228.setTop (mkF m 165 #[.val (.int p0), .val (.int p1), .val (.int p2), .val (.int p3), .val (.int (2 : Int32)), .val (.int (own_e0 p1)), .val (.int (own_e1 p1 p2)), .val (.int (own_e2 p1 p2 p3)), .val (.ref b158), .val (.ref b183), .val (.ref r229), .val (.int (1 : Int32)), .unset, .unset, .unset] [(.int (own_e0 p1))])) _
        refine XS.iload X228.here hx rfl (hb hby at_165) rfl ?_
        show Steps p.tables e below (T228.setTop (mkF m 167 #[.val (.int p0), .val (.int p1), .val (.int p2), .val (.int p3), .val (.int (2 : Int32)), .val (.int (own_e0 p1)), .val (.int (own_e1 p1 p2)), .val (.int (own_e2 p1 p2 p3)), .val (.ref b158), .val (.ref b183), .val (.ref r229), .val (.int (1 : Int32)), .unset, .unset, .unset] [(.int (own_e0 p1)), (.int (own_e0 p1))])) _
        refine XS.icmpNo X228.here hx rfl (hb hby at_167) rfl (teq (rfl : (own_e0 p1) = (own_e0 p1))).2 ?_
        show Steps p.tables e below (T228.setTop (mkF m 170 #[.val (.int p0), .val (.int p1), .val (.int p2), .val (.int p3), .val (.int (2 : Int32)), .val (.int (own_e0 p1)), .val (.int (own_e1 p1 p2)), .val (.int (own_e2 p1 p2 p3)), .val (.ref b158), .val (.ref b183), .val (.ref r229), .val (.int (1 : Int32)), .unset, .unset, .unset] [])) _
        refine XS.iconst X228.here hx rfl (hb hby at_170) ?_
        show Steps p.tables e below (T228.setTop (mkF m 171 #[.val (.int p0), .val (.int p1), .val (.int p2), .val (.int p3), .val (.int (2 : Int32)), .val (.int (own_e0 p1)), .val (.int (own_e1 p1 p2)), .val (.int (own_e2 p1 p2 p3)), .val (.ref b158), .val (.ref b183), .val (.ref r229), .val (.int (1 : Int32)), .unset, .unset, .unset] [(.int (1 : Int32))])) _
        refine XS.goto X228.here hx rfl (pc0 := 171) (pc' := 175) rfl (hb hby at_171) (by decide) (by decide) ?_
        show Steps p.tables e below (T228.setTop (mkF m 175 #[.val (.int p0), .val (.int p1), .val (.int p2), .val (.int p3), .val (.int (2 : Int32)), .val (.int (own_e0 p1)), .val (.int (own_e1 p1 p2)), .val (.int (own_e2 p1 p2 p3)), .val (.ref b158), .val (.ref b183), .val (.ref r229), .val (.int (1 : Int32)), .unset, .unset, .unset] [(.int (1 : Int32))])) _
        refine XS.istore X228.here hx rfl (hb hby at_175) rfl (l' := #[.val (.int p0), .val (.int p1), .val (.int p2), .val (.int p3), .val (.int (2 : Int32)), .val (.int (own_e0 p1)), .val (.int (own_e1 p1 p2)), .val (.int (own_e2 p1 p2 p3)), .val (.ref b158), .val (.ref b183), .val (.ref r229), .val (.int (1 : Int32)), .unset, .unset, .unset]) rfl ?_
        show Steps p.tables e below (T228.setTop (mkF m 177 #[.val (.int p0), .val (.int p1), .val (.int p2), .val (.int p3), .val (.int (2 : Int32)), .val (.int (own_e0 p1)), .val (.int (own_e1 p1 p2)), .val (.int (own_e2 p1 p2 p3)), .val (.ref b158), .val (.ref b183), .val (.ref r229), .val (.int (1 : Int32)), .unset, .unset, .unset] [])) _
        refine XS.iload X228.here hx rfl (hb hby at_177) rfl ?_
        show Steps p.tables e below (T228.setTop (mkF m 179 #[.val (.int p0), .val (.int p1), .val (.int p2), .val (.int p3), .val (.int (2 : Int32)), .val (.int (own_e0 p1)), .val (.int (own_e1 p1 p2)), .val (.int (own_e2 p1 p2 p3)), .val (.ref b158), .val (.ref b183), .val (.ref r229), .val (.int (1 : Int32)), .unset, .unset, .unset] [(.int (2 : Int32))])) _
        refine XS.iconst X228.here hx rfl (hb hby at_179) ?_
        show Steps p.tables e below (T228.setTop (mkF m 180 #[.val (.int p0), .val (.int p1), .val (.int p2), .val (.int p3), .val (.int (2 : Int32)), .val (.int (own_e0 p1)), .val (.int (own_e1 p1 p2)), .val (.int (own_e2 p1 p2 p3)), .val (.ref b158), .val (.ref b183), .val (.ref r229), .val (.int (1 : Int32)), .unset, .unset, .unset] [(.int (1 : Int32)), (.int (2 : Int32))])) _
        refine XS.icmpNo X228.here hx rfl (hb hby at_180) rfl (tlt (by decide : (1 : Int32) < (2 : Int32))).2.2.2 ?_
        show Steps p.tables e below (T228.setTop (mkF m 183 #[.val (.int p0), .val (.int p1), .val (.int p2), .val (.int p3), .val (.int (2 : Int32)), .val (.int (own_e0 p1)), .val (.int (own_e1 p1 p2)), .val (.int (own_e2 p1 p2 p3)), .val (.ref b158), .val (.ref b183), .val (.ref r229), .val (.int (1 : Int32)), .unset, .unset, .unset] [])) _
        refine XS.iload X228.here hx rfl (hb hby at_183) rfl ?_
        show Steps p.tables e below (T228.setTop (mkF m 185 #[.val (.int p0), .val (.int p1), .val (.int p2), .val (.int p3), .val (.int (2 : Int32)), .val (.int (own_e0 p1)), .val (.int (own_e1 p1 p2)), .val (.int (own_e2 p1 p2 p3)), .val (.ref b158), .val (.ref b183), .val (.ref r229), .val (.int (1 : Int32)), .unset, .unset, .unset] [(.int (1 : Int32))])) _
        refine XS.ifNo X228.here hx rfl (hb hby at_185) rfl ((if0 _ _).trans (feq (by decide : ¬ ((1 : Int32) = (0 : Int32)))).1) ?_
        show Steps p.tables e below (T228.setTop (mkF m 188 #[.val (.int p0), .val (.int p1), .val (.int p2), .val (.int p3), .val (.int (2 : Int32)), .val (.int (own_e0 p1)), .val (.int (own_e1 p1 p2)), .val (.int (own_e2 p1 p2 p3)), .val (.ref b158), .val (.ref b183), .val (.ref r229), .val (.int (1 : Int32)), .unset, .unset, .unset] [])) _
        refine XS.aload X228.here hx rfl (hb hby at_188) rfl rfl ?_
        show Steps p.tables e below (T228.setTop (mkF m 190 #[.val (.int p0), .val (.int p1), .val (.int p2), .val (.int p3), .val (.int (2 : Int32)), .val (.int (own_e0 p1)), .val (.int (own_e1 p1 p2)), .val (.int (own_e2 p1 p2 p3)), .val (.ref b158), .val (.ref b183), .val (.ref r229), .val (.int (1 : Int32)), .unset, .unset, .unset] [(.ref b158)])) _
        refine XS.iconst X228.here hx rfl (hb hby at_190) ?_
        show Steps p.tables e below (T228.setTop (mkF m 191 #[.val (.int p0), .val (.int p1), .val (.int p2), .val (.int p3), .val (.int (2 : Int32)), .val (.int (own_e0 p1)), .val (.int (own_e1 p1 p2)), .val (.int (own_e2 p1 p2 p3)), .val (.ref b158), .val (.ref b183), .val (.ref r229), .val (.int (1 : Int32)), .unset, .unset, .unset] [(.int (1 : Int32)), (.ref b158)])) _
        refine X228.iaload hx (j := (1 : Int32)) (v := (.int (own_e1 p1 p2))) Ar240.1 (State.isArrayOf_alike hZ.alike Ar240.2.1) Ar240.2.2 hin240 hat240 (g := (mkF m 191 #[.val (.int p0), .val (.int p1), .val (.int p2), .val (.int p3), .val (.int (2 : Int32)), .val (.int (own_e0 p1)), .val (.int (own_e1 p1 p2)), .val (.int (own_e2 p1 p2 p3)), .val (.ref b158), .val (.ref b183), .val (.ref r229), .val (.int (1 : Int32)), .unset, .unset, .unset] [(.int (1 : Int32)), (.ref b158)])) rfl rfl (hb hby at_191) _ ?_
        show Steps p.tables e below (T228.setTop (mkF m 192 #[.val (.int p0), .val (.int p1), .val (.int p2), .val (.int p3), .val (.int (2 : Int32)), .val (.int (own_e0 p1)), .val (.int (own_e1 p1 p2)), .val (.int (own_e2 p1 p2 p3)), .val (.ref b158), .val (.ref b183), .val (.ref r229), .val (.int (1 : Int32)), .unset, .unset, .unset] [(.int (own_e1 p1 p2))])) _
        refine XS.iload X228.here hx rfl (hb hby at_192) rfl ?_
        show Steps p.tables e below (T228.setTop (mkF m 194 #[.val (.int p0), .val (.int p1), .val (.int p2), .val (.int p3), .val (.int (2 : Int32)), .val (.int (own_e0 p1)), .val (.int (own_e1 p1 p2)), .val (.int (own_e2 p1 p2 p3)), .val (.ref b158), .val (.ref b183), .val (.ref r229), .val (.int (1 : Int32)), .unset, .unset, .unset] [(.int (own_e1 p1 p2)), (.int (own_e1 p1 p2))])) _
        refine XS.icmpNo X228.here hx rfl (hb hby at_194) rfl (teq (rfl : (own_e1 p1 p2) = (own_e1 p1 p2))).2 ?_
        show Steps p.tables e below (T228.setTop (mkF m 197 #[.val (.int p0), .val (.int p1), .val (.int p2), .val (.int p3), .val (.int (2 : Int32)), .val (.int (own_e0 p1)), .val (.int (own_e1 p1 p2)), .val (.int (own_e2 p1 p2 p3)), .val (.ref b158), .val (.ref b183), .val (.ref r229), .val (.int (1 : Int32)), .unset, .unset, .unset] [])) _
        refine XS.iconst X228.here hx rfl (hb hby at_197) ?_
        show Steps p.tables e below (T228.setTop (mkF m 198 #[.val (.int p0), .val (.int p1), .val (.int p2), .val (.int p3), .val (.int (2 : Int32)), .val (.int (own_e0 p1)), .val (.int (own_e1 p1 p2)), .val (.int (own_e2 p1 p2 p3)), .val (.ref b158), .val (.ref b183), .val (.ref r229), .val (.int (1 : Int32)), .unset, .unset, .unset] [(.int (1 : Int32))])) _
        refine XS.goto X228.here hx rfl (pc0 := 198) (pc' := 202) rfl (hb hby at_198) (by decide) (by decide) ?_
        show Steps p.tables e below (T228.setTop (mkF m 202 #[.val (.int p0), .val (.int p1), .val (.int p2), .val (.int p3), .val (.int (2 : Int32)), .val (.int (own_e0 p1)), .val (.int (own_e1 p1 p2)), .val (.int (own_e2 p1 p2 p3)), .val (.ref b158), .val (.ref b183), .val (.ref r229), .val (.int (1 : Int32)), .unset, .unset, .unset] [(.int (1 : Int32))])) _
        refine XS.istore X228.here hx rfl (hb hby at_202) rfl (l' := #[.val (.int p0), .val (.int p1), .val (.int p2), .val (.int p3), .val (.int (2 : Int32)), .val (.int (own_e0 p1)), .val (.int (own_e1 p1 p2)), .val (.int (own_e2 p1 p2 p3)), .val (.ref b158), .val (.ref b183), .val (.ref r229), .val (.int (1 : Int32)), .unset, .unset, .unset]) rfl ?_
        show Steps p.tables e below (T228.setTop (mkF m 204 #[.val (.int p0), .val (.int p1), .val (.int p2), .val (.int p3), .val (.int (2 : Int32)), .val (.int (own_e0 p1)), .val (.int (own_e1 p1 p2)), .val (.int (own_e2 p1 p2 p3)), .val (.ref b158), .val (.ref b183), .val (.ref r229), .val (.int (1 : Int32)), .unset, .unset, .unset] [])) _
        refine XS.iload X228.here hx rfl (hb hby at_204) rfl ?_
        show Steps p.tables e below (T228.setTop (mkF m 206 #[.val (.int p0), .val (.int p1), .val (.int p2), .val (.int p3), .val (.int (2 : Int32)), .val (.int (own_e0 p1)), .val (.int (own_e1 p1 p2)), .val (.int (own_e2 p1 p2 p3)), .val (.ref b158), .val (.ref b183), .val (.ref r229), .val (.int (1 : Int32)), .unset, .unset, .unset] [(.int (2 : Int32))])) _
        refine XS.iconst X228.here hx rfl (hb hby at_206) ?_
        show Steps p.tables e below (T228.setTop (mkF m 207 #[.val (.int p0), .val (.int p1), .val (.int p2), .val (.int p3), .val (.int (2 : Int32)), .val (.int (own_e0 p1)), .val (.int (own_e1 p1 p2)), .val (.int (own_e2 p1 p2 p3)), .val (.ref b158), .val (.ref b183), .val (.ref r229), .val (.int (1 : Int32)), .unset, .unset, .unset] [(.int (2 : Int32)), (.int (2 : Int32))])) _
        refine XS.icmpYes X228.here hx rfl (pc0 := 207) (pc' := 231) rfl (hb hby at_207) rfl (flt (by decide : ¬ ((2 : Int32) < (2 : Int32)))).2.2.2 (by decide) (by decide) ?_
        show Steps p.tables e below (T228.setTop (mkF m 231 #[.val (.int p0), .val (.int p1), .val (.int p2), .val (.int p3), .val (.int (2 : Int32)), .val (.int (own_e0 p1)), .val (.int (own_e1 p1 p2)), .val (.int (own_e2 p1 p2 p3)), .val (.ref b158), .val (.ref b183), .val (.ref r229), .val (.int (1 : Int32)), .unset, .unset, .unset] [])) _
        refine XS.iload X228.here hx rfl (hb hby at_231) rfl ?_
        show Steps p.tables e below (T228.setTop (mkF m 233 #[.val (.int p0), .val (.int p1), .val (.int p2), .val (.int p3), .val (.int (2 : Int32)), .val (.int (own_e0 p1)), .val (.int (own_e1 p1 p2)), .val (.int (own_e2 p1 p2 p3)), .val (.ref b158), .val (.ref b183), .val (.ref r229), .val (.int (1 : Int32)), .unset, .unset, .unset] [(.int (2 : Int32))])) _
        refine XS.ifNo X228.here hx rfl (hb hby at_233) rfl ((if0 _ _).trans (tlt (by decide : (0 : Int32) < (2 : Int32))).2.2.2) ?_
        show Steps p.tables e below (T228.setTop (mkF m 236 #[.val (.int p0), .val (.int p1), .val (.int p2), .val (.int p3), .val (.int (2 : Int32)), .val (.int (own_e0 p1)), .val (.int (own_e1 p1 p2)), .val (.int (own_e2 p1 p2 p3)), .val (.ref b158), .val (.ref b183), .val (.ref r229), .val (.int (1 : Int32)), .unset, .unset, .unset] [])) _
        refine XS.iload X228.here hx rfl (hb hby at_236) rfl ?_
        show Steps p.tables e below (T228.setTop (mkF m 238 #[.val (.int p0), .val (.int p1), .val (.int p2), .val (.int p3), .val (.int (2 : Int32)), .val (.int (own_e0 p1)), .val (.int (own_e1 p1 p2)), .val (.int (own_e2 p1 p2 p3)), .val (.ref b158), .val (.ref b183), .val (.ref r229), .val (.int (1 : Int32)), .unset, .unset, .unset] [(.int (own_e0 p1))])) _
        refine XS.ifNo X228.here hx rfl (hb hby at_238) rfl ((if0 _ _).trans (teq hz0).2) ?_
        show Steps p.tables e below (T228.setTop (mkF m 241 #[.val (.int p0), .val (.int p1), .val (.int p2), .val (.int p3), .val (.int (2 : Int32)), .val (.int (own_e0 p1)), .val (.int (own_e1 p1 p2)), .val (.int (own_e2 p1 p2 p3)), .val (.ref b158), .val (.ref b183), .val (.ref r229), .val (.int (1 : Int32)), .unset, .unset, .unset] [])) _
        refine XS.iconst X228.here hx rfl (hb hby at_241) ?_
        show Steps p.tables e below (T228.setTop (mkF m 242 #[.val (.int p0), .val (.int p1), .val (.int p2), .val (.int p3), .val (.int (2 : Int32)), .val (.int (own_e0 p1)), .val (.int (own_e1 p1 p2)), .val (.int (own_e2 p1 p2 p3)), .val (.ref b158), .val (.ref b183), .val (.ref r229), .val (.int (1 : Int32)), .unset, .unset, .unset] [(.int (1 : Int32))])) _
        refine XS.goto X228.here hx rfl (pc0 := 242) (pc' := 246) rfl (hb hby at_242) (by decide) (by decide) ?_
        show Steps p.tables e below (T228.setTop (mkF m 246 #[.val (.int p0), .val (.int p1), .val (.int p2), .val (.int p3), .val (.int (2 : Int32)), .val (.int (own_e0 p1)), .val (.int (own_e1 p1 p2)), .val (.int (own_e2 p1 p2 p3)), .val (.ref b158), .val (.ref b183), .val (.ref r229), .val (.int (1 : Int32)), .unset, .unset, .unset] [(.int (1 : Int32))])) _
        refine XS.istore X228.here hx rfl (hb hby at_246) rfl (l' := #[.val (.int p0), .val (.int p1), .val (.int p2), .val (.int p3), .val (.int (2 : Int32)), .val (.int (own_e0 p1)), .val (.int (own_e1 p1 p2)), .val (.int (own_e2 p1 p2 p3)), .val (.ref b158), .val (.ref b183), .val (.ref r229), .val (.int (1 : Int32)), .val (.int (1 : Int32)), .unset, .unset]) rfl ?_
        show Steps p.tables e below (T228.setTop (mkF m 248 #[.val (.int p0), .val (.int p1), .val (.int p2), .val (.int p3), .val (.int (2 : Int32)), .val (.int (own_e0 p1)), .val (.int (own_e1 p1 p2)), .val (.int (own_e2 p1 p2 p3)), .val (.ref b158), .val (.ref b183), .val (.ref r229), .val (.int (1 : Int32)), .val (.int (1 : Int32)), .unset, .unset] [])) _
        refine XS.iload X228.here hx rfl (hb hby at_248) rfl ?_
        show Steps p.tables e below (T228.setTop (mkF m 250 #[.val (.int p0), .val (.int p1), .val (.int p2), .val (.int p3), .val (.int (2 : Int32)), .val (.int (own_e0 p1)), .val (.int (own_e1 p1 p2)), .val (.int (own_e2 p1 p2 p3)), .val (.ref b158), .val (.ref b183), .val (.ref r229), .val (.int (1 : Int32)), .val (.int (1 : Int32)), .unset, .unset] [(.int (1 : Int32))])) _
        refine XS.ifNo X228.here hx rfl (hb hby at_250) rfl ((if0 _ _).trans (feq (by decide : ¬ ((1 : Int32) = (0 : Int32)))).1) ?_
        show Steps p.tables e below (T228.setTop (mkF m 253 #[.val (.int p0), .val (.int p1), .val (.int p2), .val (.int p3), .val (.int (2 : Int32)), .val (.int (own_e0 p1)), .val (.int (own_e1 p1 p2)), .val (.int (own_e2 p1 p2 p3)), .val (.ref b158), .val (.ref b183), .val (.ref r229), .val (.int (1 : Int32)), .val (.int (1 : Int32)), .unset, .unset] [])) _
        refine XS.iconst X228.here hx rfl (hb hby at_253) ?_
        show Steps p.tables e below (T228.setTop (mkF m 254 #[.val (.int p0), .val (.int p1), .val (.int p2), .val (.int p3), .val (.int (2 : Int32)), .val (.int (own_e0 p1)), .val (.int (own_e1 p1 p2)), .val (.int (own_e2 p1 p2 p3)), .val (.ref b158), .val (.ref b183), .val (.ref r229), .val (.int (1 : Int32)), .val (.int (1 : Int32)), .unset, .unset] [(.int (1 : Int32))])) _
        refine XS.goto X228.here hx rfl (pc0 := 254) (pc' := 258) rfl (hb hby at_254) (by decide) (by decide) ?_
        show Steps p.tables e below (T228.setTop (mkF m 258 #[.val (.int p0), .val (.int p1), .val (.int p2), .val (.int p3), .val (.int (2 : Int32)), .val (.int (own_e0 p1)), .val (.int (own_e1 p1 p2)), .val (.int (own_e2 p1 p2 p3)), .val (.ref b158), .val (.ref b183), .val (.ref r229), .val (.int (1 : Int32)), .val (.int (1 : Int32)), .unset, .unset] [(.int (1 : Int32))])) _
        refine XS.istore X228.here hx rfl (hb hby at_258) rfl (l' := #[.val (.int p0), .val (.int p1), .val (.int p2), .val (.int p3), .val (.int (2 : Int32)), .val (.int (own_e0 p1)), .val (.int (own_e1 p1 p2)), .val (.int (own_e2 p1 p2 p3)), .val (.ref b158), .val (.ref b183), .val (.ref r229), .val (.int (1 : Int32)), .val (.int (1 : Int32)), .val (.int (1 : Int32)), .unset]) rfl ?_
        show Steps p.tables e below (T228.setTop (mkF m 260 #[.val (.int p0), .val (.int p1), .val (.int p2), .val (.int p3), .val (.int (2 : Int32)), .val (.int (own_e0 p1)), .val (.int (own_e1 p1 p2)), .val (.int (own_e2 p1 p2 p3)), .val (.ref b158), .val (.ref b183), .val (.ref r229), .val (.int (1 : Int32)), .val (.int (1 : Int32)), .val (.int (1 : Int32)), .unset] [])) _
        refine XS.iload X228.here hx rfl (hb hby at_260) rfl ?_
        show Steps p.tables e below (T228.setTop (mkF m 262 #[.val (.int p0), .val (.int p1), .val (.int p2), .val (.int p3), .val (.int (2 : Int32)), .val (.int (own_e0 p1)), .val (.int (own_e1 p1 p2)), .val (.int (own_e2 p1 p2 p3)), .val (.ref b158), .val (.ref b183), .val (.ref r229), .val (.int (1 : Int32)), .val (.int (1 : Int32)), .val (.int (1 : Int32)), .unset] [(.int (2 : Int32))])) _
        refine XS.iload X228.here hx rfl (hb hby at_262) rfl ?_
        show Steps p.tables e below (T228.setTop (mkF m 264 #[.val (.int p0), .val (.int p1), .val (.int p2), .val (.int p3), .val (.int (2 : Int32)), .val (.int (own_e0 p1)), .val (.int (own_e1 p1 p2)), .val (.int (own_e2 p1 p2 p3)), .val (.ref b158), .val (.ref b183), .val (.ref r229), .val (.int (1 : Int32)), .val (.int (1 : Int32)), .val (.int (1 : Int32)), .unset] [(.int (1 : Int32)), (.int (2 : Int32))])) _
        refine XS.isub X228.here hx rfl (hb hby at_264) rfl ?_
        show Steps p.tables e below (T228.setTop (mkF m 265 #[.val (.int p0), .val (.int p1), .val (.int p2), .val (.int p3), .val (.int (2 : Int32)), .val (.int (own_e0 p1)), .val (.int (own_e1 p1 p2)), .val (.int (own_e2 p1 p2 p3)), .val (.ref b158), .val (.ref b183), .val (.ref r229), .val (.int (1 : Int32)), .val (.int (1 : Int32)), .val (.int (1 : Int32)), .unset] [(.int (1 : Int32))])) _
        refine XS.istore X228.here hx rfl (hb hby at_265) rfl (l' := #[.val (.int p0), .val (.int p1), .val (.int p2), .val (.int p3), .val (.int (2 : Int32)), .val (.int (own_e0 p1)), .val (.int (own_e1 p1 p2)), .val (.int (own_e2 p1 p2 p3)), .val (.ref b158), .val (.ref b183), .val (.ref r229), .val (.int (1 : Int32)), .val (.int (1 : Int32)), .val (.int (1 : Int32)), .val (.int (1 : Int32))]) rfl ?_
        show Steps p.tables e below (T228.setTop (mkF m 267 #[.val (.int p0), .val (.int p1), .val (.int p2), .val (.int p3), .val (.int (2 : Int32)), .val (.int (own_e0 p1)), .val (.int (own_e1 p1 p2)), .val (.int (own_e2 p1 p2 p3)), .val (.ref b158), .val (.ref b183), .val (.ref r229), .val (.int (1 : Int32)), .val (.int (1 : Int32)), .val (.int (1 : Int32)), .val (.int (1 : Int32))] [])) _
        refine XS.aload X228.here hx rfl (hb hby at_267) rfl rfl ?_
        show Steps p.tables e below (T228.setTop (mkF m 269 #[.val (.int p0), .val (.int p1), .val (.int p2), .val (.int p3), .val (.int (2 : Int32)), .val (.int (own_e0 p1)), .val (.int (own_e1 p1 p2)), .val (.int (own_e2 p1 p2 p3)), .val (.ref b158), .val (.ref b183), .val (.ref r229), .val (.int (1 : Int32)), .val (.int (1 : Int32)), .val (.int (1 : Int32)), .val (.int (1 : Int32))] [(.ref r229)])) _
        refine XS.ifnullNo X228.here hx rfl (hb hby at_269) rfl ?_
        show Steps p.tables e below (T228.setTop (mkF m 272 #[.val (.int p0), .val (.int p1), .val (.int p2), .val (.int p3), .val (.int (2 : Int32)), .val (.int (own_e0 p1)), .val (.int (own_e1 p1 p2)), .val (.int (own_e2 p1 p2 p3)), .val (.ref b158), .val (.ref b183), .val (.ref r229), .val (.int (1 : Int32)), .val (.int (1 : Int32)), .val (.int (1 : Int32)), .val (.int (1 : Int32))] [])) _
        refine XS.aload X228.here hx rfl (hb hby at_272) rfl rfl ?_
        show Steps p.tables e below (T228.setTop (mkF m 274 #[.val (.int p0), .val (.int p1), .val (.int p2), .val (.int p3), .val (.int (2 : Int32)), .val (.int (own_e0 p1)), .val (.int (own_e1 p1 p2)), .val (.int (own_e2 p1 p2 p3)), .val (.ref b158), .val (.ref b183), .val (.ref r229), .val (.int (1 : Int32)), .val (.int (1 : Int32)), .val (.int (1 : Int32)), .val (.int (1 : Int32))] [(.ref r229)])) _
        refine X228.arraylength hx Ar241.1 (State.isArrayOf_alike hZ.alike Ar241.2.1) (g := (mkF m 274 #[.val (.int p0), .val (.int p1), .val (.int p2), .val (.int p3), .val (.int (2 : Int32)), .val (.int (own_e0 p1)), .val (.int (own_e1 p1 p2)), .val (.int (own_e2 p1 p2 p3)), .val (.ref b158), .val (.ref b183), .val (.ref r229), .val (.int (1 : Int32)), .val (.int (1 : Int32)), .val (.int (1 : Int32)), .val (.int (1 : Int32))] [(.ref r229)])) rfl rfl (hb hby at_274) _ ?_
        rw [own_len (z := (1 : Int32)) S241 rfl]
        show Steps p.tables e below (T228.setTop (mkF m 275 #[.val (.int p0), .val (.int p1), .val (.int p2), .val (.int p3), .val (.int (2 : Int32)), .val (.int (own_e0 p1)), .val (.int (own_e1 p1 p2)), .val (.int (own_e2 p1 p2 p3)), .val (.ref b158), .val (.ref b183), .val (.ref r229), .val (.int (1 : Int32)), .val (.int (1 : Int32)), .val (.int (1 : Int32)), .val (.int (1 : Int32))] [(.int (1 : Int32))])) _
        refine XS.iload X228.here hx rfl (hb hby at_275) rfl ?_
        show Steps p.tables e below (T228.setTop (mkF m 277 #[.val (.int p0), .val (.int p1), .val (.int p2), .val (.int p3), .val (.int (2 : Int32)), .val (.int (own_e0 p1)), .val (.int (own_e1 p1 p2)), .val (.int (own_e2 p1 p2 p3)), .val (.ref b158), .val (.ref b183), .val (.ref r229), .val (.int (1 : Int32)), .val (.int (1 : Int32)), .val (.int (1 : Int32)), .val (.int (1 : Int32))] [(.int (1 : Int32)), (.int (1 : Int32))])) _
        refine XS.icmpYes X228.here hx rfl (pc0 := 277) (pc' := 282) rfl (hb hby at_277) rfl (teq (rfl : (1 : Int32) = (1 : Int32))).1 (by decide) (by decide) ?_
        show Steps p.tables e below (T228.setTop (mkF m 282 #[.val (.int p0), .val (.int p1), .val (.int p2), .val (.int p3), .val (.int (2 : Int32)), .val (.int (own_e0 p1)), .val (.int (own_e1 p1 p2)), .val (.int (own_e2 p1 p2 p3)), .val (.ref b158), .val (.ref b183), .val (.ref r229), .val (.int (1 : Int32)), .val (.int (1 : Int32)), .val (.int (1 : Int32)), .val (.int (1 : Int32))] [])) _
        refine XS.iload X228.here hx rfl (hb hby at_282) rfl ?_
        show Steps p.tables e below (T228.setTop (mkF m 284 #[.val (.int p0), .val (.int p1), .val (.int p2), .val (.int p3), .val (.int (2 : Int32)), .val (.int (own_e0 p1)), .val (.int (own_e1 p1 p2)), .val (.int (own_e2 p1 p2 p3)), .val (.ref b158), .val (.ref b183), .val (.ref r229), .val (.int (1 : Int32)), .val (.int (1 : Int32)), .val (.int (1 : Int32)), .val (.int (1 : Int32))] [(.int (1 : Int32))])) _
        refine XS.ifNo X228.here hx rfl (hb hby at_284) rfl ((if0 _ _).trans (tlt (by decide : (0 : Int32) < (1 : Int32))).2.2.2) ?_
        show Steps p.tables e below (T228.setTop (mkF m 287 #[.val (.int p0), .val (.int p1), .val (.int p2), .val (.int p3), .val (.int (2 : Int32)), .val (.int (own_e0 p1)), .val (.int (own_e1 p1 p2)), .val (.int (own_e2 p1 p2 p3)), .val (.ref b158), .val (.ref b183), .val (.ref r229), .val (.int (1 : Int32)), .val (.int (1 : Int32)), .val (.int (1 : Int32)), .val (.int (1 : Int32))] [])) _
        refine XS.iload X228.here hx rfl (hb hby at_287) rfl ?_
        show Steps p.tables e below (T228.setTop (mkF m 289 #[.val (.int p0), .val (.int p1), .val (.int p2), .val (.int p3), .val (.int (2 : Int32)), .val (.int (own_e0 p1)), .val (.int (own_e1 p1 p2)), .val (.int (own_e2 p1 p2 p3)), .val (.ref b158), .val (.ref b183), .val (.ref r229), .val (.int (1 : Int32)), .val (.int (1 : Int32)), .val (.int (1 : Int32)), .val (.int (1 : Int32))] [(.int (1 : Int32))])) _
        refine XS.ifNo X228.here hx rfl (hb hby at_289) rfl ((if0 _ _).trans (feq (by decide : ¬ ((1 : Int32) = (0 : Int32)))).1) ?_
        show Steps p.tables e below (T228.setTop (mkF m 292 #[.val (.int p0), .val (.int p1), .val (.int p2), .val (.int p3), .val (.int (2 : Int32)), .val (.int (own_e0 p1)), .val (.int (own_e1 p1 p2)), .val (.int (own_e2 p1 p2 p3)), .val (.ref b158), .val (.ref b183), .val (.ref r229), .val (.int (1 : Int32)), .val (.int (1 : Int32)), .val (.int (1 : Int32)), .val (.int (1 : Int32))] [])) _
        refine XS.aload X228.here hx rfl (hb hby at_292) rfl rfl ?_
        show Steps p.tables e below (T228.setTop (mkF m 294 #[.val (.int p0), .val (.int p1), .val (.int p2), .val (.int p3), .val (.int (2 : Int32)), .val (.int (own_e0 p1)), .val (.int (own_e1 p1 p2)), .val (.int (own_e2 p1 p2 p3)), .val (.ref b158), .val (.ref b183), .val (.ref r229), .val (.int (1 : Int32)), .val (.int (1 : Int32)), .val (.int (1 : Int32)), .val (.int (1 : Int32))] [(.ref r229)])) _
        refine XS.iconst X228.here hx rfl (hb hby at_294) ?_
        show Steps p.tables e below (T228.setTop (mkF m 295 #[.val (.int p0), .val (.int p1), .val (.int p2), .val (.int p3), .val (.int (2 : Int32)), .val (.int (own_e0 p1)), .val (.int (own_e1 p1 p2)), .val (.int (own_e2 p1 p2 p3)), .val (.ref b158), .val (.ref b183), .val (.ref r229), .val (.int (1 : Int32)), .val (.int (1 : Int32)), .val (.int (1 : Int32)), .val (.int (1 : Int32))] [(.int (0 : Int32)), (.ref r229)])) _
        refine X228.iaload hx (j := (0 : Int32)) (v := (.int ((own_e1 p1 p2) - (1 : Int32)))) Ar242.1 (State.isArrayOf_alike hZ.alike Ar242.2.1) Ar242.2.2 hin242 hat242 (g := (mkF m 295 #[.val (.int p0), .val (.int p1), .val (.int p2), .val (.int p3), .val (.int (2 : Int32)), .val (.int (own_e0 p1)), .val (.int (own_e1 p1 p2)), .val (.int (own_e2 p1 p2 p3)), .val (.ref b158), .val (.ref b183), .val (.ref r229), .val (.int (1 : Int32)), .val (.int (1 : Int32)), .val (.int (1 : Int32)), .val (.int (1 : Int32))] [(.int (0 : Int32)), (.ref r229)])) rfl rfl (hb hby at_295) _ ?_
        show Steps p.tables e below (T228.setTop (mkF m 296 #[.val (.int p0), .val (.int p1), .val (.int p2), .val (.int p3), .val (.int (2 : Int32)), .val (.int (own_e0 p1)), .val (.int (own_e1 p1 p2)), .val (.int (own_e2 p1 p2 p3)), .val (.ref b158), .val (.ref b183), .val (.ref r229), .val (.int (1 : Int32)), .val (.int (1 : Int32)), .val (.int (1 : Int32)), .val (.int (1 : Int32))] [(.int ((own_e1 p1 p2) - (1 : Int32)))])) _
        refine XS.aload X228.here hx rfl (hb hby at_296) rfl rfl ?_
        show Steps p.tables e below (T228.setTop (mkF m 298 #[.val (.int p0), .val (.int p1), .val (.int p2), .val (.int p3), .val (.int (2 : Int32)), .val (.int (own_e0 p1)), .val (.int (own_e1 p1 p2)), .val (.int (own_e2 p1 p2 p3)), .val (.ref b158), .val (.ref b183), .val (.ref r229), .val (.int (1 : Int32)), .val (.int (1 : Int32)), .val (.int (1 : Int32)), .val (.int (1 : Int32))] [(.ref b183), (.int ((own_e1 p1 p2) - (1 : Int32)))])) _
        refine XS.iload X228.here hx rfl (hb hby at_298) rfl ?_
        show Steps p.tables e below (T228.setTop (mkF m 300 #[.val (.int p0), .val (.int p1), .val (.int p2), .val (.int p3), .val (.int (2 : Int32)), .val (.int (own_e0 p1)), .val (.int (own_e1 p1 p2)), .val (.int (own_e2 p1 p2 p3)), .val (.ref b158), .val (.ref b183), .val (.ref r229), .val (.int (1 : Int32)), .val (.int (1 : Int32)), .val (.int (1 : Int32)), .val (.int (1 : Int32))] [(.int (1 : Int32)), (.ref b183), (.int ((own_e1 p1 p2) - (1 : Int32)))])) _
        refine X228.iaload hx (j := (1 : Int32)) (v := (.int (own_e1 p1 p2))) Ar243.1 (State.isArrayOf_alike hZ.alike Ar243.2.1) Ar243.2.2 hin243 hat243 (g := (mkF m 300 #[.val (.int p0), .val (.int p1), .val (.int p2), .val (.int p3), .val (.int (2 : Int32)), .val (.int (own_e0 p1)), .val (.int (own_e1 p1 p2)), .val (.int (own_e2 p1 p2 p3)), .val (.ref b158), .val (.ref b183), .val (.ref r229), .val (.int (1 : Int32)), .val (.int (1 : Int32)), .val (.int (1 : Int32)), .val (.int (1 : Int32))] [(.int (1 : Int32)), (.ref b183), (.int ((own_e1 p1 p2) - (1 : Int32)))])) rfl rfl (hb hby at_300) _ ?_
        show Steps p.tables e below (T228.setTop (mkF m 301 #[.val (.int p0), .val (.int p1), .val (.int p2), .val (.int p3), .val (.int (2 : Int32)), .val (.int (own_e0 p1)), .val (.int (own_e1 p1 p2)), .val (.int (own_e2 p1 p2 p3)), .val (.ref b158), .val (.ref b183), .val (.ref r229), .val (.int (1 : Int32)), .val (.int (1 : Int32)), .val (.int (1 : Int32)), .val (.int (1 : Int32))] [(.int (own_e1 p1 p2)), (.int ((own_e1 p1 p2) - (1 : Int32)))])) _
        refine XS.iconst X228.here hx rfl (hb hby at_301) ?_
        show Steps p.tables e below (T228.setTop (mkF m 302 #[.val (.int p0), .val (.int p1), .val (.int p2), .val (.int p3), .val (.int (2 : Int32)), .val (.int (own_e0 p1)), .val (.int (own_e1 p1 p2)), .val (.int (own_e2 p1 p2 p3)), .val (.ref b158), .val (.ref b183), .val (.ref r229), .val (.int (1 : Int32)), .val (.int (1 : Int32)), .val (.int (1 : Int32)), .val (.int (1 : Int32))] [(.int (1 : Int32)), (.int (own_e1 p1 p2)), (.int ((own_e1 p1 p2) - (1 : Int32)))])) _
        refine XS.isub X228.here hx rfl (hb hby at_302) rfl ?_
        show Steps p.tables e below (T228.setTop (mkF m 303 #[.val (.int p0), .val (.int p1), .val (.int p2), .val (.int p3), .val (.int (2 : Int32)), .val (.int (own_e0 p1)), .val (.int (own_e1 p1 p2)), .val (.int (own_e2 p1 p2 p3)), .val (.ref b158), .val (.ref b183), .val (.ref r229), .val (.int (1 : Int32)), .val (.int (1 : Int32)), .val (.int (1 : Int32)), .val (.int (1 : Int32))] [(.int ((own_e1 p1 p2) - (1 : Int32))), (.int ((own_e1 p1 p2) - (1 : Int32)))])) _
        refine XS.icmpNo X228.here hx rfl (hb hby at_303) rfl (teq (rfl : ((own_e1 p1 p2) - (1 : Int32)) = ((own_e1 p1 p2) - (1 : Int32)))).2 ?_
        show Steps p.tables e below (T228.setTop (mkF m 306 #[.val (.int p0), .val (.int p1), .val (.int p2), .val (.int p3), .val (.int (2 : Int32)), .val (.int (own_e0 p1)), .val (.int (own_e1 p1 p2)), .val (.int (own_e2 p1 p2 p3)), .val (.ref b158), .val (.ref b183), .val (.ref r229), .val (.int (1 : Int32)), .val (.int (1 : Int32)), .val (.int (1 : Int32)), .val (.int (1 : Int32))] [])) _
        refine XS.iconst X228.here hx rfl (hb hby at_306) ?_
        show Steps p.tables e below (T228.setTop (mkF m 307 #[.val (.int p0), .val (.int p1), .val (.int p2), .val (.int p3), .val (.int (2 : Int32)), .val (.int (own_e0 p1)), .val (.int (own_e1 p1 p2)), .val (.int (own_e2 p1 p2 p3)), .val (.ref b158), .val (.ref b183), .val (.ref r229), .val (.int (1 : Int32)), .val (.int (1 : Int32)), .val (.int (1 : Int32)), .val (.int (1 : Int32))] [(.int (1 : Int32))])) _
        refine XS.goto X228.here hx rfl (pc0 := 307) (pc' := 311) rfl (hb hby at_307) (by decide) (by decide) ?_
        show Steps p.tables e below (T228.setTop (mkF m 311 #[.val (.int p0), .val (.int p1), .val (.int p2), .val (.int p3), .val (.int (2 : Int32)), .val (.int (own_e0 p1)), .val (.int (own_e1 p1 p2)), .val (.int (own_e2 p1 p2 p3)), .val (.ref b158), .val (.ref b183), .val (.ref r229), .val (.int (1 : Int32)), .val (.int (1 : Int32)), .val (.int (1 : Int32)), .val (.int (1 : Int32))] [(.int (1 : Int32))])) _
        refine XS.istore X228.here hx rfl (hb hby at_311) rfl (l' := #[.val (.int p0), .val (.int p1), .val (.int p2), .val (.int p3), .val (.int (2 : Int32)), .val (.int (own_e0 p1)), .val (.int (own_e1 p1 p2)), .val (.int (own_e2 p1 p2 p3)), .val (.ref b158), .val (.ref b183), .val (.ref r229), .val (.int (1 : Int32)), .val (.int (1 : Int32)), .val (.int (1 : Int32)), .val (.int (1 : Int32))]) rfl ?_
        show Steps p.tables e below (T228.setTop (mkF m 313 #[.val (.int p0), .val (.int p1), .val (.int p2), .val (.int p3), .val (.int (2 : Int32)), .val (.int (own_e0 p1)), .val (.int (own_e1 p1 p2)), .val (.int (own_e2 p1 p2 p3)), .val (.ref b158), .val (.ref b183), .val (.ref r229), .val (.int (1 : Int32)), .val (.int (1 : Int32)), .val (.int (1 : Int32)), .val (.int (1 : Int32))] [])) _
        refine XS.iload X228.here hx rfl (hb hby at_313) rfl ?_
        show Steps p.tables e below (T228.setTop (mkF m 315 #[.val (.int p0), .val (.int p1), .val (.int p2), .val (.int p3), .val (.int (2 : Int32)), .val (.int (own_e0 p1)), .val (.int (own_e1 p1 p2)), .val (.int (own_e2 p1 p2 p3)), .val (.ref b158), .val (.ref b183), .val (.ref r229), .val (.int (1 : Int32)), .val (.int (1 : Int32)), .val (.int (1 : Int32)), .val (.int (1 : Int32))] [(.int (1 : Int32))])) _
        refine XS.iconst X228.here hx rfl (hb hby at_315) ?_
        show Steps p.tables e below (T228.setTop (mkF m 316 #[.val (.int p0), .val (.int p1), .val (.int p2), .val (.int p3), .val (.int (2 : Int32)), .val (.int (own_e0 p1)), .val (.int (own_e1 p1 p2)), .val (.int (own_e2 p1 p2 p3)), .val (.ref b158), .val (.ref b183), .val (.ref r229), .val (.int (1 : Int32)), .val (.int (1 : Int32)), .val (.int (1 : Int32)), .val (.int (1 : Int32))] [(.int (1 : Int32)), (.int (1 : Int32))])) _
        refine XS.icmpYes X228.here hx rfl (pc0 := 316) (pc' := 347) rfl (hb hby at_316) rfl (flt (by decide : ¬ ((1 : Int32) < (1 : Int32)))).2.2.2 (by decide) (by decide) ?_
        show Steps p.tables e below (T228.setTop (mkF m 347 #[.val (.int p0), .val (.int p1), .val (.int p2), .val (.int p3), .val (.int (2 : Int32)), .val (.int (own_e0 p1)), .val (.int (own_e1 p1 p2)), .val (.int (own_e2 p1 p2 p3)), .val (.ref b158), .val (.ref b183), .val (.ref r229), .val (.int (1 : Int32)), .val (.int (1 : Int32)), .val (.int (1 : Int32)), .val (.int (1 : Int32))] [])) _
        refine XS.iload X228.here hx rfl (hb hby at_347) rfl ?_
        show Steps p.tables e below (T228.setTop (mkF m 349 #[.val (.int p0), .val (.int p1), .val (.int p2), .val (.int p3), .val (.int (2 : Int32)), .val (.int (own_e0 p1)), .val (.int (own_e1 p1 p2)), .val (.int (own_e2 p1 p2 p3)), .val (.ref b158), .val (.ref b183), .val (.ref r229), .val (.int (1 : Int32)), .val (.int (1 : Int32)), .val (.int (1 : Int32)), .val (.int (1 : Int32))] [(.int (1 : Int32))])) _
        refine XS.iconst X228.here hx rfl (hb hby at_349) ?_
        show Steps p.tables e below (T228.setTop (mkF m 350 #[.val (.int p0), .val (.int p1), .val (.int p2), .val (.int p3), .val (.int (2 : Int32)), .val (.int (own_e0 p1)), .val (.int (own_e1 p1 p2)), .val (.int (own_e2 p1 p2 p3)), .val (.ref b158), .val (.ref b183), .val (.ref r229), .val (.int (1 : Int32)), .val (.int (1 : Int32)), .val (.int (1 : Int32)), .val (.int (1 : Int32))] [(.int (2 : Int32)), (.int (1 : Int32))])) _
        refine XS.icmpYes X228.here hx rfl (pc0 := 350) (pc' := 381) rfl (hb hby at_350) rfl (flt (by decide : ¬ ((2 : Int32) < (1 : Int32)))).2.2.2 (by decide) (by decide) ?_
        show Steps p.tables e below (T228.setTop (mkF m 381 #[.val (.int p0), .val (.int p1), .val (.int p2), .val (.int p3), .val (.int (2 : Int32)), .val (.int (own_e0 p1)), .val (.int (own_e1 p1 p2)), .val (.int (own_e2 p1 p2 p3)), .val (.ref b158), .val (.ref b183), .val (.ref r229), .val (.int (1 : Int32)), .val (.int (1 : Int32)), .val (.int (1 : Int32)), .val (.int (1 : Int32))] [])) _
        refine XS.iload X228.here hx rfl (hb hby at_381) rfl ?_
        exact kt
      obtain ⟨fs, hr, hrun, hended, hW, hsame⟩ := X228.leave (v := some (.int (1 : Int32))) (fun h => by rw [Bd.returns] at h; cases h)
      refine ⟨_, _, pre244 _ ?_, hrun, hended, _, _, rfl, ?_, ⟨_, rfl⟩, hW, hsame.mono (by decide) (by decide)⟩
      · show Steps p.tables e below (T228.setTop (mkF m 383 #[.val (.int p0), .val (.int p1), .val (.int p2), .val (.int p3), .val (.int (2 : Int32)), .val (.int (own_e0 p1)), .val (.int (own_e1 p1 p2)), .val (.int (own_e2 p1 p2 p3)), .val (.ref b158), .val (.ref b183), .val (.ref r229), .val (.int (1 : Int32)), .val (.int (1 : Int32)), .val (.int (1 : Int32)), .val (.int (1 : Int32))] [(.int (1 : Int32))])) _
        exact retN X228 hx (t := .boolean) Bd.returns (by simp) (hb hby at_383) hr
      · show own_Q_law Z p0 p1 p2 p3 aS h0 n0 (some (.int (1 : Int32))) T228.heap _
        skip
        exact ⟨rfl, nf237⟩
    · skip
      have zs245 : n0 ≤ h215.size := Nat.le_trans Z0 k222.1
      obtain ⟨_, _, ⟨T246, L246, k246, n246⟩, -, X246, ⟨Lc246, hQ246, l246, y246, z246⟩, st246⟩ := Jvm.LawKit.callS X215 hx (y := (⟨"com/example/unfold/unfold/semantics/GateSets", "outsideHide", "([I)[I"⟩ : MethodName)) hown (mvT hZ (hw _ (List.mem_of_getElem? (i := 3) rfl))) (mvT hZ (hw _ (List.mem_of_getElem? (i := 4) rfl))) (mvT hZ (hw _ (List.mem_of_getElem? (i := 5) rfl))) (mvT hZ (hw _ (List.mem_of_getElem? (i := 6) rfl))) (by decide) (backOf (W := 0) (own_rm_oh2n l Z a0 hw [] b158 (own_e0 p1) (own_e1 p1 p2) h215 n0 zs245 f219 hz0) hZ (hw _ (List.mem_of_getElem? (i := 6) rfl)) (hw _ (List.mem_of_getElem? (i := 5) rfl)) (by decide) (by decide)) (g := (mkF m 131 #[.val (.int p0), .val (.int p1), .val (.int p2), .val (.int p3), .val (.int (2 : Int32)), .val (.int (own_e0 p1)), .val (.int (own_e1 p1 p2)), .val (.int (own_e2 p1 p2 p3)), .val (.ref b158), .val (.ref b183), .unset, .unset, .unset, .unset, .unset] [(.ref b158)])) rfl (by rw [hml]; rfl) (argsL := [(.ref b158)]) (rest := []) (lenOf own_pd0 rfl) rfl (by show 2 * 0 + _ ≤ _; exact Nat.le_of_eq rfl) (hb hby at_131) (fun _ _ => ⟨rfl, e215, (by decide : 2 + 1 ≤ _), (by decide : 5 + 2 ≤ _)⟩)
      dsimp only [Pt.U, Pt.locs, Pt.cells, Pt.slots] at X246 l246 y246 z246 st246 hQ246
      subst l246 y246 z246
      obtain ⟨r247, rfl, N247, K247, c247_0, c247_1⟩ := hQ246
      have sz_r247 : h0.size ≤ r247 := Nat.le_trans k222.1 c247_0
      have gn_r247 : n0 ≤ r247 := Nat.le_trans Z0 sz_r247
      have ne_aS_r247 : aS ≠ r247 := Nat.ne_of_lt (Nat.lt_of_lt_of_le f217.lt c247_0)
      have ne_b158_r247 : b158 ≠ r247 := Nat.ne_of_lt (Nat.lt_of_lt_of_le f219.lt c247_0)
      have ne_b183_r247 : b183 ≠ r247 := Nat.ne_of_lt (Nat.lt_of_lt_of_le f225.lt c247_0)
      have f248 := own_sta_keep f216 K247 all0
      have f249 := f217.keep K247 nin0
      have f250 := f218.keep K247
      have f251 := f219.keep K247 nin0
      have f252 := f220.keep K247
      have f253 := f225.keep K247 nin0
      have k254 := k222.trans K247 all0
      have nf255 := Fr.app nf223 N247
      obtain ⟨cl256, Ar256, S256, -⟩ := id f251
      obtain ⟨cl257, Ar257, S257, H257⟩ := id f251
      have hin257 : ¬ ((0 : Int32) < 0 ∨ cl257.slots.size ≤ ((0 : Int32)).toNatClampNeg) := own_inb S257 (by decide) (by decide)
      have hat257 : cl257.slots[((0 : Int32)).toNatClampNeg]? = some (.int (own_e0 p1)) := H257 _ (by decide)
      obtain ⟨cl258, Ar258, S258, H258⟩ := id f251
      have hin258 : ¬ ((1 : Int32) < 0 ∨ cl258.slots.size ≤ ((1 : Int32)).toNatClampNeg) := own_inb S258 (by decide) (by decide)
      have hat258 : cl258.slots[((1 : Int32)).toNatClampNeg]? = some (.int (own_e1 p1 p2)) := H258 _ (by decide)
      obtain ⟨cl259, Ar259, S259, -⟩ := id c247_1
      obtain ⟨cl260, Ar260, S260, H260⟩ := id c247_1
      have hin260 : ¬ ((0 : Int32) < 0 ∨ cl260.slots.size ≤ ((0 : Int32)).toNatClampNeg) := own_inb S260 (by decide) (by decide)
      have hat260 : cl260.slots[((0 : Int32)).toNatClampNeg]? = some (.int ((own_e0 p1) - (1 : Int32))) := H260 _ (by decide)
      obtain ⟨cl261, Ar261, S261, H261⟩ := id f253
      have hin261 : ¬ ((0 : Int32) < 0 ∨ cl261.slots.size ≤ ((0 : Int32)).toNatClampNeg) := own_inb S261 (by decide) (by decide)
      have hat261 : cl261.slots[((0 : Int32)).toNatClampNeg]? = some (.int (own_e0 p1)) := H261 _ (by decide)
      obtain ⟨cl262, Ar262, S262, H262⟩ := id c247_1
      have hin262 : ¬ ((1 : Int32) < 0 ∨ cl262.slots.size ≤ ((1 : Int32)).toNatClampNeg) := own_inb S262 (by decide) (by decide)
      have hat262 : cl262.slots[((1 : Int32)).toNatClampNeg]? = some (.int ((own_e1 p1 p2) - (1 : Int32))) := H262 _ (by decide)
      obtain ⟨cl263, Ar263, S263, H263⟩ := id f253
      have hin263 : ¬ ((1 : Int32) < 0 ∨ cl263.slots.size ≤ ((1 : Int32)).toNatClampNeg) := own_inb S263 (by decide) (by decide)
      have hat263 : cl263.slots[((1 : Int32)).toNatClampNeg]? = some (.int (own_e1 p1 p2)) := H263 _ (by decide)
      have pre264 : ∀ t, Steps p.tables e below (T246.setTop (mkF m 383 #[.val (.int p0), .val (.int p1), .val (.int p2), .val (.int p3), .val (.int (2 : Int32)), .val (.int (own_e0 p1)), .val (.int (own_e1 p1 p2)), .val (.int (own_e2 p1 p2 p3)), .val (.ref b158), .val (.ref b183), .val (.ref r247), .val (.int (1 : Int32)), .val (.int (0 : Int32)), .val (.int (0 : Int32)), .val (.int (2 : Int32))] [(.int (1 : Int32))])) t → Steps p.tables e below (s₁.setTop (entryFrame m #[(.int p0), (.int p1), (.int p2), (.int p3)] maxLocals)) t := by
        intro t kt
        refine pre226 t ?_
        show Steps p.tables e below (T215.setTop (mkF m 129 #[.val (.int p0), .val (.int p1), .val (.int p2), .val (.int p3), .val (.int (2 : Int32)), .val (.int (own_e0 p1)), .val (.int (own_e1 p1 p2)), .val (.int (own_e2 p1 p2 p3)), .val (.ref b158), .val (.ref b183), .unset, .unset, .unset, .unset, .unset] [])) _
        refine XS.aload X215.here hx rfl (hb hby at_129) rfl rfl ?_
        show Steps p.tables e below (T215.setTop (mkF m 131 #[.val (.int p0), .val (.int p1), .val (.int p2), .val (.int p3), .val (.int (2 : Int32)), .val (.int (own_e0 p1)), .val (.int (own_e1 p1 p2)), .val (.int (own_e2 p1 p2 p3)), .val (.ref b158), .val (.ref b183), .unset, .unset, .unset, .unset, .unset] [(.ref b158)])) _
        refine st246 _ ?_
        show Steps p.tables e below (T246.setTop (mkF m 134 #[.val (.int p0), .val (.int p1), .val (.int p2), .val (.int p3), .val (.int (2 : Int32)), .val (.int (own_e0 p1)), .val (.int (own_e1 p1 p2)), .val (.int (own_e2 p1 p2 p3)), .val (.ref b158), .val (.ref b183), .unset, .unset, .unset, .unset, .unset] [(.ref r247)])) _
        refine XS.astore X246.here hx rfl (hb hby at_134) rfl rfl (l' := #[.val (.int p0), .val (.int p1), .val (.int p2), .val (.int p3), .val (.int (2 : Int32)), .val (.int (own_e0 p1)), .val (.int (own_e1 p1 p2)), .val (.int (own_e2 p1 p2 p3)), .val (.ref b158), .val (.ref b183), .val (.ref r247), .unset, .unset, .unset, .unset]) rfl ?_
        show Steps p.tables e below (T246.setTop (mkF m 136 #[.val (.int p0), .val (.int p1), .val (.int p2), .val (.int p3), .val (.int (2 : Int32)), .val (.int (own_e0 p1)), .val (.int (own_e1 p1 p2)), .val (.int (own_e2 p1 p2 p3)), .val (.ref b158), .val (.ref b183), .val (.ref r247), .unset, .unset, .unset, .unset] [])) _
        refine XS.aload X246.here hx rfl (hb hby at_136) rfl rfl ?_
        show Steps p.tables e below (T246.setTop (mkF m 138 #[.val (.int p0), .val (.int p1), .val (.int p2), .val (.int p3), .val (.int (2 : Int32)), .val (.int (own_e0 p1)), .val (.int (own_e1 p1 p2)), .val (.int (own_e2 p1 p2 p3)), .val (.ref b158), .val (.ref b183), .val (.ref r247), .unset, .unset, .unset, .unset] [(.ref b158)])) _
        refine X246.arraylength hx Ar256.1 (State.isArrayOf_alike hZ.alike Ar256.2.1) (g := (mkF m 138 #[.val (.int p0), .val (.int p1), .val (.int p2), .val (.int p3), .val (.int (2 : Int32)), .val (.int (own_e0 p1)), .val (.int (own_e1 p1 p2)), .val (.int (own_e2 p1 p2 p3)), .val (.ref b158), .val (.ref b183), .val (.ref r247), .unset, .unset, .unset, .unset] [(.ref b158)])) rfl rfl (hb hby at_138) _ ?_
        rw [own_len (z := (2 : Int32)) S256 rfl]
        show Steps p.tables e below (T246.setTop (mkF m 139 #[.val (.int p0), .val (.int p1), .val (.int p2), .val (.int p3), .val (.int (2 : Int32)), .val (.int (own_e0 p1)), .val (.int (own_e1 p1 p2)), .val (.int (own_e2 p1 p2 p3)), .val (.ref b158), .val (.ref b183), .val (.ref r247), .unset, .unset, .unset, .unset] [(.int (2 : Int32))])) _
        refine XS.iload X246.here hx rfl (hb hby at_139) rfl ?_
        show Steps p.tables e below (T246.setTop (mkF m 141 #[.val (.int p0), .val (.int p1), .val (.int p2), .val (.int p3), .val (.int (2 : Int32)), .val (.int (own_e0 p1)), .val (.int (own_e1 p1 p2)), .val (.int (own_e2 p1 p2 p3)), .val (.ref b158), .val (.ref b183), .val (.ref r247), .unset, .unset, .unset, .unset] [(.int (2 : Int32)), (.int (2 : Int32))])) _
        refine XS.icmpNo X246.here hx rfl (hb hby at_141) rfl (teq (rfl : (2 : Int32) = (2 : Int32))).2 ?_
        show Steps p.tables e below (T246.setTop (mkF m 144 #[.val (.int p0), .val (.int p1), .val (.int p2), .val (.int p3), .val (.int (2 : Int32)), .val (.int (own_e0 p1)), .val (.int (own_e1 p1 p2)), .val (.int (own_e2 p1 p2 p3)), .val (.ref b158), .val (.ref b183), .val (.ref r247), .unset, .unset, .unset, .unset] [])) _
        refine XS.iconst X246.here hx rfl (hb hby at_144) ?_
        show Steps p.tables e below (T246.setTop (mkF m 145 #[.val (.int p0), .val (.int p1), .val (.int p2), .val (.int p3), .val (.int (2 : Int32)), .val (.int (own_e0 p1)), .val (.int (own_e1 p1 p2)), .val (.int (own_e2 p1 p2 p3)), .val (.ref b158), .val (.ref b183), .val (.ref r247), .unset, .unset, .unset, .unset] [(.int (1 : Int32))])) _
        refine XS.goto X246.here hx rfl (pc0 := 145) (pc' := 149) rfl (hb hby at_145) (by decide) (by decide) ?_
        show Steps p.tables e below (T246.setTop (mkF m 149 #[.val (.int p0), .val (.int p1), .val (.int p2), .val (.int p3), .val (.int (2 : Int32)), .val (.int (own_e0 p1)), .val (.int (own_e1 p1 p2)), .val (.int (own_e2 p1 p2 p3)), .val (.ref b158), .val (.ref b183), .val (.ref r247), .unset, .unset, .unset, .unset] [(.int (1 : Int32))])) _
        refine XS.istore X246.here hx rfl (hb hby at_149) rfl (l' := #[.val (.int p0), .val (.int p1), .val (.int p2), .val (.int p3), .val (.int (2 : Int32)), .val (.int (own_e0 p1)), .val (.int (own_e1 p1 p2)), .val (.int (own_e2 p1 p2 p3)), .val (.ref b158), .val (.ref b183), .val (.ref r247), .val (.int (1 : Int32)), .unset, .unset, .unset]) rfl ?_
        show Steps p.tables e below (T246.setTop (mkF m 151 #[.val (.int p0), .val (.int p1), .val (.int p2), .val (.int p3), .val (.int (2 : Int32)), .val (.int (own_e0 p1)), .val (.int (own_e1 p1 p2)), .val (.int (own_e2 p1 p2 p3)), .val (.ref b158), .val (.ref b183), .val (.ref r247), .val (.int (1 : Int32)), .unset, .unset, .unset] [])) _
        refine XS.iload X246.here hx rfl (hb hby at_151) rfl ?_
        show Steps p.tables e below (T246.setTop (mkF m 153 #[.val (.int p0), .val (.int p1), .val (.int p2), .val (.int p3), .val (.int (2 : Int32)), .val (.int (own_e0 p1)), .val (.int (own_e1 p1 p2)), .val (.int (own_e2 p1 p2 p3)), .val (.ref b158), .val (.ref b183), .val (.ref r247), .val (.int (1 : Int32)), .unset, .unset, .unset] [(.int (2 : Int32))])) _
        refine XS.ifNo X246.here hx rfl (hb hby at_153) rfl ((if0 _ _).trans (tlt (by decide : (0 : Int32) < (2 : Int32))).2.2.2) ?_
        show Steps p.tables e below (T246.setTop (mkF m 156 #[.val (.int p0), .val (.int p1), .val (.int p2), .val (.int p3), .val (.int (2 : Int32)), .val (.int (own_e0 p1)), .val (.int (own_e1 p1 p2)), .val (.int (own_e2 p1 p2 p3)), .val (.ref b158), .val (.ref b183), .val (.ref r247), .val (.int (1 : Int32)), .unset, .unset, .unset] [])) _
        refine XS.iload X246.here hx rfl (hb hby at_156) rfl ?_
        show Steps p.tables e below (T246.setTop (mkF m 158 #[.val (.int p0), .val (.int p1), .val (.int p2), .val (.int p3), .val (.int (2 : Int32)), .val (.int (own_e0 p1)), .val (.int (own_e1 p1 p2)), .val (.int (own_e2 p1 p2 p3)), .val (.ref b158), .val (.ref b183), .val (.ref r247), .val (.int (1 : Int32)), .unset, .unset, .unset] [(.int (1 : Int32))])) _
        refine XS.ifNo X246.here hx rfl (hb hby at_158) rfl ((if0 _ _).trans (feq (by decide : ¬ ((1 : Int32) = (0 : Int32)))).1) ?_
        show Steps p.tables e below (T246.setTop (mkF m 161 #[.val (.int p0), .val (.int p1), .val (.int p2), .val (.int p3), .val (.int (2 : Int32)), .val (.int (own_e0 p1)), .val (.int (own_e1 p1 p2)), .val (.int (own_e2 p1 p2 p3)), .val (.ref b158), .val (.ref b183), .val (.ref r247), .val (.int (1 : Int32)), .unset, .unset, .unset] [])) _
        refine XS.aload X246.here hx rfl (hb hby at_161) rfl rfl ?_
        show Steps p.tables e below (T246.setTop (mkF m 163 #[.val (.int p0), .val (.int p1), .val (.int p2), .val (.int p3), .val (.int (2 : Int32)), .val (.int (own_e0 p1)), .val (.int (own_e1 p1 p2)), .val (.int (own_e2 p1 p2 p3)), .val (.ref b158), .val (.ref b183), .val (.ref r247), .val (.int (1 : Int32)), .unset, .unset, .unset] [(.ref b158)])) _
        refine XS.iconst X246.here hx rfl (hb hby at_163) ?_
        show Steps p.tables e below (T246.setTop (mkF m 164 #[.val (.int p0), .val (.int p1), .val (.int p2), .val (.int p3), .val (.int (2 : Int32)), .val (.int (own_e0 p1)), .val (.int (own_e1 p1 p2)), .val (.int (own_e2 p1 p2 p3)), .val (.ref b158), .val (.ref b183), .val (.ref r247), .val (.int (1 : Int32)), .unset, .unset, .unset] [(.int (0 : Int32)), (.ref b158)])) _
        refine X246.iaload hx (j := (0 : Int32)) (v := (.int (own_e0 p1))) Ar257.1 (State.isArrayOf_alike hZ.alike Ar257.2.1) Ar257.2.2 hin257 hat257 (g := (mkF m 164 #[.val (.int p0), .val (.int p1), .val (.int p2), .val (.int p3), .val (.int (2 : Int32)), .val (.int (own_e0 p1)), .val (.int (own_e1 p1 p2)), .val (.int (own_e2 p1 p2 p3)), .val (.ref b158), .val (.ref b183), .val (.ref r247), .val (.int (1 : Int32)), .unset, .unset, .unset] [(.int (0 : Int32)), (.ref b158)])) rfl rfl (hb hby at_164) _ ?_
        show Steps p.tables e below (T246.setTop (mkF m 165 #[.val (.int p0), .val (.int p1), .val (.int p2), .val (.int p3), .val (.int (2 : Int32)), .val (.int (own_e0 p1)), .val (.int (own_e1 p1 p2)), .val (.int (own_e2 p1 p2 p3)), .val (.ref b158), .val (.ref b183), .val (.ref r247), .val (.int (1 : Int32)), .unset, .unset, .unset] [(.int (own_e0 p1))])) _
        refine XS.iload X246.here hx rfl (hb hby at_165) rfl ?_
        show Steps p.tables e below (T246.setTop (mkF m 167 #[.val (.int p0), .val (.int p1), .val (.int p2), .val (.int p3), .val (.int (2 : Int32)), .val (.int (own_e0 p1)), .val (.int (own_e1 p1 p2)), .val (.int (own_e2 p1 p2 p3)), .val (.ref b158), .val (.ref b183), .val (.ref r247), .val (.int (1 : Int32)), .unset, .unset, .unset] [(.int (own_e0 p1)), (.int (own_e0 p1))])) _
        refine XS.icmpNo X246.here hx rfl (hb hby at_167) rfl (teq (rfl : (own_e0 p1) = (own_e0 p1))).2 ?_
        show Steps p.tables e below (T246.setTop (mkF m 170 #[.val (.int p0), .val (.int p1), .val (.int p2), .val (.int p3), .val (.int (2 : Int32)), .val (.int (own_e0 p1)), .val (.int (own_e1 p1 p2)), .val (.int (own_e2 p1 p2 p3)), .val (.ref b158), .val (.ref b183), .val (.ref r247), .val (.int (1 : Int32)), .unset, .unset, .unset] [])) _
        refine XS.iconst X246.here hx rfl (hb hby at_170) ?_
        show Steps p.tables e below (T246.setTop (mkF m 171 #[.val (.int p0), .val (.int p1), .val (.int p2), .val (.int p3), .val (.int (2 : Int32)), .val (.int (own_e0 p1)), .val (.int (own_e1 p1 p2)), .val (.int (own_e2 p1 p2 p3)), .val (.ref b158), .val (.ref b183), .val (.ref r247), .val (.int (1 : Int32)), .unset, .unset, .unset] [(.int (1 : Int32))])) _
        refine XS.goto X246.here hx rfl (pc0 := 171) (pc' := 175) rfl (hb hby at_171) (by decide) (by decide) ?_
        show Steps p.tables e below (T246.setTop (mkF m 175 #[.val (.int p0), .val (.int p1), .val (.int p2), .val (.int p3), .val (.int (2 : Int32)), .val (.int (own_e0 p1)), .val (.int (own_e1 p1 p2)), .val (.int (own_e2 p1 p2 p3)), .val (.ref b158), .val (.ref b183), .val (.ref r247), .val (.int (1 : Int32)), .unset, .unset, .unset] [(.int (1 : Int32))])) _
        refine XS.istore X246.here hx rfl (hb hby at_175) rfl (l' := #[.val (.int p0), .val (.int p1), .val (.int p2), .val (.int p3), .val (.int (2 : Int32)), .val (.int (own_e0 p1)), .val (.int (own_e1 p1 p2)), .val (.int (own_e2 p1 p2 p3)), .val (.ref b158), .val (.ref b183), .val (.ref r247), .val (.int (1 : Int32)), .unset, .unset, .unset]) rfl ?_
        show Steps p.tables e below (T246.setTop (mkF m 177 #[.val (.int p0), .val (.int p1), .val (.int p2), .val (.int p3), .val (.int (2 : Int32)), .val (.int (own_e0 p1)), .val (.int (own_e1 p1 p2)), .val (.int (own_e2 p1 p2 p3)), .val (.ref b158), .val (.ref b183), .val (.ref r247), .val (.int (1 : Int32)), .unset, .unset, .unset] [])) _
        refine XS.iload X246.here hx rfl (hb hby at_177) rfl ?_
        show Steps p.tables e below (T246.setTop (mkF m 179 #[.val (.int p0), .val (.int p1), .val (.int p2), .val (.int p3), .val (.int (2 : Int32)), .val (.int (own_e0 p1)), .val (.int (own_e1 p1 p2)), .val (.int (own_e2 p1 p2 p3)), .val (.ref b158), .val (.ref b183), .val (.ref r247), .val (.int (1 : Int32)), .unset, .unset, .unset] [(.int (2 : Int32))])) _
        refine XS.iconst X246.here hx rfl (hb hby at_179) ?_
        show Steps p.tables e below (T246.setTop (mkF m 180 #[.val (.int p0), .val (.int p1), .val (.int p2), .val (.int p3), .val (.int (2 : Int32)), .val (.int (own_e0 p1)), .val (.int (own_e1 p1 p2)), .val (.int (own_e2 p1 p2 p3)), .val (.ref b158), .val (.ref b183), .val (.ref r247), .val (.int (1 : Int32)), .unset, .unset, .unset] [(.int (1 : Int32)), (.int (2 : Int32))])) _
        refine XS.icmpNo X246.here hx rfl (hb hby at_180) rfl (tlt (by decide : (1 : Int32) < (2 : Int32))).2.2.2 ?_
        show Steps p.tables e below (T246.setTop (mkF m 183 #[.val (.int p0), .val (.int p1), .val (.int p2), .val (.int p3), .val (.int (2 : Int32)), .val (.int (own_e0 p1)), .val (.int (own_e1 p1 p2)), .val (.int (own_e2 p1 p2 p3)), .val (.ref b158), .val (.ref b183), .val (.ref r247), .val (.int (1 : Int32)), .unset, .unset, .unset] [])) _
        refine XS.iload X246.here hx rfl (hb hby at_183) rfl ?_
        show Steps p.tables e below (T246.setTop (mkF m 185 #[.val (.int p0), .val (.int p1), .val (.int p2), .val (.int p3), .val (.int (2 : Int32)), .val (.int (own_e0 p1)), .val (.int (own_e1 p1 p2)), .val (.int (own_e2 p1 p2 p3)), .val (.ref b158), .val (.ref b183), .val (.ref r247), .val (.int (1 : Int32)), .unset, .unset, .unset] [(.int (1 : Int32))])) _
        refine XS.ifNo X246.here hx rfl (hb hby at_185) rfl ((if0 _ _).trans (feq (by decide : ¬ ((1 : Int32) = (0 : Int32)))).1) ?_
        show Steps p.tables e below (T246.setTop (mkF m 188 #[.val (.int p0), .val (.int p1), .val (.int p2), .val (.int p3), .val (.int (2 : Int32)), .val (.int (own_e0 p1)), .val (.int (own_e1 p1 p2)), .val (.int (own_e2 p1 p2 p3)), .val (.ref b158), .val (.ref b183), .val (.ref r247), .val (.int (1 : Int32)), .unset, .unset, .unset] [])) _
        refine XS.aload X246.here hx rfl (hb hby at_188) rfl rfl ?_
        show Steps p.tables e below (T246.setTop (mkF m 190 #[.val (.int p0), .val (.int p1), .val (.int p2), .val (.int p3), .val (.int (2 : Int32)), .val (.int (own_e0 p1)), .val (.int (own_e1 p1 p2)), .val (.int (own_e2 p1 p2 p3)), .val (.ref b158), .val (.ref b183), .val (.ref r247), .val (.int (1 : Int32)), .unset, .unset, .unset] [(.ref b158)])) _
        refine XS.iconst X246.here hx rfl (hb hby at_190) ?_
        show Steps p.tables e below (T246.setTop (mkF m 191 #[.val (.int p0), .val (.int p1), .val (.int p2), .val (.int p3), .val (.int (2 : Int32)), .val (.int (own_e0 p1)), .val (.int (own_e1 p1 p2)), .val (.int (own_e2 p1 p2 p3)), .val (.ref b158), .val (.ref b183), .val (.ref r247), .val (.int (1 : Int32)), .unset, .unset, .unset] [(.int (1 : Int32)), (.ref b158)])) _
        refine X246.iaload hx (j := (1 : Int32)) (v := (.int (own_e1 p1 p2))) Ar258.1 (State.isArrayOf_alike hZ.alike Ar258.2.1) Ar258.2.2 hin258 hat258 (g := (mkF m 191 #[.val (.int p0), .val (.int p1), .val (.int p2), .val (.int p3), .val (.int (2 : Int32)), .val (.int (own_e0 p1)), .val (.int (own_e1 p1 p2)), .val (.int (own_e2 p1 p2 p3)), .val (.ref b158), .val (.ref b183), .val (.ref r247), .val (.int (1 : Int32)), .unset, .unset, .unset] [(.int (1 : Int32)), (.ref b158)])) rfl rfl (hb hby at_191) _ ?_
        show Steps p.tables e below (T246.setTop (mkF m 192 #[.val (.int p0), .val (.int p1), .val (.int p2), .val (.int p3), .val (.int (2 : Int32)), .val (.int (own_e0 p1)), .val (.int (own_e1 p1 p2)), .val (.int (own_e2 p1 p2 p3)), .val (.ref b158), .val (.ref b183), .val (.ref r247), .val (.int (1 : Int32)), .unset, .unset, .unset] [(.int (own_e1 p1 p2))])) _
        refine XS.iload X246.here hx rfl (hb hby at_192) rfl ?_
        show Steps p.tables e below (T246.setTop (mkF m 194 #[.val (.int p0), .val (.int p1), .val (.int p2), .val (.int p3), .val (.int (2 : Int32)), .val (.int (own_e0 p1)), .val (.int (own_e1 p1 p2)), .val (.int (own_e2 p1 p2 p3)), .val (.ref b158), .val (.ref b183), .val (.ref r247), .val (.int (1 : Int32)), .unset, .unset, .unset] [(.int (own_e1 p1 p2)), (.int (own_e1 p1 p2))])) _
        refine XS.icmpNo X246.here hx rfl (hb hby at_194) rfl (teq (rfl : (own_e1 p1 p2) = (own_e1 p1 p2))).2 ?_
        show Steps p.tables e below (T246.setTop (mkF m 197 #[.val (.int p0), .val (.int p1), .val (.int p2), .val (.int p3), .val (.int (2 : Int32)), .val (.int (own_e0 p1)), .val (.int (own_e1 p1 p2)), .val (.int (own_e2 p1 p2 p3)), .val (.ref b158), .val (.ref b183), .val (.ref r247), .val (.int (1 : Int32)), .unset, .unset, .unset] [])) _
        refine XS.iconst X246.here hx rfl (hb hby at_197) ?_
        show Steps p.tables e below (T246.setTop (mkF m 198 #[.val (.int p0), .val (.int p1), .val (.int p2), .val (.int p3), .val (.int (2 : Int32)), .val (.int (own_e0 p1)), .val (.int (own_e1 p1 p2)), .val (.int (own_e2 p1 p2 p3)), .val (.ref b158), .val (.ref b183), .val (.ref r247), .val (.int (1 : Int32)), .unset, .unset, .unset] [(.int (1 : Int32))])) _
        refine XS.goto X246.here hx rfl (pc0 := 198) (pc' := 202) rfl (hb hby at_198) (by decide) (by decide) ?_
        show Steps p.tables e below (T246.setTop (mkF m 202 #[.val (.int p0), .val (.int p1), .val (.int p2), .val (.int p3), .val (.int (2 : Int32)), .val (.int (own_e0 p1)), .val (.int (own_e1 p1 p2)), .val (.int (own_e2 p1 p2 p3)), .val (.ref b158), .val (.ref b183), .val (.ref r247), .val (.int (1 : Int32)), .unset, .unset, .unset] [(.int (1 : Int32))])) _
        refine XS.istore X246.here hx rfl (hb hby at_202) rfl (l' := #[.val (.int p0), .val (.int p1), .val (.int p2), .val (.int p3), .val (.int (2 : Int32)), .val (.int (own_e0 p1)), .val (.int (own_e1 p1 p2)), .val (.int (own_e2 p1 p2 p3)), .val (.ref b158), .val (.ref b183), .val (.ref r247), .val (.int (1 : Int32)), .unset, .unset, .unset]) rfl ?_
        show Steps p.tables e below (T246.setTop (mkF m 204 #[.val (.int p0), .val (.int p1), .val (.int p2), .val (.int p3), .val (.int (2 : Int32)), .val (.int (own_e0 p1)), .val (.int (own_e1 p1 p2)), .val (.int (own_e2 p1 p2 p3)), .val (.ref b158), .val (.ref b183), .val (.ref r247), .val (.int (1 : Int32)), .unset, .unset, .unset] [])) _
        refine XS.iload X246.here hx rfl (hb hby at_204) rfl ?_
        show Steps p.tables e below (T246.setTop (mkF m 206 #[.val (.int p0), .val (.int p1), .val (.int p2), .val (.int p3), .val (.int (2 : Int32)), .val (.int (own_e0 p1)), .val (.int (own_e1 p1 p2)), .val (.int (own_e2 p1 p2 p3)), .val (.ref b158), .val (.ref b183), .val (.ref r247), .val (.int (1 : Int32)), .unset, .unset, .unset] [(.int (2 : Int32))])) _
        refine XS.iconst X246.here hx rfl (hb hby at_206) ?_
        show Steps p.tables e below (T246.setTop (mkF m 207 #[.val (.int p0), .val (.int p1), .val (.int p2), .val (.int p3), .val (.int (2 : Int32)), .val (.int (own_e0 p1)), .val (.int (own_e1 p1 p2)), .val (.int (own_e2 p1 p2 p3)), .val (.ref b158), .val (.ref b183), .val (.ref r247), .val (.int (1 : Int32)), .unset, .unset, .unset] [(.int (2 : Int32)), (.int (2 : Int32))])) _
        refine XS.icmpYes X246.here hx rfl (pc0 := 207) (pc' := 231) rfl (hb hby at_207) rfl (flt (by decide : ¬ ((2 : Int32) < (2 : Int32)))).2.2.2 (by decide) (by decide) ?_
        show Steps p.tables e below (T246.setTop (mkF m 231 #[.val (.int p0), .val (.int p1), .val (.int p2), .val (.int p3), .val (.int (2 : Int32)), .val (.int (own_e0 p1)), .val (.int (own_e1 p1 p2)), .val (.int (own_e2 p1 p2 p3)), .val (.ref b158), .val (.ref b183), .val (.ref r247), .val (.int (1 : Int32)), .unset, .unset, .unset] [])) _
        refine XS.iload X246.here hx rfl (hb hby at_231) rfl ?_
        show Steps p.tables e below (T246.setTop (mkF m 233 #[.val (.int p0), .val (.int p1), .val (.int p2), .val (.int p3), .val (.int (2 : Int32)), .val (.int (own_e0 p1)), .val (.int (own_e1 p1 p2)), .val (.int (own_e2 p1 p2 p3)), .val (.ref b158), .val (.ref b183), .val (.ref r247), .val (.int (1 : Int32)), .unset, .unset, .unset] [(.int (2 : Int32))])) _
        refine XS.ifNo X246.here hx rfl (hb hby at_233) rfl ((if0 _ _).trans (tlt (by decide : (0 : Int32) < (2 : Int32))).2.2.2) ?_
        show Steps p.tables e below (T246.setTop (mkF m 236 #[.val (.int p0), .val (.int p1), .val (.int p2), .val (.int p3), .val (.int (2 : Int32)), .val (.int (own_e0 p1)), .val (.int (own_e1 p1 p2)), .val (.int (own_e2 p1 p2 p3)), .val (.ref b158), .val (.ref b183), .val (.ref r247), .val (.int (1 : Int32)), .unset, .unset, .unset] [])) _
        refine XS.iload X246.here hx rfl (hb hby at_236) rfl ?_
        show Steps p.tables e below (T246.setTop (mkF m 238 #[.val (.int p0), .val (.int p1), .val (.int p2), .val (.int p3), .val (.int (2 : Int32)), .val (.int (own_e0 p1)), .val (.int (own_e1 p1 p2)), .val (.int (own_e2 p1 p2 p3)), .val (.ref b158), .val (.ref b183), .val (.ref r247), .val (.int (1 : Int32)), .unset, .unset, .unset] [(.int (own_e0 p1))])) _
        refine XS.ifYes X246.here hx rfl (pc0 := 238) (pc' := 245) rfl (hb hby at_238) rfl ((if0 _ _).trans (feq hz0).2) (by decide) (by decide) ?_
        show Steps p.tables e below (T246.setTop (mkF m 245 #[.val (.int p0), .val (.int p1), .val (.int p2), .val (.int p3), .val (.int (2 : Int32)), .val (.int (own_e0 p1)), .val (.int (own_e1 p1 p2)), .val (.int (own_e2 p1 p2 p3)), .val (.ref b158), .val (.ref b183), .val (.ref r247), .val (.int (1 : Int32)), .unset, .unset, .unset] [])) _
        refine XS.iconst X246.here hx rfl (hb hby at_245) ?_
        show Steps p.tables e below (T246.setTop (mkF m 246 #[.val (.int p0), .val (.int p1), .val (.int p2), .val (.int p3), .val (.int (2 : Int32)), .val (.int (own_e0 p1)), .val (.int (own_e1 p1 p2)), .val (.int (own_e2 p1 p2 p3)), .val (.ref b158), .val (.ref b183), .val (.ref r247), .val (.int (1 : Int32)), .unset, .unset, .unset] [(.int (0 : Int32))])) _
        refine XS.istore X246.here hx rfl (hb hby at_246) rfl (l' := #[.val (.int p0), .val (.int p1), .val (.int p2), .val (.int p3), .val (.int (2 : Int32)), .val (.int (own_e0 p1)), .val (.int (own_e1 p1 p2)), .val (.int (own_e2 p1 p2 p3)), .val (.ref b158), .val (.ref b183), .val (.ref r247), .val (.int (1 : Int32)), .val (.int (0 : Int32)), .unset, .unset]) rfl ?_
        show Steps p.tables e below (T246.setTop (mkF m 248 #[.val (.int p0), .val (.int p1), .val (.int p2), .val (.int p3), .val (.int (2 : Int32)), .val (.int (own_e0 p1)), .val (.int (own_e1 p1 p2)), .val (.int (own_e2 p1 p2 p3)), .val (.ref b158), .val (.ref b183), .val (.ref r247), .val (.int (1 : Int32)), .val (.int (0 : Int32)), .unset, .unset] [])) _
        refine XS.iload X246.here hx rfl (hb hby at_248) rfl ?_
        show Steps p.tables e below (T246.setTop (mkF m 250 #[.val (.int p0), .val (.int p1), .val (.int p2), .val (.int p3), .val (.int (2 : Int32)), .val (.int (own_e0 p1)), .val (.int (own_e1 p1 p2)), .val (.int (own_e2 p1 p2 p3)), .val (.ref b158), .val (.ref b183), .val (.ref r247), .val (.int (1 : Int32)), .val (.int (0 : Int32)), .unset, .unset] [(.int (0 : Int32))])) _
        refine XS.ifYes X246.here hx rfl (pc0 := 250) (pc' := 257) rfl (hb hby at_250) rfl ((if0 _ _).trans (teq (rfl : (0 : Int32) = (0 : Int32))).1) (by decide) (by decide) ?_
        show Steps p.tables e below (T246.setTop (mkF m 257 #[.val (.int p0), .val (.int p1), .val (.int p2), .val (.int p3), .val (.int (2 : Int32)), .val (.int (own_e0 p1)), .val (.int (own_e1 p1 p2)), .val (.int (own_e2 p1 p2 p3)), .val (.ref b158), .val (.ref b183), .val (.ref r247), .val (.int (1 : Int32)), .val (.int (0 : Int32)), .unset, .unset] [])) _
        refine XS.iconst X246.here hx rfl (hb hby at_257) ?_
        show Steps p.tables e below (T246.setTop (mkF m 258 #[.val (.int p0), .val (.int p1), .val (.int p2), .val (.int p3), .val (.int (2 : Int32)), .val (.int (own_e0 p1)), .val (.int (own_e1 p1 p2)), .val (.int (own_e2 p1 p2 p3)), .val (.ref b158), .val (.ref b183), .val (.ref r247), .val (.int (1 : Int32)), .val (.int (0 : Int32)), .unset, .unset] [(.int (0 : Int32))])) _
        refine XS.istore X246.here hx rfl (hb hby at_258) rfl (l' := #[.val (.int p0), .val (.int p1), .val (.int p2), .val (.int p3), .val (.int (2 : Int32)), .val (.int (own_e0 p1)), .val (.int (own_e1 p1 p2)), .val (.int (own_e2 p1 p2 p3)), .val (.ref b158), .val (.ref b183), .val (.ref r247), .val (.int (1 : Int32)), .val (.int (0 : Int32)), .val (.int (0 : Int32)), .unset]) rfl ?_
        show Steps p.tables e below (T246.setTop (mkF m 260 #[.val (.int p0), .val (.int p1), .val (.int p2), .val (.int p3), .val (.int (2 : Int32)), .val (.int (own_e0 p1)), .val (.int (own_e1 p1 p2)), .val (.int (own_e2 p1 p2 p3)), .val (.ref b158), .val (.ref b183), .val (.ref r247), .val (.int (1 : Int32)), .val (.int (0 : Int32)), .val (.int (0 : Int32)), .unset] [])) _
        refine XS.iload X246.here hx rfl (hb hby at_260) rfl ?_
        show Steps p.tables e below (T246.setTop (mkF m 262 #[.val (.int p0), .val (.int p1), .val (.int p2), .val (.int p3), .val (.int (2 : Int32)), .val (.int (own_e0 p1)), .val (.int (own_e1 p1 p2)), .val (.int (own_e2 p1 p2 p3)), .val (.ref b158), .val (.ref b183), .val (.ref r247), .val (.int (1 : Int32)), .val (.int (0 : Int32)), .val (.int (0 : Int32)), .unset] [(.int (2 : Int32))])) _
        refine XS.iload X246.here hx rfl (hb hby at_262) rfl ?_
        show Steps p.tables e below (T246.setTop (mkF m 264 #[.val (.int p0), .val (.int p1), .val (.int p2), .val (.int p3), .val (.int (2 : Int32)), .val (.int (own_e0 p1)), .val (.int (own_e1 p1 p2)), .val (.int (own_e2 p1 p2 p3)), .val (.ref b158), .val (.ref b183), .val (.ref r247), .val (.int (1 : Int32)), .val (.int (0 : Int32)), .val (.int (0 : Int32)), .unset] [(.int (0 : Int32)), (.int (2 : Int32))])) _
        refine XS.isub X246.here hx rfl (hb hby at_264) rfl ?_
        show Steps p.tables e below (T246.setTop (mkF m 265 #[.val (.int p0), .val (.int p1), .val (.int p2), .val (.int p3), .val (.int (2 : Int32)), .val (.int (own_e0 p1)), .val (.int (own_e1 p1 p2)), .val (.int (own_e2 p1 p2 p3)), .val (.ref b158), .val (.ref b183), .val (.ref r247), .val (.int (1 : Int32)), .val (.int (0 : Int32)), .val (.int (0 : Int32)), .unset] [(.int (2 : Int32))])) _
        refine XS.istore X246.here hx rfl (hb hby at_265) rfl (l' := #[.val (.int p0), .val (.int p1), .val (.int p2), .val (.int p3), .val (.int (2 : Int32)), .val (.int (own_e0 p1)), .val (.int (own_e1 p1 p2)), .val (.int (own_e2 p1 p2 p3)), .val (.ref b158), .val (.ref b183), .val (.ref r247), .val (.int (1 : Int32)), .val (.int (0 : Int32)), .val (.int (0 : Int32)), .val (.int (2 : Int32))]) rfl ?_
        show Steps p.tables e below (T246.setTop (mkF m 267 #[.val (.int p0), .val (.int p1), .val (.int p2), .val (.int p3), .val (.int (2 : Int32)), .val (.int (own_e0 p1)), .val (.int (own_e1 p1 p2)), .val (.int (own_e2 p1 p2 p3)), .val (.ref b158), .val (.ref b183), .val (.ref r247), .val (.int (1 : Int32)), .val (.int (0 : Int32)), .val (.int (0 : Int32)), .val (.int (2 : Int32))] [])) _
        refine XS.aload X246.here hx rfl (hb hby at_267) rfl rfl ?_
        show Steps p.tables e below (T246.setTop (mkF m 269 #[.val (.int p0), .val (.int p1), .val (.int p2), .val (.int p3), .val (.int (2 : Int32)), .val (.int (own_e0 p1)), .val (.int (own_e1 p1 p2)), .val (.int (own_e2 p1 p2 p3)), .val (.ref b158), .val (.ref b183), .val (.ref r247), .val (.int (1 : Int32)), .val (.int (0 : Int32)), .val (.int (0 : Int32)), .val (.int (2 : Int32))] [(.ref r247)])) _
        refine XS.ifnullNo X246.here hx rfl (hb hby at_269) rfl ?_
        show Steps p.tables e below (T246.setTop (mkF m 272 #[.val (.int p0), .val (.int p1), .val (.int p2), .val (.int p3), .val (.int (2 : Int32)), .val (.int (own_e0 p1)), .val (.int (own_e1 p1 p2)), .val (.int (own_e2 p1 p2 p3)), .val (.ref b158), .val (.ref b183), .val (.ref r247), .val (.int (1 : Int32)), .val (.int (0 : Int32)), .val (.int (0 : Int32)), .val (.int (2 : Int32))] [])) _
        refine XS.aload X246.here hx rfl (hb hby at_272) rfl rfl ?_
        show Steps p.tables e below (T246.setTop (mkF m 274 #[.val (.int p0), .val (.int p1), .val (.int p2), .val (.int p3), .val (.int (2 : Int32)), .val (.int (own_e0 p1)), .val (.int (own_e1 p1 p2)), .val (.int (own_e2 p1 p2 p3)), .val (.ref b158), .val (.ref b183), .val (.ref r247), .val (.int (1 : Int32)), .val (.int (0 : Int32)), .val (.int (0 : Int32)), .val (.int (2 : Int32))] [(.ref r247)])) _
        refine X246.arraylength hx Ar259.1 (State.isArrayOf_alike hZ.alike Ar259.2.1) (g := (mkF m 274 #[.val (.int p0), .val (.int p1), .val (.int p2), .val (.int p3), .val (.int (2 : Int32)), .val (.int (own_e0 p1)), .val (.int (own_e1 p1 p2)), .val (.int (own_e2 p1 p2 p3)), .val (.ref b158), .val (.ref b183), .val (.ref r247), .val (.int (1 : Int32)), .val (.int (0 : Int32)), .val (.int (0 : Int32)), .val (.int (2 : Int32))] [(.ref r247)])) rfl rfl (hb hby at_274) _ ?_
        rw [own_len (z := (2 : Int32)) S259 rfl]
        show Steps p.tables e below (T246.setTop (mkF m 275 #[.val (.int p0), .val (.int p1), .val (.int p2), .val (.int p3), .val (.int (2 : Int32)), .val (.int (own_e0 p1)), .val (.int (own_e1 p1 p2)), .val (.int (own_e2 p1 p2 p3)), .val (.ref b158), .val (.ref b183), .val (.ref r247), .val (.int (1 : Int32)), .val (.int (0 : Int32)), .val (.int (0 : Int32)), .val (.int (2 : Int32))] [(.int (2 : Int32))])) _
        refine XS.iload X246.here hx rfl (hb hby at_275) rfl ?_
        show Steps p.tables e below (T246.setTop (mkF m 277 #[.val (.int p0), .val (.int p1), .val (.int p2), .val (.int p3), .val (.int (2 : Int32)), .val (.int (own_e0 p1)), .val (.int (own_e1 p1 p2)), .val (.int (own_e2 p1 p2 p3)), .val (.ref b158), .val (.ref b183), .val (.ref r247), .val (.int (1 : Int32)), .val (.int (0 : Int32)), .val (.int (0 : Int32)), .val (.int (2 : Int32))] [(.int (2 : Int32)), (.int (2 : Int32))])) _
        refine XS.icmpYes X246.here hx rfl (pc0 := 277) (pc' := 282) rfl (hb hby at_277) rfl (teq (rfl : (2 : Int32) = (2 : Int32))).1 (by decide) (by decide) ?_
        show Steps p.tables e below (T246.setTop (mkF m 282 #[.val (.int p0), .val (.int p1), .val (.int p2), .val (.int p3), .val (.int (2 : Int32)), .val (.int (own_e0 p1)), .val (.int (own_e1 p1 p2)), .val (.int (own_e2 p1 p2 p3)), .val (.ref b158), .val (.ref b183), .val (.ref r247), .val (.int (1 : Int32)), .val (.int (0 : Int32)), .val (.int (0 : Int32)), .val (.int (2 : Int32))] [])) _
        refine XS.iload X246.here hx rfl (hb hby at_282) rfl ?_
        show Steps p.tables e below (T246.setTop (mkF m 284 #[.val (.int p0), .val (.int p1), .val (.int p2), .val (.int p3), .val (.int (2 : Int32)), .val (.int (own_e0 p1)), .val (.int (own_e1 p1 p2)), .val (.int (own_e2 p1 p2 p3)), .val (.ref b158), .val (.ref b183), .val (.ref r247), .val (.int (1 : Int32)), .val (.int (0 : Int32)), .val (.int (0 : Int32)), .val (.int (2 : Int32))] [(.int (2 : Int32))])) _
        refine XS.ifNo X246.here hx rfl (hb hby at_284) rfl ((if0 _ _).trans (tlt (by decide : (0 : Int32) < (2 : Int32))).2.2.2) ?_
        show Steps p.tables e below (T246.setTop (mkF m 287 #[.val (.int p0), .val (.int p1), .val (.int p2), .val (.int p3), .val (.int (2 : Int32)), .val (.int (own_e0 p1)), .val (.int (own_e1 p1 p2)), .val (.int (own_e2 p1 p2 p3)), .val (.ref b158), .val (.ref b183), .val (.ref r247), .val (.int (1 : Int32)), .val (.int (0 : Int32)), .val (.int (0 : Int32)), .val (.int (2 : Int32))] [])) _
        refine XS.iload X246.here hx rfl (hb hby at_287) rfl ?_
        show Steps p.tables e below (T246.setTop (mkF m 289 #[.val (.int p0), .val (.int p1), .val (.int p2), .val (.int p3), .val (.int (2 : Int32)), .val (.int (own_e0 p1)), .val (.int (own_e1 p1 p2)), .val (.int (own_e2 p1 p2 p3)), .val (.ref b158), .val (.ref b183), .val (.ref r247), .val (.int (1 : Int32)), .val (.int (0 : Int32)), .val (.int (0 : Int32)), .val (.int (2 : Int32))] [(.int (1 : Int32))])) _
        refine XS.ifNo X246.here hx rfl (hb hby at_289) rfl ((if0 _ _).trans (feq (by decide : ¬ ((1 : Int32) = (0 : Int32)))).1) ?_
        show Steps p.tables e below (T246.setTop (mkF m 292 #[.val (.int p0), .val (.int p1), .val (.int p2), .val (.int p3), .val (.int (2 : Int32)), .val (.int (own_e0 p1)), .val (.int (own_e1 p1 p2)), .val (.int (own_e2 p1 p2 p3)), .val (.ref b158), .val (.ref b183), .val (.ref r247), .val (.int (1 : Int32)), .val (.int (0 : Int32)), .val (.int (0 : Int32)), .val (.int (2 : Int32))] [])) _
        refine XS.aload X246.here hx rfl (hb hby at_292) rfl rfl ?_
        show Steps p.tables e below (T246.setTop (mkF m 294 #[.val (.int p0), .val (.int p1), .val (.int p2), .val (.int p3), .val (.int (2 : Int32)), .val (.int (own_e0 p1)), .val (.int (own_e1 p1 p2)), .val (.int (own_e2 p1 p2 p3)), .val (.ref b158), .val (.ref b183), .val (.ref r247), .val (.int (1 : Int32)), .val (.int (0 : Int32)), .val (.int (0 : Int32)), .val (.int (2 : Int32))] [(.ref r247)])) _
        refine XS.iconst X246.here hx rfl (hb hby at_294) ?_
        show Steps p.tables e below (T246.setTop (mkF m 295 #[.val (.int p0), .val (.int p1), .val (.int p2), .val (.int p3), .val (.int (2 : Int32)), .val (.int (own_e0 p1)), .val (.int (own_e1 p1 p2)), .val (.int (own_e2 p1 p2 p3)), .val (.ref b158), .val (.ref b183), .val (.ref r247), .val (.int (1 : Int32)), .val (.int (0 : Int32)), .val (.int (0 : Int32)), .val (.int (2 : Int32))] [(.int (0 : Int32)), (.ref r247)])) _
        refine X246.iaload hx (j := (0 : Int32)) (v := (.int ((own_e0 p1) - (1 : Int32)))) Ar260.1 (State.isArrayOf_alike hZ.alike Ar260.2.1) Ar260.2.2 hin260 hat260 (g := (mkF m 295 #[.val (.int p0), .val (.int p1), .val (.int p2), .val (.int p3), .val (.int (2 : Int32)), .val (.int (own_e0 p1)), .val (.int (own_e1 p1 p2)), .val (.int (own_e2 p1 p2 p3)), .val (.ref b158), .val (.ref b183), .val (.ref r247), .val (.int (1 : Int32)), .val (.int (0 : Int32)), .val (.int (0 : Int32)), .val (.int (2 : Int32))] [(.int (0 : Int32)), (.ref r247)])) rfl rfl (hb hby at_295) _ ?_
        show Steps p.tables e below (T246.setTop (mkF m 296 #[.val (.int p0), .val (.int p1), .val (.int p2), .val (.int p3), .val (.int (2 : Int32)), .val (.int (own_e0 p1)), .val (.int (own_e1 p1 p2)), .val (.int (own_e2 p1 p2 p3)), .val (.ref b158), .val (.ref b183), .val (.ref r247), .val (.int (1 : Int32)), .val (.int (0 : Int32)), .val (.int (0 : Int32)), .val (.int (2 : Int32))] [(.int ((own_e0 p1) - (1 : Int32)))])) _
        refine XS.aload X246.here hx rfl (hb hby at_296) rfl rfl ?_
        show Steps p.tables e below (T246.setTop (mkF m 298 #[.val (.int p0), .val (.int p1), .val (.int p2), .val (.int p3), .val (.int (2 : Int32)), .val (.int (own_e0 p1)), .val (.int (own_e1 p1 p2)), .val (.int (own_e2 p1 p2 p3)), .val (.ref b158), .val (.ref b183), .val (.ref r247), .val (.int (1 : Int32)), .val (.int (0 : Int32)), .val (.int (0 : Int32)), .val (.int (2 : Int32))] [(.ref b183), (.int ((own_e0 p1) - (1 : Int32)))])) _
        refine XS.iload X246.here hx rfl (hb hby at_298) rfl ?_
        show Steps p.tables e below (T246.setTop (mkF m 300 #[.val (.int p0), .val (.int p1), .val (.int p2), .val (.int p3), .val (.int (2 : Int32)), .val (.int (own_e0 p1)), .val (.int (own_e1 p1 p2)), .val (.int (own_e2 p1 p2 p3)), .val (.ref b158), .val (.ref b183), .val (.ref r247), .val (.int (1 : Int32)), .val (.int (0 : Int32)), .val (.int (0 : Int32)), .val (.int (2 : Int32))] [(.int (0 : Int32)), (.ref b183), (.int ((own_e0 p1) - (1 : Int32)))])) _
        refine X246.iaload hx (j := (0 : Int32)) (v := (.int (own_e0 p1))) Ar261.1 (State.isArrayOf_alike hZ.alike Ar261.2.1) Ar261.2.2 hin261 hat261 (g := (mkF m 300 #[.val (.int p0), .val (.int p1), .val (.int p2), .val (.int p3), .val (.int (2 : Int32)), .val (.int (own_e0 p1)), .val (.int (own_e1 p1 p2)), .val (.int (own_e2 p1 p2 p3)), .val (.ref b158), .val (.ref b183), .val (.ref r247), .val (.int (1 : Int32)), .val (.int (0 : Int32)), .val (.int (0 : Int32)), .val (.int (2 : Int32))] [(.int (0 : Int32)), (.ref b183), (.int ((own_e0 p1) - (1 : Int32)))])) rfl rfl (hb hby at_300) _ ?_
        show Steps p.tables e below (T246.setTop (mkF m 301 #[.val (.int p0), .val (.int p1), .val (.int p2), .val (.int p3), .val (.int (2 : Int32)), .val (.int (own_e0 p1)), .val (.int (own_e1 p1 p2)), .val (.int (own_e2 p1 p2 p3)), .val (.ref b158), .val (.ref b183), .val (.ref r247), .val (.int (1 : Int32)), .val (.int (0 : Int32)), .val (.int (0 : Int32)), .val (.int (2 : Int32))] [(.int (own_e0 p1)), (.int ((own_e0 p1) - (1 : Int32)))])) _
        refine XS.iconst X246.here hx rfl (hb hby at_301) ?_
        show Steps p.tables e below (T246.setTop (mkF m 302 #[.val (.int p0), .val (.int p1), .val (.int p2), .val (.int p3), .val (.int (2 : Int32)), .val (.int (own_e0 p1)), .val (.int (own_e1 p1 p2)), .val (.int (own_e2 p1 p2 p3)), .val (.ref b158), .val (.ref b183), .val (.ref r247), .val (.int (1 : Int32)), .val (.int (0 : Int32)), .val (.int (0 : Int32)), .val (.int (2 : Int32))] [(.int (1 : Int32)), (.int (own_e0 p1)), (.int ((own_e0 p1) - (1 : Int32)))])) _
        refine XS.isub X246.here hx rfl (hb hby at_302) rfl ?_
        show Steps p.tables e below (T246.setTop (mkF m 303 #[.val (.int p0), .val (.int p1), .val (.int p2), .val (.int p3), .val (.int (2 : Int32)), .val (.int (own_e0 p1)), .val (.int (own_e1 p1 p2)), .val (.int (own_e2 p1 p2 p3)), .val (.ref b158), .val (.ref b183), .val (.ref r247), .val (.int (1 : Int32)), .val (.int (0 : Int32)), .val (.int (0 : Int32)), .val (.int (2 : Int32))] [(.int ((own_e0 p1) - (1 : Int32))), (.int ((own_e0 p1) - (1 : Int32)))])) _
        refine XS.icmpNo X246.here hx rfl (hb hby at_303) rfl (teq (rfl : ((own_e0 p1) - (1 : Int32)) = ((own_e0 p1) - (1 : Int32)))).2 ?_
        show Steps p.tables e below (T246.setTop (mkF m 306 #[.val (.int p0), .val (.int p1), .val (.int p2), .val (.int p3), .val (.int (2 : Int32)), .val (.int (own_e0 p1)), .val (.int (own_e1 p1 p2)), .val (.int (own_e2 p1 p2 p3)), .val (.ref b158), .val (.ref b183), .val (.ref r247), .val (.int (1 : Int32)), .val (.int (0 : Int32)), .val (.int (0 : Int32)), .val (.int (2 : Int32))] [])) _
        refine XS.iconst X246.here hx rfl (hb hby at_306) ?_
        show Steps p.tables e below (T246.setTop (mkF m 307 #[.val (.int p0), .val (.int p1), .val (.int p2), .val (.int p3), .val (.int (2 : Int32)), .val (.int (own_e0 p1)), .val (.int (own_e1 p1 p2)), .val (.int (own_e2 p1 p2 p3)), .val (.ref b158), .val (.ref b183), .val (.ref r247), .val (.int (1 : Int32)), .val (.int (0 : Int32)), .val (.int (0 : Int32)), .val (.int (2 : Int32))] [(.int (1 : Int32))])) _
        refine XS.goto X246.here hx rfl (pc0 := 307) (pc' := 311) rfl (hb hby at_307) (by decide) (by decide) ?_
        show Steps p.tables e below (T246.setTop (mkF m 311 #[.val (.int p0), .val (.int p1), .val (.int p2), .val (.int p3), .val (.int (2 : Int32)), .val (.int (own_e0 p1)), .val (.int (own_e1 p1 p2)), .val (.int (own_e2 p1 p2 p3)), .val (.ref b158), .val (.ref b183), .val (.ref r247), .val (.int (1 : Int32)), .val (.int (0 : Int32)), .val (.int (0 : Int32)), .val (.int (2 : Int32))] [(.int (1 : Int32))])) _
        refine XS.istore X246.here hx rfl (hb hby at_311) rfl (l' := #[.val (.int p0), .val (.int p1), .val (.int p2), .val (.int p3), .val (.int (2 : Int32)), .val (.int (own_e0 p1)), .val (.int (own_e1 p1 p2)), .val (.int (own_e2 p1 p2 p3)), .val (.ref b158), .val (.ref b183), .val (.ref r247), .val (.int (1 : Int32)), .val (.int (0 : Int32)), .val (.int (0 : Int32)), .val (.int (2 : Int32))]) rfl ?_
        show Steps p.tables e below (T246.setTop (mkF m 313 #[.val (.int p0), .val (.int p1), .val (.int p2), .val (.int p3), .val (.int (2 : Int32)), .val (.int (own_e0 p1)), .val (.int (own_e1 p1 p2)), .val (.int (own_e2 p1 p2 p3)), .val (.ref b158), .val (.ref b183), .val (.ref r247), .val (.int (1 : Int32)), .val (.int (0 : Int32)), .val (.int (0 : Int32)), .val (.int (2 : Int32))] [])) _
        refine XS.iload X246.here hx rfl (hb hby at_313) rfl ?_
        show Steps p.tables e below (T246.setTop (mkF m 315 #[.val (.int p0), .val (.int p1), .val (.int p2), .val (.int p3), .val (.int (2 : Int32)), .val (.int (own_e0 p1)), .val (.int (own_e1 p1 p2)), .val (.int (own_e2 p1 p2 p3)), .val (.ref b158), .val (.ref b183), .val (.ref r247), .val (.int (1 : Int32)), .val (.int (0 : Int32)), .val (.int (0 : Int32)), .val (.int (2 : Int32))] [(.int (2 : Int32))])) _
        refine XS.iconst X246.here hx rfl (hb hby at_315) ?_
        show Steps p.tables e below (T246.setTop (mkF m 316 #[.val (.int p0), .val (.int p1), .val (.int p2), .val (.int p3), .val (.int (2 : Int32)), .val (.int (own_e0 p1)), .val (.int (own_e1 p1 p2)), .val (.int (own_e2 p1 p2 p3)), .val (.ref b158), .val (.ref b183), .val (.ref r247), .val (.int (1 : Int32)), .val (.int (0 : Int32)), .val (.int (0 : Int32)), .val (.int (2 : Int32))] [(.int (1 : Int32)), (.int (2 : Int32))])) _
        refine XS.icmpNo X246.here hx rfl (hb hby at_316) rfl (tlt (by decide : (1 : Int32) < (2 : Int32))).2.2.2 ?_
        show Steps p.tables e below (T246.setTop (mkF m 319 #[.val (.int p0), .val (.int p1), .val (.int p2), .val (.int p3), .val (.int (2 : Int32)), .val (.int (own_e0 p1)), .val (.int (own_e1 p1 p2)), .val (.int (own_e2 p1 p2 p3)), .val (.ref b158), .val (.ref b183), .val (.ref r247), .val (.int (1 : Int32)), .val (.int (0 : Int32)), .val (.int (0 : Int32)), .val (.int (2 : Int32))] [])) _
        refine XS.iload X246.here hx rfl (hb hby at_319) rfl ?_
        show Steps p.tables e below (T246.setTop (mkF m 321 #[.val (.int p0), .val (.int p1), .val (.int p2), .val (.int p3), .val (.int (2 : Int32)), .val (.int (own_e0 p1)), .val (.int (own_e1 p1 p2)), .val (.int (own_e2 p1 p2 p3)), .val (.ref b158), .val (.ref b183), .val (.ref r247), .val (.int (1 : Int32)), .val (.int (0 : Int32)), .val (.int (0 : Int32)), .val (.int (2 : Int32))] [(.int (1 : Int32))])) _
        refine XS.ifNo X246.here hx rfl (hb hby at_321) rfl ((if0 _ _).trans (feq (by decide : ¬ ((1 : Int32) = (0 : Int32)))).1) ?_
        show Steps p.tables e below (T246.setTop (mkF m 324 #[.val (.int p0), .val (.int p1), .val (.int p2), .val (.int p3), .val (.int (2 : Int32)), .val (.int (own_e0 p1)), .val (.int (own_e1 p1 p2)), .val (.int (own_e2 p1 p2 p3)), .val (.ref b158), .val (.ref b183), .val (.ref r247), .val (.int (1 : Int32)), .val (.int (0 : Int32)), .val (.int (0 : Int32)), .val (.int (2 : Int32))] [])) _
        refine XS.aload X246.here hx rfl (hb hby at_324) rfl rfl ?_
        show Steps p.tables e below (T246.setTop (mkF m 326 #[.val (.int p0), .val (.int p1), .val (.int p2), .val (.int p3), .val (.int (2 : Int32)), .val (.int (own_e0 p1)), .val (.int (own_e1 p1 p2)), .val (.int (own_e2 p1 p2 p3)), .val (.ref b158), .val (.ref b183), .val (.ref r247), .val (.int (1 : Int32)), .val (.int (0 : Int32)), .val (.int (0 : Int32)), .val (.int (2 : Int32))] [(.ref r247)])) _
        refine XS.iconst X246.here hx rfl (hb hby at_326) ?_
        show Steps p.tables e below (T246.setTop (mkF m 327 #[.val (.int p0), .val (.int p1), .val (.int p2), .val (.int p3), .val (.int (2 : Int32)), .val (.int (own_e0 p1)), .val (.int (own_e1 p1 p2)), .val (.int (own_e2 p1 p2 p3)), .val (.ref b158), .val (.ref b183), .val (.ref r247), .val (.int (1 : Int32)), .val (.int (0 : Int32)), .val (.int (0 : Int32)), .val (.int (2 : Int32))] [(.int (1 : Int32)), (.ref r247)])) _
        refine X246.iaload hx (j := (1 : Int32)) (v := (.int ((own_e1 p1 p2) - (1 : Int32)))) Ar262.1 (State.isArrayOf_alike hZ.alike Ar262.2.1) Ar262.2.2 hin262 hat262 (g := (mkF m 327 #[.val (.int p0), .val (.int p1), .val (.int p2), .val (.int p3), .val (.int (2 : Int32)), .val (.int (own_e0 p1)), .val (.int (own_e1 p1 p2)), .val (.int (own_e2 p1 p2 p3)), .val (.ref b158), .val (.ref b183), .val (.ref r247), .val (.int (1 : Int32)), .val (.int (0 : Int32)), .val (.int (0 : Int32)), .val (.int (2 : Int32))] [(.int (1 : Int32)), (.ref r247)])) rfl rfl (hb hby at_327) _ ?_
        show Steps p.tables e below (T246.setTop (mkF m 328 #[.val (.int p0), .val (.int p1), .val (.int p2), .val (.int p3), .val (.int (2 : Int32)), .val (.int (own_e0 p1)), .val (.int (own_e1 p1 p2)), .val (.int (own_e2 p1 p2 p3)), .val (.ref b158), .val (.ref b183), .val (.ref r247), .val (.int (1 : Int32)), .val (.int (0 : Int32)), .val (.int (0 : Int32)), .val (.int (2 : Int32))] [(.int ((own_e1 p1 p2) - (1 : Int32)))])) _
        refine XS.aload X246.here hx rfl (hb hby at_328) rfl rfl ?_
        show Steps p.tables e below (T246.setTop (mkF m 330 #[.val (.int p0), .val (.int p1), .val (.int p2), .val (.int p3), .val (.int (2 : Int32)), .val (.int (own_e0 p1)), .val (.int (own_e1 p1 p2)), .val (.int (own_e2 p1 p2 p3)), .val (.ref b158), .val (.ref b183), .val (.ref r247), .val (.int (1 : Int32)), .val (.int (0 : Int32)), .val (.int (0 : Int32)), .val (.int (2 : Int32))] [(.ref b183), (.int ((own_e1 p1 p2) - (1 : Int32)))])) _
        refine XS.iload X246.here hx rfl (hb hby at_330) rfl ?_
        show Steps p.tables e below (T246.setTop (mkF m 332 #[.val (.int p0), .val (.int p1), .val (.int p2), .val (.int p3), .val (.int (2 : Int32)), .val (.int (own_e0 p1)), .val (.int (own_e1 p1 p2)), .val (.int (own_e2 p1 p2 p3)), .val (.ref b158), .val (.ref b183), .val (.ref r247), .val (.int (1 : Int32)), .val (.int (0 : Int32)), .val (.int (0 : Int32)), .val (.int (2 : Int32))] [(.int (0 : Int32)), (.ref b183), (.int ((own_e1 p1 p2) - (1 : Int32)))])) _
        refine XS.iconst X246.here hx rfl (hb hby at_332) ?_
        show Steps p.tables e below (T246.setTop (mkF m 333 #[.val (.int p0), .val (.int p1), .val (.int p2), .val (.int p3), .val (.int (2 : Int32)), .val (.int (own_e0 p1)), .val (.int (own_e1 p1 p2)), .val (.int (own_e2 p1 p2 p3)), .val (.ref b158), .val (.ref b183), .val (.ref r247), .val (.int (1 : Int32)), .val (.int (0 : Int32)), .val (.int (0 : Int32)), .val (.int (2 : Int32))] [(.int (1 : Int32)), (.int (0 : Int32)), (.ref b183), (.int ((own_e1 p1 p2) - (1 : Int32)))])) _
        refine XS.iadd X246.here hx rfl (hb hby at_333) rfl ?_
        show Steps p.tables e below (T246.setTop (mkF m 334 #[.val (.int p0), .val (.int p1), .val (.int p2), .val (.int p3), .val (.int (2 : Int32)), .val (.int (own_e0 p1)), .val (.int (own_e1 p1 p2)), .val (.int (own_e2 p1 p2 p3)), .val (.ref b158), .val (.ref b183), .val (.ref r247), .val (.int (1 : Int32)), .val (.int (0 : Int32)), .val (.int (0 : Int32)), .val (.int (2 : Int32))] [(.int (1 : Int32)), (.ref b183), (.int ((own_e1 p1 p2) - (1 : Int32)))])) _
        refine X246.iaload hx (j := (1 : Int32)) (v := (.int (own_e1 p1 p2))) Ar263.1 (State.isArrayOf_alike hZ.alike Ar263.2.1) Ar263.2.2 hin263 hat263 (g := (mkF m 334 #[.val (.int p0), .val (.int p1), .val (.int p2), .val (.int p3), .val (.int (2 : Int32)), .val (.int (own_e0 p1)), .val (.int (own_e1 p1 p2)), .val (.int (own_e2 p1 p2 p3)), .val (.ref b158), .val (.ref b183), .val (.ref r247), .val (.int (1 : Int32)), .val (.int (0 : Int32)), .val (.int (0 : Int32)), .val (.int (2 : Int32))] [(.int (1 : Int32)), (.ref b183), (.int ((own_e1 p1 p2) - (1 : Int32)))])) rfl rfl (hb hby at_334) _ ?_
        show Steps p.tables e below (T246.setTop (mkF m 335 #[.val (.int p0), .val (.int p1), .val (.int p2), .val (.int p3), .val (.int (2 : Int32)), .val (.int (own_e0 p1)), .val (.int (own_e1 p1 p2)), .val (.int (own_e2 p1 p2 p3)), .val (.ref b158), .val (.ref b183), .val (.ref r247), .val (.int (1 : Int32)), .val (.int (0 : Int32)), .val (.int (0 : Int32)), .val (.int (2 : Int32))] [(.int (own_e1 p1 p2)), (.int ((own_e1 p1 p2) - (1 : Int32)))])) _
        refine XS.iconst X246.here hx rfl (hb hby at_335) ?_
        show Steps p.tables e below (T246.setTop (mkF m 336 #[.val (.int p0), .val (.int p1), .val (.int p2), .val (.int p3), .val (.int (2 : Int32)), .val (.int (own_e0 p1)), .val (.int (own_e1 p1 p2)), .val (.int (own_e2 p1 p2 p3)), .val (.ref b158), .val (.ref b183), .val (.ref r247), .val (.int (1 : Int32)), .val (.int (0 : Int32)), .val (.int (0 : Int32)), .val (.int (2 : Int32))] [(.int (1 : Int32)), (.int (own_e1 p1 p2)), (.int ((own_e1 p1 p2) - (1 : Int32)))])) _
        refine XS.isub X246.here hx rfl (hb hby at_336) rfl ?_
        show Steps p.tables e below (T246.setTop (mkF m 337 #[.val (.int p0), .val (.int p1), .val (.int p2), .val (.int p3), .val (.int (2 : Int32)), .val (.int (own_e0 p1)), .val (.int (own_e1 p1 p2)), .val (.int (own_e2 p1 p2 p3)), .val (.ref b158), .val (.ref b183), .val (.ref r247), .val (.int (1 : Int32)), .val (.int (0 : Int32)), .val (.int (0 : Int32)), .val (.int (2 : Int32))] [(.int ((own_e1 p1 p2) - (1 : Int32))), (.int ((own_e1 p1 p2) - (1 : Int32)))])) _
        refine XS.icmpNo X246.here hx rfl (hb hby at_337) rfl (teq (rfl : ((own_e1 p1 p2) - (1 : Int32)) = ((own_e1 p1 p2) - (1 : Int32)))).2 ?_
        show Steps p.tables e below (T246.setTop (mkF m 340 #[.val (.int p0), .val (.int p1), .val (.int p2), .val (.int p3), .val (.int (2 : Int32)), .val (.int (own_e0 p1)), .val (.int (own_e1 p1 p2)), .val (.int (own_e2 p1 p2 p3)), .val (.ref b158), .val (.ref b183), .val (.ref r247), .val (.int (1 : Int32)), .val (.int (0 : Int32)), .val (.int (0 : Int32)), .val (.int (2 : Int32))] [])) _
        refine XS.iconst X246.here hx rfl (hb hby at_340) ?_
        show Steps p.tables e below (T246.setTop (mkF m 341 #[.val (.int p0), .val (.int p1), .val (.int p2), .val (.int p3), .val (.int (2 : Int32)), .val (.int (own_e0 p1)), .val (.int (own_e1 p1 p2)), .val (.int (own_e2 p1 p2 p3)), .val (.ref b158), .val (.ref b183), .val (.ref r247), .val (.int (1 : Int32)), .val (.int (0 : Int32)), .val (.int (0 : Int32)), .val (.int (2 : Int32))] [(.int (1 : Int32))])) _
        refine XS.goto X246.here hx rfl (pc0 := 341) (pc' := 345) rfl (hb hby at_341) (by decide) (by decide) ?_
        show Steps p.tables e below (T246.setTop (mkF m 345 #[.val (.int p0), .val (.int p1), .val (.int p2), .val (.int p3), .val (.int (2 : Int32)), .val (.int (own_e0 p1)), .val (.int (own_e1 p1 p2)), .val (.int (own_e2 p1 p2 p3)), .val (.ref b158), .val (.ref b183), .val (.ref r247), .val (.int (1 : Int32)), .val (.int (0 : Int32)), .val (.int (0 : Int32)), .val (.int (2 : Int32))] [(.int (1 : Int32))])) _
        refine XS.istore X246.here hx rfl (hb hby at_345) rfl (l' := #[.val (.int p0), .val (.int p1), .val (.int p2), .val (.int p3), .val (.int (2 : Int32)), .val (.int (own_e0 p1)), .val (.int (own_e1 p1 p2)), .val (.int (own_e2 p1 p2 p3)), .val (.ref b158), .val (.ref b183), .val (.ref r247), .val (.int (1 : Int32)), .val (.int (0 : Int32)), .val (.int (0 : Int32)), .val (.int (2 : Int32))]) rfl ?_
        show Steps p.tables e below (T246.setTop (mkF m 347 #[.val (.int p0), .val (.int p1), .val (.int p2), .val (.int p3), .val (.int (2 : Int32)), .val (.int (own_e0 p1)), .val (.int (own_e1 p1 p2)), .val (.int (own_e2 p1 p2 p3)), .val (.ref b158), .val (.ref b183), .val (.ref r247), .val (.int (1 : Int32)), .val (.int (0 : Int32)), .val (.int (0 : Int32)), .val (.int (2 : Int32))] [])) _
        refine XS.iload X246.here hx rfl (hb hby at_347) rfl ?_
        show Steps p.tables e below (T246.setTop (mkF m 349 #[.val (.int p0), .val (.int p1), .val (.int p2), .val (.int p3), .val (.int (2 : Int32)), .val (.int (own_e0 p1)), .val (.int (own_e1 p1 p2)), .val (.int (own_e2 p1 p2 p3)), .val (.ref b158), .val (.ref b183), .val (.ref r247), .val (.int (1 : Int32)), .val (.int (0 : Int32)), .val (.int (0 : Int32)), .val (.int (2 : Int32))] [(.int (2 : Int32))])) _
        refine XS.iconst X246.here hx rfl (hb hby at_349) ?_
        show Steps p.tables e below (T246.setTop (mkF m 350 #[.val (.int p0), .val (.int p1), .val (.int p2), .val (.int p3), .val (.int (2 : Int32)), .val (.int (own_e0 p1)), .val (.int (own_e1 p1 p2)), .val (.int (own_e2 p1 p2 p3)), .val (.ref b158), .val (.ref b183), .val (.ref r247), .val (.int (1 : Int32)), .val (.int (0 : Int32)), .val (.int (0 : Int32)), .val (.int (2 : Int32))] [(.int (2 : Int32)), (.int (2 : Int32))])) _
        refine XS.icmpYes X246.here hx rfl (pc0 := 350) (pc' := 381) rfl (hb hby at_350) rfl (flt (by decide : ¬ ((2 : Int32) < (2 : Int32)))).2.2.2 (by decide) (by decide) ?_
        show Steps p.tables e below (T246.setTop (mkF m 381 #[.val (.int p0), .val (.int p1), .val (.int p2), .val (.int p3), .val (.int (2 : Int32)), .val (.int (own_e0 p1)), .val (.int (own_e1 p1 p2)), .val (.int (own_e2 p1 p2 p3)), .val (.ref b158), .val (.ref b183), .val (.ref r247), .val (.int (1 : Int32)), .val (.int (0 : Int32)), .val (.int (0 : Int32)), .val (.int (2 : Int32))] [])) _
        refine XS.iload X246.here hx rfl (hb hby at_381) rfl ?_
        exact kt
      obtain ⟨fs, hr, hrun, hended, hW, hsame⟩ := X246.leave (v := some (.int (1 : Int32))) (fun h => by rw [Bd.returns] at h; cases h)
      refine ⟨_, _, pre264 _ ?_, hrun, hended, _, _, rfl, ?_, ⟨_, rfl⟩, hW, hsame.mono (by decide) (by decide)⟩
      · show Steps p.tables e below (T246.setTop (mkF m 383 #[.val (.int p0), .val (.int p1), .val (.int p2), .val (.int p3), .val (.int (2 : Int32)), .val (.int (own_e0 p1)), .val (.int (own_e1 p1 p2)), .val (.int (own_e2 p1 p2 p3)), .val (.ref b158), .val (.ref b183), .val (.ref r247), .val (.int (1 : Int32)), .val (.int (0 : Int32)), .val (.int (0 : Int32)), .val (.int (2 : Int32))] [(.int (1 : Int32))])) _
        exact retN X246 hx (t := .boolean) Bd.returns (by simp) (hb hby at_383) hr
      · show own_Q_law Z p0 p1 p2 p3 aS h0 n0 (some (.int (1 : Int32))) T246.heap _
        skip
        exact ⟨rfl, nf255⟩
  · have pre265 : ∀ t, Steps p.tables e below (s₁.setTop (mkF m 33 #[.val (.int p0), .val (.int p1), .val (.int p2), .val (.int p3), .val (.int (3 : Int32)), .val (.int (own_e0 p1)), .val (.int (own_e1 p1 p2)), .val (.int (own_e2 p1 p2 p3)), .unset, .unset, .unset, .unset, .unset, .unset, .unset] [])) t → Steps p.tables e below (s₁.setTop (entryFrame m #[(.int p0), (.int p1), (.int p2), (.int p3)] maxLocals)) t := by
      intro t kt
      refine pre1 t ?_
      rw [hn3]
      exact kt
    obtain ⟨T266, h266, k266, X266, e266, E266, A266, I266, st266⟩ := newPE X0 hx hZ (hw _ (List.mem_of_getElem? (i := 2) rfl)) e0 (g := (mkF m 90 #[.val (.int p0), .val (.int p1), .val (.int p2), .val (.int p3), .val (.int (3 : Int32)), .val (.int (own_e0 p1)), .val (.int (own_e1 p1 p2)), .val (.int (own_e2 p1 p2 p3)), .unset, .unset, .unset, .unset, .unset, .unset, .unset] [(.int (3 : Int32))])) rfl (hb hby at_90) rfl (by decide) (cap := 3) (by decide) (by decide) (by decide) (by decide) (ad := "[I") rfl
    obtain ⟨b266, g266⟩ : ∃ z, z = h0.size := ⟨_, rfl⟩
    rw [← g266] at A266 I266 st266
    have sz_b266 : h0.size ≤ b266 := Nat.le_trans K0.1 (Nat.le_of_eq g266.symm)
    have gn_b266 : n0 ≤ b266 := Nat.le_trans Z0 sz_b266
    have ne_aS_b266 : aS ≠ b266 := Nat.ne_of_lt (Nat.lt_of_lt_of_le AS.lt (Nat.le_of_eq g266.symm))
    have f267 := S0.ext E266
    have f268 := AS.ext E266
    have k269 := K0.ext E266
    have f270 : own_A Z h266 b266 3 (own_v3 (0 : Int32) (0 : Int32) (0 : Int32)) := (own_A.new A266 rfl).congr (fun j hj => by rcases j with _ | _ | _ | j <;> first | rfl | (simp [own_upd]; done) | omega)
    obtain ⟨cl271, Ar271, S271, H271⟩ := id f270
    have hin271 : ¬ ((0 : Int32) < 0 ∨ cl271.slots.size ≤ ((0 : Int32)).toNatClampNeg) := own_inb S271 (by decide) (by decide)
    obtain ⟨T272, h272, X272, e272, W272, st272⟩ := stI X266 hx hZ e266 Ar271 (j := (0 : Int32)) hin271 (g := (mkF m 96 #[.val (.int p0), .val (.int p1), .val (.int p2), .val (.int p3), .val (.int (3 : Int32)), .val (.int (own_e0 p1)), .val (.int (own_e1 p1 p2)), .val (.int (own_e2 p1 p2 p3)), .unset, .unset, .unset, .unset, .unset, .unset, .unset] [(.int (own_e0 p1)), (.int (0 : Int32)), (.ref b266), (.ref b266)])) rfl rfl (hb hby at_96)
    have f273 := f267.wr W272
    have f274 := f268.other W272 ne_aS_b266
    have f275 := I266.wr W272
    have k277 := k269.wr W272 (Or.inr sz_b266)
    have nf278 := Fr.snoc X272 N0 gn_b266
    have f279 := f270.set W272
    have f280 : own_A Z h272 b266 3 (own_v3 (own_e0 p1) (0 : Int32) (0 : Int32)) := f279.congr (fun j hj => by rcases j with _ | _ | _ | j <;> first | rfl | (simp [own_upd]; done) | omega)
    obtain ⟨cl281, Ar281, S281, H281⟩ := id f280
    have hin281 : ¬ ((1 : Int32) < 0 ∨ cl281.slots.size ≤ ((1 : Int32)).toNatClampNeg) := own_inb S281 (by decide) (by decide)
    obtain ⟨T282, h282, X282, e282, W282, st282⟩ := stI X272 hx hZ e272 Ar281 (j := (1 : Int32)) hin281 (g := (mkF m 101 #[.val (.int p0), .val (.int p1), .val (.int p2), .val (.int p3), .val (.int (3 : Int32)), .val (.int (own_e0 p1)), .val (.int (own_e1 p1 p2)), .val (.int (own_e2 p1 p2 p3)), .unset, .unset, .unset, .unset, .unset, .unset, .unset] [(.int (own_e1 p1 p2)), (.int (1 : Int32)), (.ref b266), (.ref b266)])) rfl rfl (hb hby at_101)
    have f283 := f273.wr W282
    have f284 := f274.other W282 ne_aS_b266
    have f285 := f275.wr W282
    have k287 := k277.wr W282 (Or.inr sz_b266)
    have nf288 := Fr.snoc X282 nf278 gn_b266
    have f289 := f280.set W282
    have f290 : own_A Z h282 b266 3 (own_v3 (own_e0 p1) (own_e1 p1 p2) (0 : Int32)) := f289.congr (fun j hj => by rcases j with _ | _ | _ | j <;> first | rfl | (simp [own_upd]; done) | omega)
    obtain ⟨cl291, Ar291, S291, H291⟩ := id f290
    have hin291 : ¬ ((2 : Int32) < 0 ∨ cl291.slots.size ≤ ((2 : Int32)).toNatClampNeg) := own_inb S291 (by decide) (by decide)
    obtain ⟨T292, h292, X292, e292, W292, st292⟩ := stI X282 hx hZ e282 Ar291 (j := (2 : Int32)) hin291 (g := (mkF m 106 #[.val (.int p0), .val (.int p1), .val (.int p2), .val (.int p3), .val (.int (3 : Int32)), .val (.int (own_e0 p1)), .val (.int (own_e1 p1 p2)), .val (.int (own_e2 p1 p2 p3)), .unset, .unset, .unset, .unset, .unset, .unset, .unset] [(.int (own_e2 p1 p2 p3)), (.int (2 : Int32)), (.ref b266), (.ref b266)])) rfl rfl (hb hby at_106)
    have f293 := f283.wr W292
    have f294 := f284.other W292 ne_aS_b266
    have f295 := f285.wr W292
    have k297 := k287.wr W292 (Or.inr sz_b266)
    have nf298 := Fr.snoc X292 nf288 gn_b266
    have f299 := f290.set W292
    have f300 : own_A Z h292 b266 3 (own_v3 (own_e0 p1) (own_e1 p1 p2) (own_e2 p1 p2 p3)) := f299.congr (fun j hj => by rcases j with _ | _ | _ | j <;> first | rfl | (simp [own_upd]; done) | omega)
    obtain ⟨T301, h301, k301, X301, e301, E301, A301, I301, st301⟩ := newPE X292 hx hZ (hw _ (List.mem_of_getElem? (i := 2) rfl)) e292 (g := (mkF m 110 #[.val (.int p0), .val (.int p1), .val (.int p2), .val (.int p3), .val (.int (3 : Int32)), .val (.int (own_e0 p1)), .val (.int (own_e1 p1 p2)), .val (.int (own_e2 p1 p2 p3)), .val (.ref b266), .unset, .unset, .unset, .unset, .unset, .unset] [(.int (3 : Int32))])) rfl (hb hby at_110) rfl (by decide) (cap := 3) (by decide) (by decide) (by decide) (by decide) (ad := "[I") rfl
    obtain ⟨b301, g301⟩ : ∃ z, z = h292.size := ⟨_, rfl⟩
    rw [← g301] at A301 I301 st301
    have sz_b301 : h0.size ≤ b301 := Nat.le_trans k297.1 (Nat.le_of_eq g301.symm)
    have gn_b301 : n0 ≤ b301 := Nat.le_trans Z0 sz_b301
    have ne_aS_b301 : aS ≠ b301 := Nat.ne_of_lt (Nat.lt_of_lt_of_le f294.lt (Nat.le_of_eq g301.symm))
    have ne_b266_b301 : b266 ≠ b301 := Nat.ne_of_lt (Nat.lt_of_lt_of_le f300.lt (Nat.le_of_eq g301.symm))
    have f302 := f293.ext E301
    have f303 := f294.ext E301
    have f304 := f295.ext E301
    have f305 := f300.ext E301
    have k306 := k297.ext E301
    have f307 : own_A Z h301 b301 3 (own_v3 (0 : Int32) (0 : Int32) (0 : Int32)) := (own_A.new A301 rfl).congr (fun j hj => by rcases j with _ | _ | _ | j <;> first | rfl | (simp [own_upd]; done) | omega)
    obtain ⟨cl308, Ar308, S308, H308⟩ := id f307
    have hin308 : ¬ ((0 : Int32) < 0 ∨ cl308.slots.size ≤ ((0 : Int32)).toNatClampNeg) := own_inb S308 (by decide) (by decide)
    obtain ⟨T309, h309, X309, e309, W309, st309⟩ := stI X301 hx hZ e301 Ar308 (j := (0 : Int32)) hin308 (g := (mkF m 116 #[.val (.int p0), .val (.int p1), .val (.int p2), .val (.int p3), .val (.int (3 : Int32)), .val (.int (own_e0 p1)), .val (.int (own_e1 p1 p2)), .val (.int (own_e2 p1 p2 p3)), .val (.ref b266), .unset, .unset, .unset, .unset, .unset, .unset] [(.int (own_e0 p1)), (.int (0 : Int32)), (.ref b301), (.ref b301)])) rfl rfl (hb hby at_116)
    have f310 := f302.wr W309
    have f311 := f303.other W309 ne_aS_b301
    have f312 := f304.wr W309
    have f313 := f305.other W309 ne_b266_b301
    have f314 := I301.wr W309
    have k316 := k306.wr W309 (Or.inr sz_b301)
    have nf317 := Fr.snoc X309 nf298 gn_b301
    have f318 := f307.set W309
    have f319 : own_A Z h309 b301 3 (own_v3 (own_e0 p1) (0 : Int32) (0 : Int32)) := f318.congr (fun j hj => by rcases j with _ | _ | _ | j <;> first | rfl | (simp [own_upd]; done) | omega)
    obtain ⟨cl320, Ar320, S320, H320⟩ := id f319
    have hin320 : ¬ ((1 : Int32) < 0 ∨ cl320.slots.size ≤ ((1 : Int32)).toNatClampNeg) := own_inb S320 (by decide) (by decide)
    obtain ⟨T321, h321, X321, e321, W321, st321⟩ := stI X309 hx hZ e309 Ar320 (j := (1 : Int32)) hin320 (g := (mkF m 121 #[.val (.int p0), .val (.int p1), .val (.int p2), .val (.int p3), .val (.int (3 : Int32)), .val (.int (own_e0 p1)), .val (.int (own_e1 p1 p2)), .val (.int (own_e2 p1 p2 p3)), .val (.ref b266), .unset, .unset, .unset, .unset, .unset, .unset] [(.int (own_e1 p1 p2)), (.int (1 : Int32)), (.ref b301), (.ref b301)])) rfl rfl (hb hby at_121)
    have f322 := f310.wr W321
    have f323 := f311.other W321 ne_aS_b301
    have f324 := f312.wr W321
    have f325 := f313.other W321 ne_b266_b301
    have f326 := f314.wr W321
    have k328 := k316.wr W321 (Or.inr sz_b301)
    have nf329 := Fr.snoc X321 nf317 gn_b301
    have f330 := f319.set W321
    have f331 : own_A Z h321 b301 3 (own_v3 (own_e0 p1) (own_e1 p1 p2) (0 : Int32)) := f330.congr (fun j hj => by rcases j with _ | _ | _ | j <;> first | rfl | (simp [own_upd]; done) | omega)
    obtain ⟨cl332, Ar332, S332, H332⟩ := id f331
    have hin332 : ¬ ((2 : Int32) < 0 ∨ cl332.slots.size ≤ ((2 : Int32)).toNatClampNeg) := own_inb S332 (by decide) (by decide)
    obtain ⟨T333, h333, X333, e333, W333, st333⟩ := stI X321 hx hZ e321 Ar332 (j := (2 : Int32)) hin332 (g := (mkF m 126 #[.val (.int p0), .val (.int p1), .val (.int p2), .val (.int p3), .val (.int (3 : Int32)), .val (.int (own_e0 p1)), .val (.int (own_e1 p1 p2)), .val (.int (own_e2 p1 p2 p3)), .val (.ref b266), .unset, .unset, .unset, .unset, .unset, .unset] [(.int (own_e2 p1 p2 p3)), (.int (2 : Int32)), (.ref b301), (.ref b301)])) rfl rfl (hb hby at_126)
    have f334 := f322.wr W333
    have f335 := f323.other W333 ne_aS_b301
    have f336 := f324.wr W333
    have f337 := f325.other W333 ne_b266_b301
    have f338 := f326.wr W333
    have k340 := k328.wr W333 (Or.inr sz_b301)
    have nf341 := Fr.snoc X333 nf329 gn_b301
    have f342 := f331.set W333
    have f343 : own_A Z h333 b301 3 (own_v3 (own_e0 p1) (own_e1 p1 p2) (own_e2 p1 p2 p3)) := f342.congr (fun j hj => by rcases j with _ | _ | _ | j <;> first | rfl | (simp [own_upd]; done) | omega)
    have pre344 : ∀ t, Steps p.tables e below (T333.setTop (mkF m 129 #[.val (.int p0), .val (.int p1), .val (.int p2), .val (.int p3), .val (.int (3 : Int32)), .val (.int (own_e0 p1)), .val (.int (own_e1 p1 p2)), .val (.int (own_e2 p1 p2 p3)), .val (.ref b266), .val (.ref b301), .unset, .unset, .unset, .unset, .unset] [])) t → Steps p.tables e below (s₁.setTop (entryFrame m #[(.int p0), (.int p1), (.int p2), (.int p3)] maxLocals)) t := by
      intro t kt
      refine pre265 t ?_
      show Steps p.tables e below (s₁.setTop (mkF m 33 #[.val (.int p0), .val (.int p1), .val (.int p2), .val (.int p3), .val (.int (3 : Int32)), .val (.int (own_e0 p1)), .val (.int (own_e1 p1 p2)), .val (.int (own_e2 p1 p2 p3)), .unset, .unset, .unset, .unset, .unset, .unset, .unset] [])) _
      refine XS.iload X0.here hx rfl (hb hby at_33) rfl ?_
      show Steps p.tables e below (s₁.setTop (mkF m 35 #[.val (.int p0), .val (.int p1), .val (.int p2), .val (.int p3), .val (.int (3 : Int32)), .val (.int (own_e0 p1)), .val (.int (own_e1 p1 p2)), .val (.int (own_e2 p1 p2 p3)), .unset, .unset, .unset, .unset, .unset, .unset, .unset] [(.int (3 : Int32))])) _
      refine XS.ifYes X0.here hx rfl (pc0 := 35) (pc' := 46) rfl (hb hby at_35) rfl ((if0 _ _).trans (feq (by decide : ¬ ((3 : Int32) = (0 : Int32)))).2) (by decide) (by decide) ?_
      show Steps p.tables e below (s₁.setTop (mkF m 46 #[.val (.int p0), .val (.int p1), .val (.int p2), .val (.int p3), .val (.int (3 : Int32)), .val (.int (own_e0 p1)), .val (.int (own_e1 p1 p2)), .val (.int (own_e2 p1 p2 p3)), .unset, .unset, .unset, .unset, .unset, .unset, .unset] [])) _
      refine XS.iload X0.here hx rfl (hb hby at_46) rfl ?_
      show Steps p.tables e below (s₁.setTop (mkF m 48 #[.val (.int p0), .val (.int p1), .val (.int p2), .val (.int p3), .val (.int (3 : Int32)), .val (.int (own_e0 p1)), .val (.int (own_e1 p1 p2)), .val (.int (own_e2 p1 p2 p3)), .unset, .unset, .unset, .unset, .unset, .unset, .unset] [(.int (3 : Int32))])) _
      refine XS.iconst X0.here hx rfl (hb hby at_48) ?_
      show Steps p.tables e below (s₁.setTop (mkF m 49 #[.val (.int p0), .val (.int p1), .val (.int p2), .val (.int p3), .val (.int (3 : Int32)), .val (.int (own_e0 p1)), .val (.int (own_e1 p1 p2)), .val (.int (own_e2 p1 p2 p3)), .unset, .unset, .unset, .unset, .unset, .unset, .unset] [(.int (1 : Int32)), (.int (3 : Int32))])) _
      refine XS.icmpYes X0.here hx rfl (pc0 := 49) (pc' := 65) rfl (hb hby at_49) rfl (feq (by decide : ¬ ((3 : Int32) = (1 : Int32)))).2 (by decide) (by decide) ?_
      show Steps p.tables e below (s₁.setTop (mkF m 65 #[.val (.int p0), .val (.int p1), .val (.int p2), .val (.int p3), .val (.int (3 : Int32)), .val (.int (own_e0 p1)), .val (.int (own_e1 p1 p2)), .val (.int (own_e2 p1 p2 p3)), .unset, .unset, .unset, .unset, .unset, .unset, .unset] [])) _
      refine XS.iload X0.here hx rfl (hb hby at_65) rfl ?_
      show Steps p.tables e below (s₁.setTop (mkF m 67 #[.val (.int p0), .val (.int p1), .val (.int p2), .val (.int p3), .val (.int (3 : Int32)), .val (.int (own_e0 p1)), .val (.int (own_e1 p1 p2)), .val (.int (own_e2 p1 p2 p3)), .unset, .unset, .unset, .unset, .unset, .unset, .unset] [(.int (3 : Int32))])) _
      refine XS.iconst X0.here hx rfl (hb hby at_67) ?_
      show Steps p.tables e below (s₁.setTop (mkF m 68 #[.val (.int p0), .val (.int p1), .val (.int p2), .val (.int p3), .val (.int (3 : Int32)), .val (.int (own_e0 p1)), .val (.int (own_e1 p1 p2)), .val (.int (own_e2 p1 p2 p3)), .unset, .unset, .unset, .unset, .unset, .unset, .unset] [(.int (2 : Int32)), (.int (3 : Int32))])) _
      refine XS.icmpYes X0.here hx rfl (pc0 := 68) (pc' := 89) rfl (hb hby at_68) rfl (feq (by decide : ¬ ((3 : Int32) = (2 : Int32)))).2 (by decide) (by decide) ?_
      show Steps p.tables e below (s₁.setTop (mkF m 89 #[.val (.int p0), .val (.int p1), .val (.int p2), .val (.int p3), .val (.int (3 : Int32)), .val (.int (own_e0 p1)), .val (.int (own_e1 p1 p2)), .val (.int (own_e2 p1 p2 p3)), .unset, .unset, .unset, .unset, .unset, .unset, .unset] [])) _
      refine XS.iconst X0.here hx rfl (hb hby at_89) ?_
      show Steps p.tables e below (s₁.setTop (mkF m 90 #[.val (.int p0), .val (.int p1), .val (.int p2), .val (.int p3), .val (.int (3 : Int32)), .val (.int (own_e0 p1)), .val (.int (own_e1 p1 p2)), .val (.int (own_e2 p1 p2 p3)), .unset, .unset, .unset, .unset, .unset, .unset, .unset] [(.int (3 : Int32))])) _
      refine st266 _ ?_
      show Steps p.tables e below (T266.setTop (mkF m 92 #[.val (.int p0), .val (.int p1), .val (.int p2), .val (.int p3), .val (.int (3 : Int32)), .val (.int (own_e0 p1)), .val (.int (own_e1 p1 p2)), .val (.int (own_e2 p1 p2 p3)), .unset, .unset, .unset, .unset, .unset, .unset, .unset] [(.ref b266)])) _
      refine XS.dup X266.here hx rfl (hb hby at_92) rfl rfl ?_
      show Steps p.tables e below (T266.setTop (mkF m 93 #[.val (.int p0), .val (.int p1), .val (.int p2), .val (.int p3), .val (.int (3 : Int32)), .val (.int (own_e0 p1)), .val (.int (own_e1 p1 p2)), .val (.int (own_e2 p1 p2 p3)), .unset, .unset, .unset, .unset, .unset, .unset, .unset] [(.ref b266), (.ref b266)])) _
      refine XS.iconst X266.here hx rfl (hb hby at_93) ?_
      show Steps p.tables e below (T266.setTop (mkF m 94 #[.val (.int p0), .val (.int p1), .val (.int p2), .val (.int p3), .val (.int (3 : Int32)), .val (.int (own_e0 p1)), .val (.int (own_e1 p1 p2)), .val (.int (own_e2 p1 p2 p3)), .unset, .unset, .unset, .unset, .unset, .unset, .unset] [(.int (0 : Int32)), (.ref b266), (.ref b266)])) _
      refine XS.iload X266.here hx rfl (hb hby at_94) rfl ?_
      show Steps p.tables e below (T266.setTop (mkF m 96 #[.val (.int p0), .val (.int p1), .val (.int p2), .val (.int p3), .val (.int (3 : Int32)), .val (.int (own_e0 p1)), .val (.int (own_e1 p1 p2)), .val (.int (own_e2 p1 p2 p3)), .unset, .unset, .unset, .unset, .unset, .unset, .unset] [(.int (own_e0 p1)), (.int (0 : Int32)), (.ref b266), (.ref b266)])) _
      refine st272 _ ?_
      show Steps p.tables e below (T272.setTop (mkF m 97 #[.val (.int p0), .val (.int p1), .val (.int p2), .val (.int p3), .val (.int (3 : Int32)), .val (.int (own_e0 p1)), .val (.int (own_e1 p1 p2)), .val (.int (own_e2 p1 p2 p3)), .unset, .unset, .unset, .unset, .unset, .unset, .unset] [(.ref b266)])) _
      refine XS.dup X272.here hx rfl (hb hby at_97) rfl rfl ?_
      show Steps p.tables e below (T272.setTop (mkF m 98 #[.val (.int p0), .val (.int p1), .val (.int p2), .val (.int p3), .val (.int (3 : Int32)), .val (.int (own_e0 p1)), .val (.int (own_e1 p1 p2)), .val (.int (own_e2 p1 p2 p3)), .unset, .unset, .unset, .unset, .unset, .unset, .unset] [(.ref b266), (.ref b266)])) _
      refine XS.iconst X272.here hx rfl (hb hby at_98) ?_
      show Steps p.tables e below (T272.setTop (mkF m 99 #[.val (.int p0), .val (.int p1), .val (.int p2), .val (.int p3), .val (.int (3 : Int32)), .val (.int (own_e0 p1)), .val (.int (own_e1 p1 p2)), .val (.int (own_e2 p1 p2 p3)), .unset, .unset, .unset, .unset, .unset, .unset, .unset] [(.int (1 : Int32)), (.ref b266), (.ref b266)])) _
      refine XS.iload X272.here hx rfl (hb hby at_99) rfl ?_
      show Steps p.tables e below (T272.setTop (mkF m 101 #[.val (.int p0), .val (.int p1), .val (.int p2), .val (.int p3), .val (.int (3 : Int32)), .val (.int (own_e0 p1)), .val (.int (own_e1 p1 p2)), .val (.int (own_e2 p1 p2 p3)), .unset, .unset, .unset, .unset, .unset, .unset, .unset] [(.int (own_e1 p1 p2)), (.int (1 : Int32)), (.ref b266), (.ref b266)])) _
      refine st282 _ ?_
      show Steps p.tables e below (T282.setTop (mkF m 102 #[.val (.int p0), .val (.int p1), .val (.int p2), .val (.int p3), .val (.int (3 : Int32)), .val (.int (own_e0 p1)), .val (.int (own_e1 p1 p2)), .val (.int (own_e2 p1 p2 p3)), .unset, .unset, .unset, .unset, .unset, .unset, .unset] [(.ref b266)])) _
      refine XS.dup X282.here hx rfl (hb hby at_102) rfl rfl ?_
      show Steps p.tables e below (T282.setTop (mkF m 103 #[.val (.int p0), .val (.int p1), .val (.int p2), .val (.int p3), .val (.int (3 : Int32)), .val (.int (own_e0 p1)), .val (.int (own_e1 p1 p2)), .val (.int (own_e2 p1 p2 p3)), .unset, .unset, .unset, .unset, .unset, .unset, .unset] [(.ref b266), (.ref b266)])) _
      refine XS.iconst X282.here hx rfl (hb hby at_103) ?_
      show Steps p.tables e below (T282.setTop (mkF m 104 #[.val (.int p0), .val (.int p1), .val (.int p2), .val (.int p3), .val (.int (3 : Int32)), .val (.int (own_e0 p1)), .val (.int (own_e1 p1 p2)), .val (.int (own_e2 p1 p2 p3)), .unset, .unset, .unset, .unset, .unset, .unset, .unset] [(.int (2 : Int32)), (.ref b266), (.ref b266)])) _
      refine XS.iload X282.here hx rfl (hb hby at_104) rfl ?_
      show Steps p.tables e below (T282.setTop (mkF m 106 #[.val (.int p0), .val (.int p1), .val (.int p2), .val (.int p3), .val (.int (3 : Int32)), .val (.int (own_e0 p1)), .val (.int (own_e1 p1 p2)), .val (.int (own_e2 p1 p2 p3)), .unset, .unset, .unset, .unset, .unset, .unset, .unset] [(.int (own_e2 p1 p2 p3)), (.int (2 : Int32)), (.ref b266), (.ref b266)])) _
      refine st292 _ ?_
      show Steps p.tables e below (T292.setTop (mkF m 107 #[.val (.int p0), .val (.int p1), .val (.int p2), .val (.int p3), .val (.int (3 : Int32)), .val (.int (own_e0 p1)), .val (.int (own_e1 p1 p2)), .val (.int (own_e2 p1 p2 p3)), .unset, .unset, .unset, .unset, .unset, .unset, .unset] [(.ref b266)])) _
      refine XS.astore X292.here hx rfl (hb hby at_107) rfl rfl (l' := #[.val (.int p0), .val (.int p1), .val (.int p2), .val (.int p3), .val (.int (3 : Int32)), .val (.int (own_e0 p1)), .val (.int (own_e1 p1 p2)), .val (.int (own_e2 p1 p2 p3)), .val (.ref b266), .unset, .unset, .unset, .unset, .unset, .unset]) rfl ?_
      show Steps p.tables e below (T292.setTop (mkF m 109 #[.val (.int p0), .val (.int p1), .val (.int p2), .val (.int p3), .val (.int (3 : Int32)), .val (.int (own_e0 p1)), .val (.int (own_e1 p1 p2)), .val (.int (own_e2 p1 p2 p3)), .val (.ref b266), .unset, .unset, .unset, .unset, .unset, .unset] [])) _
      refine XS.iconst X292.here hx rfl (hb hby at_109) ?_
      show Steps p.tables e below (T292.setTop (mkF m 110 #[.val (.int p0), .val (.int p1), .val (.int p2), .val (.int p3), .val (.int (3 : Int32)), .val (.int (own_e0 p1)), .val (.int (own_e1 p1 p2)), .val (.int (own_e2 p1 p2 p3)), .val (.ref b266), .unset, .unset, .unset, .unset, .unset, .unset] [(.int (3 : Int32))])) _
      refine st301 _ ?_
      show Steps p.tables e below (T301.setTop (mkF m 112 #[.val (.int p0), .val (.int p1), .val (.int p2), .val (.int p3), .val (.int (3 : Int32)), .val (.int (own_e0 p1)), .val (.int (own_e1 p1 p2)), .val (.int (own_e2 p1 p2 p3)), .val (.ref b266), .unset, .unset, .unset, .unset, .unset, .unset] [(.ref b301)])) _
      refine XS.dup X301.here hx rfl (hb hby at_112) rfl rfl ?_
      show Steps p.tables e below (T301.setTop (mkF m 113 #[.val (.int p0), .val (.int p1), .val (.int p2), .val (.int p3), .val (.int (3 : Int32)), .val (.int (own_e0 p1)), .val (.int (own_e1 p1 p2)), .val (.int (own_e2 p1 p2 p3)), .val (.ref b266), .unset, .unset, .unset, .unset, .unset, .unset] [(.ref b301), (.ref b301)])) _
      refine XS.iconst X301.here hx rfl (hb hby at_113) ?_
      show Steps p.tables e below (T301.setTop (mkF m 114 #[.val (.int p0), .val (.int p1), .val (.int p2), .val (.int p3), .val (.int (3 : Int32)), .val (.int (own_e0 p1)), .val (.int (own_e1 p1 p2)), .val (.int (own_e2 p1 p2 p3)), .val (.ref b266), .unset, .unset, .unset, .unset, .unset, .unset] [(.int (0 : Int32)), (.ref b301), (.ref b301)])) _
      refine XS.iload X301.here hx rfl (hb hby at_114) rfl ?_
      show Steps p.tables e below (T301.setTop (mkF m 116 #[.val (.int p0), .val (.int p1), .val (.int p2), .val (.int p3), .val (.int (3 : Int32)), .val (.int (own_e0 p1)), .val (.int (own_e1 p1 p2)), .val (.int (own_e2 p1 p2 p3)), .val (.ref b266), .unset, .unset, .unset, .unset, .unset, .unset] [(.int (own_e0 p1)), (.int (0 : Int32)), (.ref b301), (.ref b301)])) _
      refine st309 _ ?_
      show Steps p.tables e below (T309.setTop (mkF m 117 #[.val (.int p0), .val (.int p1), .val (.int p2), .val (.int p3), .val (.int (3 : Int32)), .val (.int (own_e0 p1)), .val (.int (own_e1 p1 p2)), .val (.int (own_e2 p1 p2 p3)), .val (.ref b266), .unset, .unset, .unset, .unset, .unset, .unset] [(.ref b301)])) _
      refine XS.dup X309.here hx rfl (hb hby at_117) rfl rfl ?_
      show Steps p.tables e below (T309.setTop (mkF m 118 #[.val (.int p0), .val (.int p1), .val (.int p2), .val (.int p3), .val (.int (3 : Int32)), .val (.int (own_e0 p1)), .val (.int (own_e1 p1 p2)), .val (.int (own_e2 p1 p2 p3)), .val (.ref b266), .unset, .unset, .unset, .unset, .unset, .unset] [(.ref b301), (.ref b301)])) _
      refine XS.iconst X309.here hx rfl (hb hby at_118) ?_
      show Steps p.tables e below (T309.setTop (mkF m 119 #[.val (.int p0), .val (.int p1), .val (.int p2), .val (.int p3), .val (.int (3 : Int32)), .val (.int (own_e0 p1)), .val (.int (own_e1 p1 p2)), .val (.int (own_e2 p1 p2 p3)), .val (.ref b266), .unset, .unset, .unset, .unset, .unset, .unset] [(.int (1 : Int32)), (.ref b301), (.ref b301)])) _
      refine XS.iload X309.here hx rfl (hb hby at_119) rfl ?_
      show Steps p.tables e below (T309.setTop (mkF m 121 #[.val (.int p0), .val (.int p1), .val (.int p2), .val (.int p3), .val (.int (3 : Int32)), .val (.int (own_e0 p1)), .val (.int (own_e1 p1 p2)), .val (.int (own_e2 p1 p2 p3)), .val (.ref b266), .unset, .unset, .unset, .unset, .unset, .unset] [(.int (own_e1 p1 p2)), (.int (1 : Int32)), (.ref b301), (.ref b301)])) _
      refine st321 _ ?_
      show Steps p.tables e below (T321.setTop (mkF m 122 #[.val (.int p0), .val (.int p1), .val (.int p2), .val (.int p3), .val (.int (3 : Int32)), .val (.int (own_e0 p1)), .val (.int (own_e1 p1 p2)), .val (.int (own_e2 p1 p2 p3)), .val (.ref b266), .unset, .unset, .unset, .unset, .unset, .unset] [(.ref b301)])) _
      refine XS.dup X321.here hx rfl (hb hby at_122) rfl rfl ?_
      show Steps p.tables e below (T321.setTop (mkF m 123 #[.val (.int p0), .val (.int p1), .val (.int p2), .val (.int p3), .val (.int (3 : Int32)), .val (.int (own_e0 p1)), .val (.int (own_e1 p1 p2)), .val (.int (own_e2 p1 p2 p3)), .val (.ref b266), .unset, .unset, .unset, .unset, .unset, .unset] [(.ref b301), (.ref b301)])) _
      refine XS.iconst X321.here hx rfl (hb hby at_123) ?_
      show Steps p.tables e below (T321.setTop (mkF m 124 #[.val (.int p0), .val (.int p1), .val (.int p2), .val (.int p3), .val (.int (3 : Int32)), .val (.int (own_e0 p1)), .val (.int (own_e1 p1 p2)), .val (.int (own_e2 p1 p2 p3)), .val (.ref b266), .unset, .unset, .unset, .unset, .unset, .unset] [(.int (2 : Int32)), (.ref b301), (.ref b301)])) _
      refine XS.iload X321.here hx rfl (hb hby at_124) rfl ?_
      show Steps p.tables e below (T321.setTop (mkF m 126 #[.val (.int p0), .val (.int p1), .val (.int p2), .val (.int p3), .val (.int (3 : Int32)), .val (.int (own_e0 p1)), .val (.int (own_e1 p1 p2)), .val (.int (own_e2 p1 p2 p3)), .val (.ref b266), .unset, .unset, .unset, .unset, .unset, .unset] [(.int (own_e2 p1 p2 p3)), (.int (2 : Int32)), (.ref b301), (.ref b301)])) _
      refine st333 _ ?_
      show Steps p.tables e below (T333.setTop (mkF m 127 #[.val (.int p0), .val (.int p1), .val (.int p2), .val (.int p3), .val (.int (3 : Int32)), .val (.int (own_e0 p1)), .val (.int (own_e1 p1 p2)), .val (.int (own_e2 p1 p2 p3)), .val (.ref b266), .unset, .unset, .unset, .unset, .unset, .unset] [(.ref b301)])) _
      refine XS.astore X333.here hx rfl (hb hby at_127) rfl rfl (l' := #[.val (.int p0), .val (.int p1), .val (.int p2), .val (.int p3), .val (.int (3 : Int32)), .val (.int (own_e0 p1)), .val (.int (own_e1 p1 p2)), .val (.int (own_e2 p1 p2 p3)), .val (.ref b266), .val (.ref b301), .unset, .unset, .unset, .unset, .unset]) rfl ?_
      exact kt
    by_cases hz0 : (own_e0 p1) = (0 : Int32)
    · skip
      have zs345 : n0 ≤ h333.size := Nat.le_trans Z0 k340.1
      obtain ⟨_, _, ⟨T346, L346, k346, n346⟩, -, X346, ⟨Lc346, hQ346, l346, y346, z346⟩, st346⟩ := Jvm.LawKit.callS X333 hx (y := (⟨"com/example/unfold/unfold/semantics/GateSets", "outsideHide", "([I)[I"⟩ : MethodName)) hown (mvT hZ (hw _ (List.mem_of_getElem? (i := 3) rfl))) (mvT hZ (hw _ (List.mem_of_getElem? (i := 4) rfl))) (mvT hZ (hw _ (List.mem_of_getElem? (i := 5) rfl))) (mvT hZ (hw _ (List.mem_of_getElem? (i := 6) rfl))) (by decide) (backOf (W := 0) (own_rm_oh3z l Z a0 hw [] b266 (own_e0 p1) (own_e1 p1 p2) (own_e2 p1 p2 p3) h333 n0 zs345 f337 hz0) hZ (hw _ (List.mem_of_getElem? (i := 6) rfl)) (hw _ (List.mem_of_getElem? (i := 5) rfl)) (by decide) (by decide)) (g := (mkF m 131 #[.val (.int p0), .val (.int p1), .val (.int p2), .val (.int p3), .val (.int (3 : Int32)), .val (.int (own_e0 p1)), .val (.int (own_e1 p1 p2)), .val (.int (own_e2 p1 p2 p3)), .val (.ref b266), .val (.ref b301), .unset, .unset, .unset, .unset, .unset] [(.ref b266)])) rfl (by rw [hml]; rfl) (argsL := [(.ref b266)]) (rest := []) (lenOf own_pd0 rfl) rfl (by show 2 * 0 + _ ≤ _; exact Nat.le_of_eq rfl) (hb hby at_131) (fun _ _ => ⟨rfl, e333, (by decide : 2 + 1 ≤ _), (by decide : 6 + 2 ≤ _)⟩)
      dsimp only [Pt.U, Pt.locs, Pt.cells, Pt.slots] at X346 l346 y346 z346 st346 hQ346
      subst l346 y346 z346
      obtain ⟨r347, rfl, N347, K347, c347_0, c347_1⟩ := hQ346
      have sz_r347 : h0.size ≤ r347 := Nat.le_trans k340.1 c347_0
      have gn_r347 : n0 ≤ r347 := Nat.le_trans Z0 sz_r347
      have ne_aS_r347 : aS ≠ r347 := Nat.ne_of_lt (Nat.lt_of_lt_of_le f335.lt c347_0)
      have ne_b266_r347 : b266 ≠ r347 := Nat.ne_of_lt (Nat.lt_of_lt_of_le f337.lt c347_0)
      have ne_b301_r347 : b301 ≠ r347 := Nat.ne_of_lt (Nat.lt_of_lt_of_le f343.lt c347_0)
      have f348 := own_sta_keep f334 K347 all0
      have f349 := f335.keep K347 nin0
      have f350 := f336.keep K347
      have f351 := f337.keep K347 nin0
      have f352 := f338.keep K347
      have f353 := f343.keep K347 nin0
      have k354 := k340.trans K347 all0
      have nf355 := Fr.app nf341 N347
      obtain ⟨cl356, Ar356, S356, -⟩ := id f351
      obtain ⟨cl357, Ar357, S357, H357⟩ := id f351
      have hin357 : ¬ ((0 : Int32) < 0 ∨ cl357.slots.size ≤ ((0 : Int32)).toNatClampNeg) := own_inb S357 (by decide) (by decide)
      have hat357 : cl357.slots[((0 : Int32)).toNatClampNeg]? = some (.int (own_e0 p1)) := H357 _ (by decide)
      obtain ⟨cl358, Ar358, S358, H358⟩ := id f351
      have hin358 : ¬ ((1 : Int32) < 0 ∨ cl358.slots.size ≤ ((1 : Int32)).toNatClampNeg) := own_inb S358 (by decide) (by decide)
      have hat358 : cl358.slots[((1 : Int32)).toNatClampNeg]? = some (.int (own_e1 p1 p2)) := H358 _ (by decide)
      obtain ⟨cl359, Ar359, S359, H359⟩ := id f351
      have hin359 : ¬ ((2 : Int32) < 0 ∨ cl359.slots.size ≤ ((2 : Int32)).toNatClampNeg) := own_inb S359 (by decide) (by decide)
      have hat359 : cl359.slots[((2 : Int32)).toNatClampNeg]? = some (.int (own_e2 p1 p2 p3)) := H359 _ (by decide)
      obtain ⟨cl360, Ar360, S360, -⟩ := id c347_1
      obtain ⟨cl361, Ar361, S361, H361⟩ := id c347_1
      have hin361 : ¬ ((0 : Int32) < 0 ∨ cl361.slots.size ≤ ((0 : Int32)).toNatClampNeg) := own_inb S361 (by decide) (by decide)
      have hat361 : cl361.slots[((0 : Int32)).toNatClampNeg]? = some (.int ((own_e1 p1 p2) - (1 : Int32))) := H361 _ (by decide)
      obtain ⟨cl362, Ar362, S362, H362⟩ := id f353
      have hin362 : ¬ ((1 : Int32) < 0 ∨ cl362.slots.size ≤ ((1 : Int32)).toNatClampNeg) := own_inb S362 (by decide) (by decide)
      have hat362 : cl362.slots[((1 : Int32)).toNatClampNeg]? = some (.int (own_e1 p1 p2)) := H362 _ (by decide)
      obtain ⟨cl363, Ar363, S363, H363⟩ := id c347_1
      have hin363 : ¬ ((1 : Int32) < 0 ∨ cl363.slots.size ≤ ((1 : Int32)).toNatClampNeg) := own_inb S363 (by decide) (by decide)
      have hat363 : cl363.slots[((1 : Int32)).toNatClampNeg]? = some (.int ((own_e2 p1 p2 p3) - (1 : Int32))) := H363 _ (by decide)
      obtain ⟨cl364, Ar364, S364, H364⟩ := id f353
      have hin364 : ¬ ((2 : Int32) < 0 ∨ cl364.slots.size ≤ ((2 : Int32)).toNatClampNeg) := own_inb S364 (by decide) (by decide)
      have hat364 : cl364.slots[((2 : Int32)).toNatClampNeg]? = some (.int (own_e2 p1 p2 p3)) := H364 _ (by decide)
      have pre365 : ∀ t, Steps p.tables e below (T346.setTop (mkF m 383 #[.val (.int p0), .val (.int p1), .val (.int p2), .val (.int p3), .val (.int (3 : Int32)), .val (.int (own_e0 p1)), .val (.int (own_e1 p1 p2)), .val (.int (own_e2 p1 p2 p3)), .val (.ref b266), .val (.ref b301), .val (.ref r347), .val (.int (1 : Int32)), .val (.int (1 : Int32)), .val (.int (1 : Int32)), .val (.int (2 : Int32))] [(.int (1 : Int32))])) t → Steps p.tables e below (s₁.setTop (entryFrame m #[(.int p0), (.int p1), (.int p2), (.int p3)] maxLocals)) t := by
        intro t kt
        refine pre344 t ?_
        show Steps p.tables e below (T333.setTop (mkF m 129 #[.val (.int p0), .val (.int p1), .val (.int p2), .val (.int p3), .val (.int (3 : Int32)), .val (.int (own_e0 p1)), .val (.int (own_e1 p1 p2)), .val (.int (own_e2 p1 p2 p3)), .val (.ref b266), .val (.ref b301), .unset, .unset, .unset, .unset, .unset] [])) _
        refine XS.aload X333.here hx rfl (hb hby at_129) rfl rfl ?_
        show Steps p.tables e below (T333.setTop (mkF m 131 #[.val (.int p0), .val (.int p1), .val (.int p2), .val (.int p3), .val (.int (3 : Int32)), .val (.int (own_e0 p1)), .val (.int (own_e1 p1 p2)), .val (.int (own_e2 p1 p2 p3)), .val (.ref b266), .val (.ref b301), .unset, .unset, .unset, .unset, .unset] [(.ref b266)])) _
        refine st346 _ ?_
        show Steps p.tables e below (T346.setTop (mkF m 134 #[.val (.int p0), .val (.int p1), .val (.int p2), .val (.int p3), .val (.int (3 : Int32)), .val (.int (own_e0 p1)), .val (.int (own_e1 p1 p2)), .val (.int (own_e2 p1 p2 p3)), .val (.ref b266), .val (.ref b301), .unset, .unset, .unset, .unset, .unset] [(.ref r347)])) _
        refine XS.astore X346.here hx rfl (hb hby at_134) rfl rfl (l' := #[.val (.int p0), .val (.int p1), .val (.int p2), .val (.int p3), .val (.int (3 : Int32)), .val (.int (own_e0 p1)), .val (.int (own_e1 p1 p2)), .val (.int (own_e2 p1 p2 p3)), .val (.ref b266), .val (.ref b301), .val (.ref r347), .unset, .unset, .unset, .unset]) rfl ?_
        show Steps p.tables e below (T346.setTop (mkF m 136 #[.val (.int p0), .val (.int p1), .val (.int p2), .val (.int p3), .val (.int (3 : Int32)), .val (.int (own_e0 p1)), .val (.int (own_e1 p1 p2)), .val (.int (own_e2 p1 p2 p3)), .val (.ref b266), .val (.ref b301), .val (.ref r347), .unset, .unset, .unset, .unset] [])) _
        refine XS.aload X346.here hx rfl (hb hby at_136) rfl rfl ?_
        show Steps p.tables e below (T346.setTop (mkF m 138 #[.val (.int p0), .val (.int p1), .val (.int p2), .val (.int p3), .val (.int (3 : Int32)), .val (.int (own_e0 p1)), .val (.int (own_e1 p1 p2)), .val (.int (own_e2 p1 p2 p3)), .val (.ref b266), .val (.ref b301), .val (.ref r347), .unset, .unset, .unset, .unset] [(.ref b266)])) _
        refine X346.arraylength hx Ar356.1 (State.isArrayOf_alike hZ.alike Ar356.2.1) (g := (mkF m 138 #[.val (.int p0), .val (.int p1), .val (.int p2), .val (.int p3), .val (.int (3 : Int32)), .val (.int (own_e0 p1)), .val (.int (own_e1 p1 p2)), .val (.int (own_e2 p1 p2 p3)), .val (.ref b266), .val (.ref b301), .val (.ref r347), .unset, .unset, .unset, .unset] [(.ref b266)])) rfl rfl (hb hby at_138) _ ?_
        rw [own_len (z := (3 : Int32)) S356 rfl]
        show Steps p.tables e below (T346.setTop (mkF m 139 #[.val (.int p0), .val (.int p1), .val (.int p2), .val (.int p3), .val (.int (3 : Int32)), .val (.int (own_e0 p1)), .val (.int (own_e1 p1 p2)), .val (.int (own_e2 p1 p2 p3)), .val (.ref b266), .val (.ref b301), .val (.ref r347), .unset, .unset, .unset, .unset] [(.int (3 : Int32))])) _
        refine XS.iload X346.here hx rfl (hb hby at_139) rfl ?_
        show Steps p.tables e below (T346.setTop (mkF m 141 #[.val (.int p0), .val (.int p1), .val (.int p2), .val (.int p3), .val (.int (3 : Int32)), .val (.int (own_e0 p1)), .val (.int (own_e1 p1 p2)), .val (.int (own_e2 p1 p2 p3)), .val (.ref b266), .val (.ref b301), .val (.ref r347), .unset, .unset, .unset, .unset] [(.int (3 : Int32)), (.int (3 : Int32))])) _
        refine XS.icmpNo X346.here hx rfl (hb hby at_141) rfl (teq (rfl : (3 : Int32) = (3 : Int32))).2 ?_
        show Steps p.tables e below (T346.setTop (mkF m 144 #[.val (.int p0), .val (.int p1), .val (.int p2), .val (.int p3), .val (.int (3 : Int32)), .val (.int (own_e0 p1)), .val (.int (own_e1 p1 p2)), .val (.int (own_e2 p1 p2 p3)), .val (.ref b266), .val (.ref b301), .val (.ref r347), .unset, .unset, .unset, .unset] [])) _
        refine XS.iconst X346.here hx rfl (hb hby at_144) ?_
        show Steps p.tables e below (T346.setTop (mkF m 145 #[.val (.int p0), .val (.int p1), .val (.int p2), .val (.int p3), .val (.int (3 : Int32)), .val (.int (own_e0 p1)), .val (.int (own_e1 p1 p2)), .val (.int (own_e2 p1 p2 p3)), .val (.ref b266), .val (.ref b301), .val (.ref r347), .unset, .unset, .unset, .unset] [(.int (1 : Int32))])) _
        refine XS.goto X346.here hx rfl (pc0 := 145) (pc' := 149) rfl (hb hby at_145) (by decide) (by decide) ?_
        show Steps p.tables e below (T346.setTop (mkF m 149 #[.val (.int p0), .val (.int p1), .val (.int p2), .val (.int p3), .val (.int (3 : Int32)), .val (.int (own_e0 p1)), .val (.int (own_e1 p1 p2)), .val (.int (own_e2 p1 p2 p3)), .val (.ref b266), .val (.ref b301), .val (.ref r347), .unset, .unset, .unset, .unset] [(.int (1 : Int32))])) _
        refine XS.istore X346.here hx rfl (hb hby at_149) rfl (l' := #[.val (.int p0), .val (.int p1), .val (.int p2), .val (.int p3), .val (.int (3 : Int32)), .val (.int (own_e0 p1)), .val (.int (own_e1 p1 p2)), .val (.int (own_e2 p1 p2 p3)), .val (.ref b266), .val (.ref b301), .val (.ref r347), .val (.int (1 : Int32)), .unset, .unset, .unset]) rfl ?_
        show Steps p.tables e below (T346.setTop (mkF m 151 #[.val (.int p0), .val (.int p1), .val (.int p2), .val (.int p3), .val (.int (3 : Int32)), .val (.int (own_e0 p1)), .val (.int (own_e1 p1 p2)), .val (.int (own_e2 p1 p2 p3)), .val (.ref b266), .val (.ref b301), .val (.ref r347), .val (.int (1 : Int32)), .unset, .unset, .unset] [])) _
        refine XS.iload X346.here hx rfl (hb hby at_151) rfl ?_
        show Steps p.tables e below (T346.setTop (mkF m 153 #[.val (.int p0), .val (.int p1), .val (.int p2), .val (.int p3), .val (.int (3 : Int32)), .val (.int (own_e0 p1)), .val (.int (own_e1 p1 p2)), .val (.int (own_e2 p1 p2 p3)), .val (.ref b266), .val (.ref b301), .val (.ref r347), .val (.int (1 : Int32)), .unset, .unset, .unset] [(.int (3 : Int32))])) _
        refine XS.ifNo X346.here hx rfl (hb hby at_153) rfl ((if0 _ _).trans (tlt (by decide : (0 : Int32) < (3 : Int32))).2.2.2) ?_
        show Steps p.tables e below (T346.setTop (mkF m 156 #[.val (.int p0), .val (.int p1), .val (.int p2), .val (.int p3), .val (.int (3 : Int32)), .val (.int (own_e0 p1)), .val (.int (own_e1 p1 p2)), .val (.int (own_e2 p1 p2 p3)), .val (.ref b266), .val (.ref b301), .val (.ref r347), .val (.int (1 : Int32)), .unset, .unset, .unset] [])) _
        refine XS.iload X346.here hx rfl (hb hby at_156) rfl ?_
        show Steps p.tables e below (T346.setTop (mkF m 158 #[.val (.int p0), .val (.int p1), .val (.int p2), .val (.int p3), .val (.int (3 : Int32)), .val (.int (own_e0 p1)), .val (.int (own_e1 p1 p2)), .val (.int (own_e2 p1 p2 p3)), .val (.ref b266), .val (.ref b301), .val (.ref r347), .val (.int (1 : Int32)), .unset, .unset, .unset] [(.int (1 : Int32))])) _
        refine XS.ifNo X346.here hx rfl (hb hby at_158) rfl ((if0 _ _).trans (feq (by decide : ¬ ((1 : Int32) = (0 : Int32)))).1) ?_
        show Steps p.tables e below (T346.setTop (mkF m 161 #[.val (.int p0), .val (.int p1), .val (.int p2), .val (.int p3), .val (.int (3 : Int32)), .val (.int (own_e0 p1)), .val (.int (own_e1 p1 p2)), .val (.int (own_e2 p1 p2 p3)), .val (.ref b266), .val (.ref b301), .val (.ref r347), .val (.int (1 : Int32)), .unset, .unset, .unset] [])) _
        refine XS.aload X346.here hx rfl (hb hby at_161) rfl rfl ?_
        show Steps p.tables e below (T346.setTop (mkF m 163 #[.val (.int p0), .val (.int p1), .val (.int p2), .val (.int p3), .val (.int (3 : Int32)), .val (.int (own_e0 p1)), .val (.int (own_e1 p1 p2)), .val (.int (own_e2 p1 p2 p3)), .val (.ref b266), .val (.ref b301), .val (.ref r347), .val (.int (1 : Int32)), .unset, .unset, .unset] [(.ref b266)])) _
        refine XS.iconst X346.here hx rfl (hb hby at_163) ?_
        show Steps p.tables e below (T346.setTop (mkF m 164 #[.val (.int p0), .val (.int p1), .val (.int p2), .val (.int p3), .val (.int (3 : Int32)), .val (.int (own_e0 p1)), .val (.int (own_e1 p1 p2)), .val (.int (own_e2 p1 p2 p3)), .val (.ref b266), .val (.ref b301), .val (.ref r347), .val (.int (1 : Int32)), .unset, .unset, .unset] [(.int (0 : Int32)), (.ref b266)])) _
        refine X346.iaload hx (j := (0 : Int32)) (v := (.int (own_e0 p1))) Ar357.1 (State.isArrayOf_alike hZ.alike Ar357.2.1) Ar357.2.2 hin357 hat357 (g := (mkF m 164 #[.val (.int p0), .val (.int p1), .val (.int p2), .val (.int p3), .val (.int (3 : Int32)), .val (.int (own_e0 p1)), .val (.int (own_e1 p1 p2)), .val (.int (own_e2 p1 p2 p3)), .val (.ref b266), .val (.ref b301), .val (.ref r347), .val (.int (1 : Int32)), .unset, .unset, .unset] [(.int (0 : Int32)), (.ref b266)])) rfl rfl (hb hby at_164) _ ?_
        show Steps p.tables e below (T346.setTop (mkF m 165 #[.val (.int p0), .val (.int p1), .val (.int p2), .val (.int p3), .val (.int (3 : Int32)), .val (.int (own_e0 p1)), .val (.int (own_e1 p1 p2)), .val (.int (own_e2 p1 p2 p3)), .val (.ref b266), .val (.ref b301), .val (.ref r347), .val (.int (1 : Int32)), .unset, .unset, .unset] [(.int (own_e0 p1))])) _
        refine XS.iload X346.here hx rfl (hb hby at_165) rfl ?_
        show Steps p.tables e below (T346.setTop (mkF m 167 #[.val (.int p0), .val (.int p1), .val (.int p2), .val (.int p3), .val (.int (3 : Int32)), .val (.int (own_e0 p1)), .val (.int (own_e1 p1 p2)), .val (.int (own_e2 p1 p2 p3)), .val (.ref b266), .val (.ref b301), .val (.ref r347), .val (.int (1 : Int32)), .unset, .unset, .unset] [(.int (own_e0 p1)), (.int (own_e0 p1))])) _
        refine XS.icmpNo X346.here hx rfl (hb hby at_167) rfl (teq (rfl : (own_e0 p1) = (own_e0 p1))).2 ?_
        show Steps p.tables e below (T346.setTop (mkF m 170 #[.val (.int p0), .val (.int p1), .val (.int p2), .val (.int p3), .val (.int (3 : Int32)), .val (.int (own_e0 p1)), .val (.int (own_e1 p1 p2)), .val (.int (own_e2 p1 p2 p3)), .val (.ref b266), .val (.ref b301), .val (.ref r347), .val (.int (1 : Int32)), .unset, .unset, .unset] [])) _
        refine XS.iconst X346.here hx rfl (hb hby at_170) ?_
        show Steps p.tables e below (T346.setTop (mkF m 171 #[.val (.int p0), .val (.int p1), .val (.int p2), .val (.int p3), .val (.int (3 : Int32)), .val (.int (own_e0 p1)), .val (.int (own_e1 p1 p2)), .val (.int (own_e2 p1 p2 p3)), .val (.ref b266), .val (.ref b301), .val (.ref r347), .val (.int (1 : Int32)), .unset, .unset, .unset] [(.int (1 : Int32))])) _
        refine XS.goto X346.here hx rfl (pc0 := 171) (pc' := 175) rfl (hb hby at_171) (by decide) (by decide) ?_
        show Steps p.tables e below (T346.setTop (mkF m 175 #[.val (.int p0), .val (.int p1), .val (.int p2), .val (.int p3), .val (.int (3 : Int32)), .val (.int (own_e0 p1)), .val (.int (own_e1 p1 p2)), .val (.int (own_e2 p1 p2 p3)), .val (.ref b266), .val (.ref b301), .val (.ref r347), .val (.int (1 : Int32)), .unset, .unset, .unset] [(.int (1 : Int32))])) _
        refine XS.istore X346.here hx rfl (hb hby at_175) rfl (l' := #[.val (.int p0), .val (.int p1), .val (.int p2), .val (.int p3), .val (.int (3 : Int32)), .val (.int (own_e0 p1)), .val (.int (own_e1 p1 p2)), .val (.int (own_e2 p1 p2 p3)), .val (.ref b266), .val (.ref b301), .val (.ref r347), .val (.int (1 : Int32)), .unset, .unset, .unset]) rfl ?_
        show Steps p.tables e below (T346.setTop (mkF m 177 #[.val (.int p0), .val (.int p1), .val (.int p2), .val (.int p3), .val (.int (3 : Int32)), .val (.int (own_e0 p1)), .val (.int (own_e1 p1 p2)), .val (.int (own_e2 p1 p2 p3)), .val (.ref b266), .val (.ref b301), .val (.ref r347), .val (.int (1 : Int32)), .unset, .unset, .unset] [])) _
        refine XS.iload X346.here hx rfl (hb hby at_177) rfl ?_
        show Steps p.tables e below (T346.setTop (mkF m 179 #[.val (.int p0), .val (.int p1), .val (.int p2), .val (.int p3), .val (.int (3 : Int32)), .val (.int (own_e0 p1)), .val (.int (own_e1 p1 p2)), .val (.int (own_e2 p1 p2 p3)), .val (.ref b266), .val (.ref b301), .val (.ref r347), .val (.int (1 : Int32)), .unset, .unset, .unset] [(.int (3 : Int32))])) _
        refine XS.iconst X346.here hx rfl (hb hby at_179) ?_
        show Steps p.tables e below (T346.setTop (mkF m 180 #[.val (.int p0), .val (.int p1), .val (.int p2), .val (.int p3), .val (.int (3 : Int32)), .val (.int (own_e0 p1)), .val (.int (own_e1 p1 p2)), .val (.int (own_e2 p1 p2 p3)), .val (.ref b266), .val (.ref b301), .val (.ref r347), .val (.int (1 : Int32)), .unset, .unset, .unset] [(.int (1 : Int32)), (.int (3 : Int32))])) _
        refine XS.icmpNo X346.here hx rfl (hb hby at_180) rfl (tlt (by decide : (1 : Int32) < (3 : Int32))).2.2.2 ?_
        show Steps p.tables e below (T346.setTop (mkF m 183 #[.val (.int p0), .val (.int p1), .val (.int p2), .val (.int p3), .val (.int (3 : Int32)), .val (.int (own_e0 p1)), .val (.int (own_e1 p1 p2)), .val (.int (own_e2 p1 p2 p3)), .val (.ref b266), .val (.ref b301), .val (.ref r347), .val (.int (1 : Int32)), .unset, .unset, .unset] [])) _
        refine XS.iload X346.here hx rfl (hb hby at_183) rfl ?_
        show Steps p.tables e below (T346.setTop (mkF m 185 #[.val (.int p0), .val (.int p1), .val (.int p2), .val (.int p3), .val (.int (3 : Int32)), .val (.int (own_e0 p1)), .val (.int (own_e1 p1 p2)), .val (.int (own_e2 p1 p2 p3)), .val (.ref b266), .val (.ref b301), .val (.ref r347), .val (.int (1 : Int32)), .unset, .unset, .unset] [(.int (1 : Int32))])) _
        refine XS.ifNo X346.here hx rfl (hb hby at_185) rfl ((if0 _ _).trans (feq (by decide : ¬ ((1 : Int32) = (0 : Int32)))).1) ?_
        show Steps p.tables e below (T346.setTop (mkF m 188 #[.val (.int p0), .val (.int p1), .val (.int p2), .val (.int p3), .val (.int (3 : Int32)), .val (.int (own_e0 p1)), .val (.int (own_e1 p1 p2)), .val (.int (own_e2 p1 p2 p3)), .val (.ref b266), .val (.ref b301), .val (.ref r347), .val (.int (1 : Int32)), .unset, .unset, .unset] [])) _
        refine XS.aload X346.here hx rfl (hb hby at_188) rfl rfl ?_
        show Steps p.tables e below (T346.setTop (mkF m 190 #[.val (.int p0), .val (.int p1), .val (.int p2), .val (.int p3), .val (.int (3 : Int32)), .val (.int (own_e0 p1)), .val (.int (own_e1 p1 p2)), .val (.int (own_e2 p1 p2 p3)), .val (.ref b266), .val (.ref b301), .val (.ref r347), .val (.int (1 : Int32)), .unset, .unset, .unset] [(.ref b266)])) _
        refine XS.iconst X346.here hx rfl (hb hby at_190) ?_
        show Steps p.tables e below (T346.setTop (mkF m 191 #[.val (.int p0), .val (.int p1), .val (.int p2), .val (.int p3), .val (.int (3 : Int32)), .val (.int (own_e0 p1)), .val (.int (own_e1 p1 p2)), .val (.int (own_e2 p1 p2 p3)), .val (.ref b266), .val (.ref b301), .val (.ref r347), .val (.int (1 : Int32)), .unset, .unset, .unset] [(.int (1 : Int32)), (.ref b266)])) _
        refine X346.iaload hx (j := (1 : Int32)) (v := (.int (own_e1 p1 p2))) Ar358.1 (State.isArrayOf_alike hZ.alike Ar358.2.1) Ar358.2.2 hin358 hat358 (g := (mkF m 191 #[.val (.int p0), .val (.int p1), .val (.int p2), .val (.int p3), .val (.int (3 : Int32)), .val (.int (own_e0 p1)), .val (.int (own_e1 p1 p2)), .val (.int (own_e2 p1 p2 p3)), .val (.ref b266), .val (.ref b301), .val (.ref r347), .val (.int (1 : Int32)), .unset, .unset, .unset] [(.int (1 : Int32)), (.ref b266)])) rfl rfl (hb hby at_191) _ ?_
        show Steps p.tables e below (T346.setTop (mkF m 192 #[.val (.int p0), .val (.int p1), .val (.int p2), .val (.int p3), .val (.int (3 : Int32)), .val (.int (own_e0 p1)), .val (.int (own_e1 p1 p2)), .val (.int (own_e2 p1 p2 p3)), .val (.ref b266), .val (.ref b301), .val (.ref r347), .val (.int (1 : Int32)), .unset, .unset, .unset] [(.int (own_e1 p1 p2))])) _
        refine XS.iload X346.here hx rfl (hb hby at_192) rfl ?_
        show Steps p.tables e below (T346.setTop (mkF m 194 #[.val (.int p0), .val (.int p1), .val (.int p2), .val (.int p3), .val (.int (3 : Int32)), .val (.int (own_e0 p1)), .val (.int (own_e1 p1 p2)), .val (.int (own_e2 p1 p2 p3)), .val (.ref b266), .val (.ref b301), .val (.ref r347), .val (.int (1 : Int32)), .unset, .unset, .unset] [(.int (own_e1 p1 p2)), (.int (own_e1 p1 p2))])) _
        refine XS.icmpNo X346.here hx rfl (hb hby at_194) rfl (teq (rfl : (own_e1 p1 p2) = (own_e1 p1 p2))).2 ?_
        show Steps p.tables e below (T346.setTop (mkF m 197 #[.val (.int p0), .val (.int p1), .val (.int p2), .val (.int p3), .val (.int (3 : Int32)), .val (.int (own_e0 p1)), .val (.int (own_e1 p1 p2)), .val (.int (own_e2 p1 p2 p3)), .val (.ref b266), .val (.ref b301), .val (.ref r347), .val (.int (1 : Int32)), .unset, .unset, .unset] [])) _
        refine XS.iconst X346.here hx rfl (hb hby at_197) ?_
        show Steps p.tables e below (T346.setTop (mkF m 198 #[.val (.int p0), .val (.int p1), .val (.int p2), .val (.int p3), .val (.int (3 : Int32)), .val (.int (own_e0 p1)), .val (.int (own_e1 p1 p2)), .val (.int (own_e2 p1 p2 p3)), .val (.ref b266), .val (.ref b301), .val (.ref r347), .val (.int (1 : Int32)), .unset, .unset, .unset] [(.int (1 : Int32))])) _
        refine XS.goto X346.here hx rfl (pc0 := 198) (pc' := 202) rfl (hb hby at_198) (by decide) (by decide) ?_
        show Steps p.tables e below (T346.setTop (mkF m 202 #[.val (.int p0), .val (.int p1), .val (.int p2), .val (.int p3), .val (.int (3 : Int32)), .val (.int (own_e0 p1)), .val (.int (own_e1 p1 p2)), .val (.int (own_e2 p1 p2 p3)), .val (.ref b266), .val (.ref b301), .val (.ref r347), .val (.int (1 : Int32)), .unset, .unset, .unset] [(.int (1 : Int32))])) _
        refine XS.istore X346.here hx rfl (hb hby at_202) rfl (l' := #[.val (.int p0), .val (.int p1), .val (.int p2), .val (.int p3), .val (.int (3 : Int32)), .val (.int (own_e0 p1)), .val (.int (own_e1 p1 p2)), .val (.int (own_e2 p1 p2 p3)), .val (.ref b266), .val (.ref b301), .val (.ref r347), .val (.int (1 : Int32)), .unset, .unset, .unset]) rfl ?_
        show Steps p.tables e below (T346.setTop (mkF m 204 #[.val (.int p0), .val (.int p1), .val (.int p2), .val (.int p3), .val (.int (3 : Int32)), .val (.int (own_e0 p1)), .val (.int (own_e1 p1 p2)), .val (.int (own_e2 p1 p2 p3)), .val (.ref b266), .val (.ref b301), .val (.ref r347), .val (.int (1 : Int32)), .unset, .unset, .unset] [])) _
        refine XS.iload X346.here hx rfl (hb hby at_204) rfl ?_
        show Steps p.tables e below (T346.setTop (mkF m 206 #[.val (.int p0), .val (.int p1), .val (.int p2), .val (.int p3), .val (.int (3 : Int32)), .val (.int (own_e0 p1)), .val (.int (own_e1 p1 p2)), .val (.int (own_e2 p1 p2 p3)), .val (.ref b266), .val (.ref b301), .val (.ref r347), .val (.int (1 : Int32)), .unset, .unset, .unset] [(.int (3 : Int32))])) _
        refine XS.iconst X346.here hx rfl (hb hby at_206) ?_
        show Steps p.tables e below (T346.setTop (mkF m 207 #[.val (.int p0), .val (.int p1), .val (.int p2), .val (.int p3), .val (.int (3 : Int32)), .val (.int (own_e0 p1)), .val (.int (own_e1 p1 p2)), .val (.int (own_e2 p1 p2 p3)), .val (.ref b266), .val (.ref b301), .val (.ref r347), .val (.int (1 : Int32)), .unset, .unset, .unset] [(.int (2 : Int32)), (.int (3 : Int32))])) _
        refine XS.icmpNo X346.here hx rfl (hb hby at_207) rfl (tlt (by decide : (2 : Int32) < (3 : Int32))).2.2.2 ?_
        show Steps p.tables e below (T346.setTop (mkF m 210 #[.val (.int p0), .val (.int p1), .val (.int p2), .val (.int p3), .val (.int (3 : Int32)), .val (.int (own_e0 p1)), .val (.int (own_e1 p1 p2)), .val (.int (own_e2 p1 p2 p3)), .val (.ref b266), .val (.ref b301), .val (.ref r347), .val (.int (1 : Int32)), .unset, .unset, .unset] [])) _
        refine XS.iload X346.here hx rfl (hb hby at_210) rfl ?_
        show Steps p.tables e below (T346.setTop (mkF m 212 #[.val (.int p0), .val (.int p1), .val (.int p2), .val (.int p3), .val (.int (3 : Int32)), .val (.int (own_e0 p1)), .val (.int (own_e1 p1 p2)), .val (.int (own_e2 p1 p2 p3)), .val (.ref b266), .val (.ref b301), .val (.ref r347), .val (.int (1 : Int32)), .unset, .unset, .unset] [(.int (1 : Int32))])) _
        refine XS.ifNo X346.here hx rfl (hb hby at_212) rfl ((if0 _ _).trans (feq (by decide : ¬ ((1 : Int32) = (0 : Int32)))).1) ?_
        show Steps p.tables e below (T346.setTop (mkF m 215 #[.val (.int p0), .val (.int p1), .val (.int p2), .val (.int p3), .val (.int (3 : Int32)), .val (.int (own_e0 p1)), .val (.int (own_e1 p1 p2)), .val (.int (own_e2 p1 p2 p3)), .val (.ref b266), .val (.ref b301), .val (.ref r347), .val (.int (1 : Int32)), .unset, .unset, .unset] [])) _
        refine XS.aload X346.here hx rfl (hb hby at_215) rfl rfl ?_
        show Steps p.tables e below (T346.setTop (mkF m 217 #[.val (.int p0), .val (.int p1), .val (.int p2), .val (.int p3), .val (.int (3 : Int32)), .val (.int (own_e0 p1)), .val (.int (own_e1 p1 p2)), .val (.int (own_e2 p1 p2 p3)), .val (.ref b266), .val (.ref b301), .val (.ref r347), .val (.int (1 : Int32)), .unset, .unset, .unset] [(.ref b266)])) _
        refine XS.iconst X346.here hx rfl (hb hby at_217) ?_
        show Steps p.tables e below (T346.setTop (mkF m 218 #[.val (.int p0), .val (.int p1), .val (.int p2), .val (.int p3), .val (.int (3 : Int32)), .val (.int (own_e0 p1)), .val (.int (own_e1 p1 p2)), .val (.int (own_e2 p1 p2 p3)), .val (.ref b266), .val (.ref b301), .val (.ref r347), .val (.int (1 : Int32)), .unset, .unset, .unset] [(.int (2 : Int32)), (.ref b266)])) _
        refine X346.iaload hx (j := (2 : Int32)) (v := (.int (own_e2 p1 p2 p3))) Ar359.1 (State.isArrayOf_alike hZ.alike Ar359.2.1) Ar359.2.2 hin359 hat359 (g := (mkF m 218 #[.val (.int p0), .val (.int p1), .val (.int p2), .val (.int p3), .val (.int (3 : Int32)), .val (.int (own_e0 p1)), .val (.int (own_e1 p1 p2)), .val (.int (own_e2 p1 p2 p3)), .val (.ref b266), .val (.ref b301), .val (.ref r347), .val (.int (1 : Int32)), .unset, .unset, .unset] [(.int (2 : Int32)), (.ref b266)])) rfl rfl (hb hby at_218) _ ?_
        show Steps p.tables e below (T346.setTop (mkF m 219 #[.val (.int p0), .val (.int p1), .val (.int p2), .val (.int p3), .val (.int (3 : Int32)), .val (.int (own_e0 p1)), .val (.int (own_e1 p1 p2)), .val (.int (own_e2 p1 p2 p3)), .val (.ref b266), .val (.ref b301), .val (.ref r347), .val (.int (1 : Int32)), .unset, .unset, .unset] [(.int (own_e2 p1 p2 p3))])) _
        refine XS.iload X346.here hx rfl (hb hby at_219) rfl ?_
        show Steps p.tables e below (T346.setTop (mkF m 221 #[.val (.int p0), .val (.int p1), .val (.int p2), .val (.int p3), .val (.int (3 : Int32)), .val (.int (own_e0 p1)), .val (.int (own_e1 p1 p2)), .val (.int (own_e2 p1 p2 p3)), .val (.ref b266), .val (.ref b301), .val (.ref r347), .val (.int (1 : Int32)), .unset, .unset, .unset] [(.int (own_e2 p1 p2 p3)), (.int (own_e2 p1 p2 p3))])) _
        refine XS.icmpNo X346.here hx rfl (hb hby at_221) rfl (teq (rfl : (own_e2 p1 p2 p3) = (own_e2 p1 p2 p3))).2 ?_
        show Steps p.tables e below (T346.setTop (mkF m 224 #[.val (.int p0), .val (.int p1), .val (.int p2), .val (.int p3), .val (.int (3 : Int32)), .val (.int (own_e0 p1)), .val (.int (own_e1 p1 p2)), .val (.int (own_e2 p1 p2 p3)), .val (.ref b266), .val (.ref b301), .val (.ref r347), .val (.int (1 : Int32)), .unset, .unset, .unset] [])) _
        refine XS.iconst X346.here hx rfl (hb hby at_224) ?_
        show Steps p.tables e below (T346.setTop (mkF m 225 #[.val (.int p0), .val (.int p1), .val (.int p2), .val (.int p3), .val (.int (3 : Int32)), .val (.int (own_e0 p1)), .val (.int (own_e1 p1 p2)), .val (.int (own_e2 p1 p2 p3)), .val (.ref b266), .val (.ref b301), .val (.ref r347), .val (.int (1 : Int32)), .unset, .unset, .unset] [(.int (1 : Int32))])) _
        refine XS.goto X346.here hx rfl (pc0 := 225) (pc' := 229) rfl (hb hby at_225) (by decide) (by decide) ?_
        show Steps p.tables e below (T346.setTop (mkF m 229 #[.val (.int p0), .val (.int p1), .val (.int p2), .val (.int p3), .val (.int (3 : Int32)), .val (.int (own_e0 p1)), .val (.int (own_e1 p1 p2)), .val (.int (own_e2 p1 p2 p3)), .val (.ref b266), .val (.ref b301), .val (.ref r347), .val (.int (1 : Int32)), .unset, .unset, .unset] [(.int (1 : Int32))])) _
        refine XS.istore X346.here hx rfl (hb hby at_229) rfl (l' := #[.val (.int p0), .val (.int p1), .val (.int p2), .val (.int p3), .val (.int (3 : Int32)), .val (.int (own_e0 p1)), .val (.int (own_e1 p1 p2)), .val (.int (own_e2 p1 p2 p3)), .val (.ref b266), .val (.ref b301), .val (.ref r347), .val (.int (1 : Int32)), .unset, .unset, .unset]) rfl ?_
        show Steps p.tables e below (T346.setTop (mkF m 231 #[.val (.int p0), .val (.int p1), .val (.int p2), .val (.int p3), .val (.int (3 : Int32)), .val (.int (own_e0 p1)), .val (.int (own_e1 p1 p2)), .val (.int (own_e2 p1 p2 p3)), .val (.ref b266), .val (.ref b301), .val (.ref r347), .val (.int (1 : Int32)), .unset, .unset, .unset] [])) _
        refine XS.iload X346.here hx rfl (hb hby at_231) rfl ?_
        show Steps p.tables e below (T346.setTop (mkF m 233 #[.val (.int p0), .val (.int p1), .val (.int p2), .val (.int p3), .val (.int (3 : Int32)), .val (.int (own_e0 p1)), .val (.int (own_e1 p1 p2)), .val (.int (own_e2 p1 p2 p3)), .val (.ref b266), .val (.ref b301), .val (.ref r347), .val (.int (1 : Int32)), .unset, .unset, .unset] [(.int (3 : Int32))])) _
        refine XS.ifNo X346.here hx rfl (hb hby at_233) rfl ((if0 _ _).trans (tlt (by decide : (0 : Int32) < (3 : Int32))).2.2.2) ?_
        show Steps p.tables e below (T346.setTop (mkF m 236 #[.val (.int p0), .val (.int p1), .val (.int p2), .val (.int p3), .val (.int (3 : Int32)), .val (.int (own_e0 p1)), .val (.int (own_e1 p1 p2)), .val (.int (own_e2 p1 p2 p3)), .val (.ref b266), .val (.ref b301), .val (.ref r347), .val (.int (1 : Int32)), .unset, .unset, .unset] [])) _
        refine XS.iload X346.here hx rfl (hb hby at_236) rfl ?_
        show Steps p.tables e below (T346.setTop (mkF m 238 #[.val (.int p0), .val (.int p1), .val (.int p2), .val (.int p3), .val (.int (3 : Int32)), .val (.int (own_e0 p1)), .val (.int (own_e1 p1 p2)), .val (.int (own_e2 p1 p2 p3)), .val (.ref b266), .val (.ref b301), .val (.ref r347), .val (.int (1 : Int32)), .unset, .unset, .unset] [(.int (own_e0 p1))])) _
        refine XS.ifNo X346.here hx rfl (hb hby at_238) rfl ((if0 _ _).trans (teq hz0).2) ?_
        show Steps p.tables e below (T346.setTop (mkF m 241 #[.val (.int p0), .val (.int p1), .val (.int p2), .val (.int p3), .val (.int (3 : Int32)), .val (.int (own_e0 p1)), .val (.int (own_e1 p1 p2)), .val (.int (own_e2 p1 p2 p3)), .val (.ref b266), .val (.ref b301), .val (.ref r347), .val (.int (1 : Int32)), .unset, .unset, .unset] [])) _
        refine XS.iconst X346.here hx rfl (hb hby at_241) ?_
        show Steps p.tables e below (T346.setTop (mkF m 242 #[.val (.int p0), .val (.int p1), .val (.int p2), .val (.int p3), .val (.int (3 : Int32)), .val (.int (own_e0 p1)), .val (.int (own_e1 p1 p2)), .val (.int (own_e2 p1 p2 p3)), .val (.ref b266), .val (.ref b301), .val (.ref r347), .val (.int (1 : Int32)), .unset, .unset, .unset] [(.int (1 : Int32))])) _
        refine XS.goto X346.here hx rfl (pc0 := 242) (pc' := 246) rfl (hb hby at_242) (by decide) (by decide) ?_
        show Steps p.tables e below (T346.setTop (mkF m 246 #[.val (.int p0), .val (.int p1), .val (.int p2), .val (.int p3), .val (.int (3 : Int32)), .val (.int (own_e0 p1)), .val (.int (own_e1 p1 p2)), .val (.int (own_e2 p1 p2 p3)), .val (.ref b266), .val (.ref b301), .val (.ref r347), .val (.int (1 : Int32)), .unset, .unset, .unset] [(.int (1 : Int32))])) _
        refine XS.istore X346.here hx rfl (hb hby at_246) rfl (l' := #[.val (.int p0), .val (.int p1), .val (.int p2), .val (.int p3), .val (.int (3 : Int32)), .val (.int (own_e0 p1)), .val (.int (own_e1 p1 p2)), .val (.int (own_e2 p1 p2 p3)), .val (.ref b266), .val (.ref b301), .val (.ref r347), .val (.int (1 : Int32)), .val (.int (1 : Int32)), .unset, .unset]) rfl ?_
        show Steps p.tables e below (T346.setTop (mkF m 248 #[.val (.int p0), .val (.int p1), .val (.int p2), .val (.int p3), .val (.int (3 : Int32)), .val (.int (own_e0 p1)), .val (.int (own_e1 p1 p2)), .val (.int (own_e2 p1 p2 p3)), .val (.ref b266), .val (.ref b301), .val (.ref r347), .val (.int (1 : Int32)), .val (.int (1 : Int32)), .unset, .unset] [])) _
        refine XS.iload X346.here hx rfl (hb hby at_248) rfl ?_
        show Steps p.tables e below (T346.setTop (mkF m 250 #[.val (.int p0), .val (.int p1), .val (.int p2), .val (.int p3), .val (.int (3 : Int32)), .val (.int (own_e0 p1)), .val (.int (own_e1 p1 p2)), .val (.int (own_e2 p1 p2 p3)), .val (.ref b266), .val (.ref b301), .val (.ref r347), .val (.int (1 : Int32)), .val (.int (1 : Int32)), .unset, .unset] [(.int (1 : Int32))])) _
        refine XS.ifNo X346.here hx rfl (hb hby at_250) rfl ((if0 _ _).trans (feq (by decide : ¬ ((1 : Int32) = (0 : Int32)))).1) ?_
        show Steps p.tables e below (T346.setTop (mkF m 253 #[.val (.int p0), .val (.int p1), .val (.int p2), .val (.int p3), .val (.int (3 : Int32)), .val (.int (own_e0 p1)), .val (.int (own_e1 p1 p2)), .val (.int (own_e2 p1 p2 p3)), .val (.ref b266), .val (.ref b301), .val (.ref r347), .val (.int (1 : Int32)), .val (.int (1 : Int32)), .unset, .unset] [])) _
        refine XS.iconst X346.here hx rfl (hb hby at_253) ?_
        show Steps p.tables e below (T346.setTop (mkF m 254 #[.val (.int p0), .val (.int p1), .val (.int p2), .val (.int p3), .val (.int (3 : Int32)), .val (.int (own_e0 p1)), .val (.int (own_e1 p1 p2)), .val (.int (own_e2 p1 p2 p3)), .val (.ref b266), .val (.ref b301), .val (.ref r347), .val (.int (1 : Int32)), .val (.int (1 : Int32)), .unset, .unset] [(.int (1 : Int32))])) _
        refine XS.goto X346.here hx rfl (pc0 := 254) (pc' := 258) rfl (hb hby at_254) (by decide) (by decide) ?_
        show Steps p.tables e below (T346.setTop (mkF m 258 #[.val (.int p0), .val (.int p1), .val (.int p2), .val (.int p3), .val (.int (3 : Int32)), .val (.int (own_e0 p1)), .val (.int (own_e1 p1 p2)), .val (.int (own_e2 p1 p2 p3)), .val (.ref b266), .val (.ref b301), .val (.ref r347), .val (.int (1 : Int32)), .val (.int (1 : Int32)), .unset, .unset] [(.int (1 : Int32))])) _
        refine XS.istore X346.here hx rfl (hb hby at_258) rfl (l' := #[.val (.int p0), .val (.int p1), .val (.int p2), .val (.int p3), .val (.int (3 : Int32)), .val (.int (own_e0 p1)), .val (.int (own_e1 p1 p2)), .val (.int (own_e2 p1 p2 p3)), .val (.ref b266), .val (.ref b301), .val (.ref r347), .val (.int (1 : Int32)), .val (.int (1 : Int32)), .val (.int (1 : Int32)), .unset]) rfl ?_
        show Steps p.tables e below (T346.setTop (mkF m 260 #[.val (.int p0), .val (.int p1), .val (.int p2), .val (.int p3), .val (.int (3 : Int32)), .val (.int (own_e0 p1)), .val (.int (own_e1 p1 p2)), .val (.int (own_e2 p1 p2 p3)), .val (.ref b266), .val (.ref b301), .val (.ref r347), .val (.int (1 : Int32)), .val (.int (1 : Int32)), .val (.int (1 : Int32)), .unset] [])) _
        refine XS.iload X346.here hx rfl (hb hby at_260) rfl ?_
        show Steps p.tables e below (T346.setTop (mkF m 262 #[.val (.int p0), .val (.int p1), .val (.int p2), .val (.int p3), .val (.int (3 : Int32)), .val (.int (own_e0 p1)), .val (.int (own_e1 p1 p2)), .val (.int (own_e2 p1 p2 p3)), .val (.ref b266), .val (.ref b301), .val (.ref r347), .val (.int (1 : Int32)), .val (.int (1 : Int32)), .val (.int (1 : Int32)), .unset] [(.int (3 : Int32))])) _
        refine XS.iload X346.here hx rfl (hb hby at_262) rfl ?_
        show Steps p.tables e below (T346.setTop (mkF m 264 #[.val (.int p0), .val (.int p1), .val (.int p2), .val (.int p3), .val (.int (3 : Int32)), .val (.int (own_e0 p1)), .val (.int (own_e1 p1 p2)), .val (.int (own_e2 p1 p2 p3)), .val (.ref b266), .val (.ref b301), .val (.ref r347), .val (.int (1 : Int32)), .val (.int (1 : Int32)), .val (.int (1 : Int32)), .unset] [(.int (1 : Int32)), (.int (3 : Int32))])) _
        refine XS.isub X346.here hx rfl (hb hby at_264) rfl ?_
        show Steps p.tables e below (T346.setTop (mkF m 265 #[.val (.int p0), .val (.int p1), .val (.int p2), .val (.int p3), .val (.int (3 : Int32)), .val (.int (own_e0 p1)), .val (.int (own_e1 p1 p2)), .val (.int (own_e2 p1 p2 p3)), .val (.ref b266), .val (.ref b301), .val (.ref r347), .val (.int (1 : Int32)), .val (.int (1 : Int32)), .val (.int (1 : Int32)), .unset] [(.int (2 : Int32))])) _
        refine XS.istore X346.here hx rfl (hb hby at_265) rfl (l' := #[.val (.int p0), .val (.int p1), .val (.int p2), .val (.int p3), .val (.int (3 : Int32)), .val (.int (own_e0 p1)), .val (.int (own_e1 p1 p2)), .val (.int (own_e2 p1 p2 p3)), .val (.ref b266), .val (.ref b301), .val (.ref r347), .val (.int (1 : Int32)), .val (.int (1 : Int32)), .val (.int (1 : Int32)), .val (.int (2 : Int32))]) rfl ?_
        show Steps p.tables e below (T346.setTop (mkF m 267 #[.val (.int p0), .val (.int p1), .val (.int p2), .val (.int p3), .val (.int (3 : Int32)), .val (.int (own_e0 p1)), .val (.int (own_e1 p1 p2)), .val (.int (own_e2 p1 p2 p3)), .val (.ref b266), .val (.ref b301), .val (.ref r347), .val (.int (1 : Int32)), .val (.int (1 : Int32)), .val (.int (1 : Int32)), .val (.int (2 : Int32))] [])) _
        refine XS.aload X346.here hx rfl (hb hby at_267) rfl rfl ?_
        show Steps p.tables e below (T346.setTop (mkF m 269 #[.val (.int p0), .val (.int p1), .val (.int p2), .val (.int p3), .val (.int (3 : Int32)), .val (.int (own_e0 p1)), .val (.int (own_e1 p1 p2)), .val (.int (own_e2 p1 p2 p3)), .val (.ref b266), .val (.ref b301), .val (.ref r347), .val (.int (1 : Int32)), .val (.int (1 : Int32)), .val (.int (1 : Int32)), .val (.int (2 : Int32))] [(.ref r347)])) _
        refine XS.ifnullNo X346.here hx rfl (hb hby at_269) rfl ?_
        show Steps p.tables e below (T346.setTop (mkF m 272 #[.val (.int p0), .val (.int p1), .val (.int p2), .val (.int p3), .val (.int (3 : Int32)), .val (.int (own_e0 p1)), .val (.int (own_e1 p1 p2)), .val (.int (own_e2 p1 p2 p3)), .val (.ref b266), .val (.ref b301), .val (.ref r347), .val (.int (1 : Int32)), .val (.int (1 : Int32)), .val (.int (1 : Int32)), .val (.int (2 : Int32))] [])) _
        refine XS.aload X346.here hx rfl (hb hby at_272) rfl rfl ?_
        show Steps p.tables e below (T346.setTop (mkF m 274 #[.val (.int p0), .val (.int p1), .val (.int p2), .val (.int p3), .val (.int (3 : Int32)), .val (.int (own_e0 p1)), .val (.int (own_e1 p1 p2)), .val (.int (own_e2 p1 p2 p3)), .val (.ref b266), .val (.ref b301), .val (.ref r347), .val (.int (1 : Int32)), .val (.int (1 : Int32)), .val (.int (1 : Int32)), .val (.int (2 : Int32))] [(.ref r347)])) _
        refine X346.arraylength hx Ar360.1 (State.isArrayOf_alike hZ.alike Ar360.2.1) (g := (mkF m 274 #[.val (.int p0), .val (.int p1), .val (.int p2), .val (.int p3), .val (.int (3 : Int32)), .val (.int (own_e0 p1)), .val (.int (own_e1 p1 p2)), .val (.int (own_e2 p1 p2 p3)), .val (.ref b266), .val (.ref b301), .val (.ref r347), .val (.int (1 : Int32)), .val (.int (1 : Int32)), .val (.int (1 : Int32)), .val (.int (2 : Int32))] [(.ref r347)])) rfl rfl (hb hby at_274) _ ?_
        rw [own_len (z := (2 : Int32)) S360 rfl]
        show Steps p.tables e below (T346.setTop (mkF m 275 #[.val (.int p0), .val (.int p1), .val (.int p2), .val (.int p3), .val (.int (3 : Int32)), .val (.int (own_e0 p1)), .val (.int (own_e1 p1 p2)), .val (.int (own_e2 p1 p2 p3)), .val (.ref b266), .val (.ref b301), .val (.ref r347), .val (.int (1 : Int32)), .val (.int (1 : Int32)), .val (.int (1 : Int32)), .val (.int (2 : Int32))] [(.int (2 : Int32))])) _
        refine XS.iload X346.here hx rfl (hb hby at_275) rfl ?_
        show Steps p.tables e below (T346.setTop (mkF m 277 #[.val (.int p0), .val (.int p1), .val (.int p2), .val (.int p3), .val (.int (3 : Int32)), .val (.int (own_e0 p1)), .val (.int (own_e1 p1 p2)), .val (.int (own_e2 p1 p2 p3)), .val (.ref b266), .val (.ref b301), .val (.ref r347), .val (.int (1 : Int32)), .val (.int (1 : Int32)), .val (.int (1 : Int32)), .val (.int (2 : Int32))] [(.int (2 : Int32)), (.int (2 : Int32))])) _
        refine XS.icmpYes X346.here hx rfl (pc0 := 277) (pc' := 282) rfl (hb hby at_277) rfl (teq (rfl : (2 : Int32) = (2 : Int32))).1 (by decide) (by decide) ?_
        show Steps p.tables e below (T346.setTop (mkF m 282 #[.val (.int p0), .val (.int p1), .val (.int p2), .val (.int p3), .val (.int (3 : Int32)), .val (.int (own_e0 p1)), .val (.int (own_e1 p1 p2)), .val (.int (own_e2 p1 p2 p3)), .val (.ref b266), .val (.ref b301), .val (.ref r347), .val (.int (1 : Int32)), .val (.int (1 : Int32)), .val (.int (1 : Int32)), .val (.int (2 : Int32))] [])) _
        refine XS.iload X346.here hx rfl (hb hby at_282) rfl ?_
        show Steps p.tables e below (T346.setTop (mkF m 284 #[.val (.int p0), .val (.int p1), .val (.int p2), .val (.int p3), .val (.int (3 : Int32)), .val (.int (own_e0 p1)), .val (.int (own_e1 p1 p2)), .val (.int (own_e2 p1 p2 p3)), .val (.ref b266), .val (.ref b301), .val (.ref r347), .val (.int (1 : Int32)), .val (.int (1 : Int32)), .val (.int (1 : Int32)), .val (.int (2 : Int32))] [(.int (2 : Int32))])) _
        refine XS.ifNo X346.here hx rfl (hb hby at_284) rfl ((if0 _ _).trans (tlt (by decide : (0 : Int32) < (2 : Int32))).2.2.2) ?_
        show Steps p.tables e below (T346.setTop (mkF m 287 #[.val (.int p0), .val (.int p1), .val (.int p2), .val (.int p3), .val (.int (3 : Int32)), .val (.int (own_e0 p1)), .val (.int (own_e1 p1 p2)), .val (.int (own_e2 p1 p2 p3)), .val (.ref b266), .val (.ref b301), .val (.ref r347), .val (.int (1 : Int32)), .val (.int (1 : Int32)), .val (.int (1 : Int32)), .val (.int (2 : Int32))] [])) _
        refine XS.iload X346.here hx rfl (hb hby at_287) rfl ?_
        show Steps p.tables e below (T346.setTop (mkF m 289 #[.val (.int p0), .val (.int p1), .val (.int p2), .val (.int p3), .val (.int (3 : Int32)), .val (.int (own_e0 p1)), .val (.int (own_e1 p1 p2)), .val (.int (own_e2 p1 p2 p3)), .val (.ref b266), .val (.ref b301), .val (.ref r347), .val (.int (1 : Int32)), .val (.int (1 : Int32)), .val (.int (1 : Int32)), .val (.int (2 : Int32))] [(.int (1 : Int32))])) _
        refine XS.ifNo X346.here hx rfl (hb hby at_289) rfl ((if0 _ _).trans (feq (by decide : ¬ ((1 : Int32) = (0 : Int32)))).1) ?_
        show Steps p.tables e below (T346.setTop (mkF m 292 #[.val (.int p0), .val (.int p1), .val (.int p2), .val (.int p3), .val (.int (3 : Int32)), .val (.int (own_e0 p1)), .val (.int (own_e1 p1 p2)), .val (.int (own_e2 p1 p2 p3)), .val (.ref b266), .val (.ref b301), .val (.ref r347), .val (.int (1 : Int32)), .val (.int (1 : Int32)), .val (.int (1 : Int32)), .val (.int (2 : Int32))] [])) _
        refine XS.aload X346.here hx rfl (hb hby at_292) rfl rfl ?_
        show Steps p.tables e below (T346.setTop (mkF m 294 #[.val (.int p0), .val (.int p1), .val (.int p2), .val (.int p3), .val (.int (3 : Int32)), .val (.int (own_e0 p1)), .val (.int (own_e1 p1 p2)), .val (.int (own_e2 p1 p2 p3)), .val (.ref b266), .val (.ref b301), .val (.ref r347), .val (.int (1 : Int32)), .val (.int (1 : Int32)), .val (.int (1 : Int32)), .val (.int (2 : Int32))] [(.ref r347)])) _
        refine XS.iconst X346.here hx rfl (hb hby at_294) ?_
        show Steps p.tables e below (T346.setTop (mkF m 295 #[.val (.int p0), .val (.int p1), .val (.int p2), .val (.int p3), .val (.int (3 : Int32)), .val (.int (own_e0 p1)), .val (.int (own_e1 p1 p2)), .val (.int (own_e2 p1 p2 p3)), .val (.ref b266), .val (.ref b301), .val (.ref r347), .val (.int (1 : Int32)), .val (.int (1 : Int32)), .val (.int (1 : Int32)), .val (.int (2 : Int32))] [(.int (0 : Int32)), (.ref r347)])) _
        refine X346.iaload hx (j := (0 : Int32)) (v := (.int ((own_e1 p1 p2) - (1 : Int32)))) Ar361.1 (State.isArrayOf_alike hZ.alike Ar361.2.1) Ar361.2.2 hin361 hat361 (g := (mkF m 295 #[.val (.int p0), .val (.int p1), .val (.int p2), .val (.int p3), .val (.int (3 : Int32)), .val (.int (own_e0 p1)), .val (.int (own_e1 p1 p2)), .val (.int (own_e2 p1 p2 p3)), .val (.ref b266), .val (.ref b301), .val (.ref r347), .val (.int (1 : Int32)), .val (.int (1 : Int32)), .val (.int (1 : Int32)), .val (.int (2 : Int32))] [(.int (0 : Int32)), (.ref r347)])) rfl rfl (hb hby at_295) _ ?_
        show Steps p.tables e below (T346.setTop (mkF m 296 #[.val (.int p0), .val (.int p1), .val (.int p2), .val (.int p3), .val (.int (3 : Int32)), .val (.int (own_e0 p1)), .val (.int (own_e1 p1 p2)), .val (.int (own_e2 p1 p2 p3)), .val (.ref b266), .val (.ref b301), .val (.ref r347), .val (.int (1 : Int32)), .val (.int (1 : Int32)), .val (.int (1 : Int32)), .val (.int (2 : Int32))] [(.int ((own_e1 p1 p2) - (1 : Int32)))])) _
        refine XS.aload X346.here hx rfl (hb hby at_296) rfl rfl ?_
        show Steps p.tables e below (T346.setTop (mkF m 298 #[.val (.int p0), .val (.int p1), .val (.int p2), .val (.int p3), .val (.int (3 : Int32)), .val (.int (own_e0 p1)), .val (.int (own_e1 p1 p2)), .val (.int (own_e2 p1 p2 p3)), .val (.ref b266), .val (.ref b301), .val (.ref r347), .val (.int (1 : Int32)), .val (.int (1 : Int32)), .val (.int (1 : Int32)), .val (.int (2 : Int32))] [(.ref b301), (.int ((own_e1 p1 p2) - (1 : Int32)))])) _
        refine XS.iload X346.here hx rfl (hb hby at_298) rfl ?_
        show Steps p.tables e below (T346.setTop (mkF m 300 #[.val (.int p0), .val (.int p1), .val (.int p2), .val (.int p3), .val (.int (3 : Int32)), .val (.int (own_e0 p1)), .val (.int (own_e1 p1 p2)), .val (.int (own_e2 p1 p2 p3)), .val (.ref b266), .val (.ref b301), .val (.ref r347), .val (.int (1 : Int32)), .val (.int (1 : Int32)), .val (.int (1 : Int32)), .val (.int (2 : Int32))] [(.int (1 : Int32)), (.ref b301), (.int ((own_e1 p1 p2) - (1 : Int32)))])) _
        refine X346.iaload hx (j := (1 : Int32)) (v := (.int (own_e1 p1 p2))) Ar362.1 (State.isArrayOf_alike hZ.alike Ar362.2.1) Ar362.2.2 hin362 hat362 (g := (mkF m 300 #[.val (.int p0), .val (.int p1), .val (.int p2), .val (.int p3), .val (.int (3 : Int32)), .val (.int (own_e0 p1)), .val (.int (own_e1 p1 p2)), .val (.int (own_e2 p1 p2 p3)), .val (.ref b266), .val (.ref b301), .val (.ref r347), .val (.int (1 : Int32)), .val (.int (1 : Int32)), .val (.int (1 : Int32)), .val (.int (2 : Int32))] [(.int (1 : Int32)), (.ref b301), (.int ((own_e1 p1 p2) - (1 : Int32)))])) rfl rfl (hb hby at_300) _ ?_
        show Steps p.tables e below (T346.setTop (mkF m 301 #[.val (.int p0), .val (.int p1), .val (.int p2), .val (.int p3), .val (.int (3 : Int32)), .val (.int (own_e0 p1)), .val (.int (own_e1 p1 p2)), .val (.int (own_e2 p1 p2 p3)), .val (.ref b266), .val (.ref b301), .val (.ref r347), .val (.int (1 : Int32)), .val (.int (1 : Int32)), .val (.int (1 : Int32)), .val (.int (2 : Int32))] [(.int (own_e1 p1 p2)), (.int ((own_e1 p1 p2) - (1 : Int32)))])) _
        refine XS.iconst X346.here hx rfl (hb hby at_301) ?_
        show Steps p.tables e below (T346.setTop (mkF m 302 #[.val (.int p0), .val (.int p1), .val (.int p2), .val (.int p3), .val (.int (3 : Int32)), .val (.int (own_e0 p1)), .val (.int (own_e1 p1 p2)), .val (.int (own_e2 p1 p2 p3)), .val (.ref b266), .val (.ref b301), .val (.ref r347), .val (.int (1 : Int32)), .val (.int (1 : Int32)), .val (.int (1 : Int32)), .val (.int (2 : Int32))] [(.int (1 : Int32)), (.int (own_e1 p1 p2)), (.int ((own_e1 p1 p2) - (1 : Int32)))])) _
        refine XS.isub X346.here hx rfl (hb hby at_302) rfl ?_
        show Steps p.tables e below (T346.setTop (mkF m 303 #[.val (.int p0), .val (.int p1), .val (.int p2), .val (.int p3), .val (.int (3 : Int32)), .val (.int (own_e0 p1)), .val (.int (own_e1 p1 p2)), .val (.int (own_e2 p1 p2 p3)), .val (.ref b266), .val (.ref b301), .val (.ref r347), .val (.int (1 : Int32)), .val (.int (1 : Int32)), .val (.int (1 : Int32)), .val (.int (2 : Int32))] [(.int ((own_e1 p1 p2) - (1 : Int32))), (.int ((own_e1 p1 p2) - (1 : Int32)))])) _
        refine XS.icmpNo X346.here hx rfl (hb hby at_303) rfl (teq (rfl : ((own_e1 p1 p2) - (1 : Int32)) = ((own_e1 p1 p2) - (1 : Int32)))).2 ?_
        show Steps p.tables e below (T346.setTop (mkF m 306 #[.val (.int p0), .val (.int p1), .val (.int p2), .val (.int p3), .val (.int (3 : Int32)), .val (.int (own_e0 p1)), .val (.int (own_e1 p1 p2)), .val (.int (own_e2 p1 p2 p3)), .val (.ref b266), .val (.ref b301), .val (.ref r347), .val (.int (1 : Int32)), .val (.int (1 : Int32)), .val (.int (1 : Int32)), .val (.int (2 : Int32))] [])) _
        refine XS.iconst X346.here hx rfl (hb hby at_306) ?_
        show Steps p.tables e below (T346.setTop (mkF m 307 #[.val (.int p0), .val (.int p1), .val (.int p2), .val (.int p3), .val (.int (3 : Int32)), .val (.int (own_e0 p1)), .val (.int (own_e1 p1 p2)), .val (.int (own_e2 p1 p2 p3)), .val (.ref b266), .val (.ref b301), .val (.ref r347), .val (.int (1 : Int32)), .val (.int (1 : Int32)), .val (.int (1 : Int32)), .val (.int (2 : Int32))] [(.int (1 : Int32))])) _
        refine XS.goto X346.here hx rfl (pc0 := 307) (pc' := 311) rfl (hb hby at_307) (by decide) (by decide) ?_
        show Steps p.tables e below (T346.setTop (mkF m 311 #[.val (.int p0), .val (.int p1), .val (.int p2), .val (.int p3), .val (.int (3 : Int32)), .val (.int (own_e0 p1)), .val (.int (own_e1 p1 p2)), .val (.int (own_e2 p1 p2 p3)), .val (.ref b266), .val (.ref b301), .val (.ref r347), .val (.int (1 : Int32)), .val (.int (1 : Int32)), .val (.int (1 : Int32)), .val (.int (2 : Int32))] [(.int (1 : Int32))])) _
        refine XS.istore X346.here hx rfl (hb hby at_311) rfl (l' := #[.val (.int p0), .val (.int p1), .val (.int p2), .val (.int p3), .val (.int (3 : Int32)), .val (.int (own_e0 p1)), .val (.int (own_e1 p1 p2)), .val (.int (own_e2 p1 p2 p3)), .val (.ref b266), .val (.ref b301), .val (.ref r347), .val (.int (1 : Int32)), .val (.int (1 : Int32)), .val (.int (1 : Int32)), .val (.int (2 : Int32))]) rfl ?_
        show Steps p.tables e below (T346.setTop (mkF m 313 #[.val (.int p0), .val (.int p1), .val (.int p2), .val (.int p3), .val (.int (3 : Int32)), .val (.int (own_e0 p1)), .val (.int (own_e1 p1 p2)), .val (.int (own_e2 p1 p2 p3)), .val (.ref b266), .val (.ref b301), .val (.ref r347), .val (.int (1 : Int32)), .val (.int (1 : Int32)), .val (.int (1 : Int32)), .val (.int (2 : Int32))] [])) _
        refine XS.iload X346.here hx rfl (hb hby at_313) rfl ?_
        show Steps p.tables e below (T346.setTop (mkF m 315 #[.val (.int p0), .val (.int p1), .val (.int p2), .val (.int p3), .val (.int (3 : Int32)), .val (.int (own_e0 p1)), .val (.int (own_e1 p1 p2)), .val (.int (own_e2 p1 p2 p3)), .val (.ref b266), .val (.ref b301), .val (.ref r347), .val (.int (1 : Int32)), .val (.int (1 : Int32)), .val (.int (1 : Int32)), .val (.int (2 : Int32))] [(.int (2 : Int32))])) _
        refine XS.iconst X346.here hx rfl (hb hby at_315) ?_
        show Steps p.tables e below (T346.setTop (mkF m 316 #[.val (.int p0), .val (.int p1), .val (.int p2), .val (.int p3), .val (.int (3 : Int32)), .val (.int (own_e0 p1)), .val (.int (own_e1 p1 p2)), .val (.int (own_e2 p1 p2 p3)), .val (.ref b266), .val (.ref b301), .val (.ref r347), .val (.int (1 : Int32)), .val (.int (1 : Int32)), .val (.int (1 : Int32)), .val (.int (2 : Int32))] [(.int (1 : Int32)), (.int (2 : Int32))])) _
        refine XS.icmpNo X346.here hx rfl (hb hby at_316) rfl (tlt (by decide : (1 : Int32) < (2 : Int32))).2.2.2 ?_
        show Steps p.tables e below (T346.setTop (mkF m 319 #[.val (.int p0), .val (.int p1), .val (.int p2), .val (.int p3), .val (.int (3 : Int32)), .val (.int (own_e0 p1)), .val (.int (own_e1 p1 p2)), .val (.int (own_e2 p1 p2 p3)), .val (.ref b266), .val (.ref b301), .val (.ref r347), .val (.int (1 : Int32)), .val (.int (1 : Int32)), .val (.int (1 : Int32)), .val (.int (2 : Int32))] [])) _
        refine XS.iload X346.here hx rfl (hb hby at_319) rfl ?_
        show Steps p.tables e below (T346.setTop (mkF m 321 #[.val (.int p0), .val (.int p1), .val (.int p2), .val (.int p3), .val (.int (3 : Int32)), .val (.int (own_e0 p1)), .val (.int (own_e1 p1 p2)), .val (.int (own_e2 p1 p2 p3)), .val (.ref b266), .val (.ref b301), .val (.ref r347), .val (.int (1 : Int32)), .val (.int (1 : Int32)), .val (.int (1 : Int32)), .val (.int (2 : Int32))] [(.int (1 : Int32))])) _
        refine XS.ifNo X346.here hx rfl (hb hby at_321) rfl ((if0 _ _).trans (feq (by decide : ¬ ((1 : Int32) = (0 : Int32)))).1) ?_
        show Steps p.tables e below (T346.setTop (mkF m 324 #[.val (.int p0), .val (.int p1), .val (.int p2), .val (.int p3), .val (.int (3 : Int32)), .val (.int (own_e0 p1)), .val (.int (own_e1 p1 p2)), .val (.int (own_e2 p1 p2 p3)), .val (.ref b266), .val (.ref b301), .val (.ref r347), .val (.int (1 : Int32)), .val (.int (1 : Int32)), .val (.int (1 : Int32)), .val (.int (2 : Int32))] [])) _
        refine XS.aload X346.here hx rfl (hb hby at_324) rfl rfl ?_
        show Steps p.tables e below (T346.setTop (mkF m 326 #[.val (.int p0), .val (.int p1), .val (.int p2), .val (.int p3), .val (.int (3 : Int32)), .val (.int (own_e0 p1)), .val (.int (own_e1 p1 p2)), .val (.int (own_e2 p1 p2 p3)), .val (.ref b266), .val (.ref b301), .val (.ref r347), .val (.int (1 : Int32)), .val (.int (1 : Int32)), .val (.int (1 : Int32)), .val (.int (2 : Int32))] [(.ref r347)])) _
        refine XS.iconst X346.here hx rfl (hb hby at_326) ?_
        show Steps p.tables e below (T346.setTop (mkF m 327 #[.val (.int p0), .val (.int p1), .val (.int p2), .val (.int p3), .val (.int (3 : Int32)), .val (.int (own_e0 p1)), .val (.int (own_e1 p1 p2)), .val (.int (own_e2 p1 p2 p3)), .val (.ref b266), .val (.ref b301), .val (.ref r347), .val (.int (1 : Int32)), .val (.int (1 : Int32)), .val (.int (1 : Int32)), .val (.int (2 : Int32))] [(.int (1 : Int32)), (.ref r347)])) _
        refine X346.iaload hx (j := (1 : Int32)) (v := (.int ((own_e2 p1 p2 p3) - (1 : Int32)))) Ar363.1 (State.isArrayOf_alike hZ.alike Ar363.2.1) Ar363.2.2 hin363 hat363 (g := (mkF m 327 #[.val (.int p0), .val (.int p1), .val (.int p2), .val (.int p3), .val (.int (3 : Int32)), .val (.int (own_e0 p1)), .val (.int (own_e1 p1 p2)), .val (.int (own_e2 p1 p2 p3)), .val (.ref b266), .val (.ref b301), .val (.ref r347), .val (.int (1 : Int32)), .val (.int (1 : Int32)), .val (.int (1 : Int32)), .val (.int (2 : Int32))] [(.int (1 : Int32)), (.ref r347)])) rfl rfl (hb hby at_327) _ ?_
        show Steps p.tables e below (T346.setTop (mkF m 328 #[.val (.int p0), .val (.int p1), .val (.int p2), .val (.int p3), .val (.int (3 : Int32)), .val (.int (own_e0 p1)), .val (.int (own_e1 p1 p2)), .val (.int (own_e2 p1 p2 p3)), .val (.ref b266), .val (.ref b301), .val (.ref r347), .val (.int (1 : Int32)), .val (.int (1 : Int32)), .val (.int (1 : Int32)), .val (.int (2 : Int32))] [(.int ((own_e2 p1 p2 p3) - (1 : Int32)))])) _
        refine XS.aload X346.here hx rfl (hb hby at_328) rfl rfl ?_
        show Steps p.tables e below (T346.setTop (mkF m 330 #[.val (.int p0), .val (.int p1), .val (.int p2), .val (.int p3), .val (.int (3 : Int32)), .val (.int (own_e0 p1)), .val (.int (own_e1 p1 p2)), .val (.int (own_e2 p1 p2 p3)), .val (.ref b266), .val (.ref b301), .val (.ref r347), .val (.int (1 : Int32)), .val (.int (1 : Int32)), .val (.int (1 : Int32)), .val (.int (2 : Int32))] [(.ref b301), (.int ((own_e2 p1 p2 p3) - (1 : Int32)))])) _
        refine XS.iload X346.here hx rfl (hb hby at_330) rfl ?_
        show Steps p.tables e below (T346.setTop (mkF m 332 #[.val (.int p0), .val (.int p1), .val (.int p2), .val (.int p3), .val (.int (3 : Int32)), .val (.int (own_e0 p1)), .val (.int (own_e1 p1 p2)), .val (.int (own_e2 p1 p2 p3)), .val (.ref b266), .val (.ref b301), .val (.ref r347), .val (.int (1 : Int32)), .val (.int (1 : Int32)), .val (.int (1 : Int32)), .val (.int (2 : Int32))] [(.int (1 : Int32)), (.ref b301), (.int ((own_e2 p1 p2 p3) - (1 : Int32)))])) _
        refine XS.iconst X346.here hx rfl (hb hby at_332) ?_
        show Steps p.tables e below (T346.setTop (mkF m 333 #[.val (.int p0), .val (.int p1), .val (.int p2), .val (.int p3), .val (.int (3 : Int32)), .val (.int (own_e0 p1)), .val (.int (own_e1 p1 p2)), .val (.int (own_e2 p1 p2 p3)), .val (.ref b266), .val (.ref b301), .val (.ref r347), .val (.int (1 : Int32)), .val (.int (1 : Int32)), .val (.int (1 : Int32)), .val (.int (2 : Int32))] [(.int (1 : Int32)), (.int (1 : Int32)), (.ref b301), (.int ((own_e2 p1 p2 p3) - (1 : Int32)))])) _
        refine XS.iadd X346.here hx rfl (hb hby at_333) rfl ?_
        show Steps p.tables e below (T346.setTop (mkF m 334 #[.val (.int p0), .val (.int p1), .val (.int p2), .val (.int p3), .val (.int (3 : Int32)), .val (.int (own_e0 p1)), .val (.int (own_e1 p1 p2)), .val (.int (own_e2 p1 p2 p3)), .val (.ref b266), .val (.ref b301), .val (.ref r347), .val (.int (1 : Int32)), .val (.int (1 : Int32)), .val (.int (1 : Int32)), .val (.int (2 : Int32))] [(.int (2 : Int32)), (.ref b301), (.int ((own_e2 p1 p2 p3) - (1 : Int32)))])) _
        refine X346.iaload hx (j := (2 : Int32)) (v := (.int (own_e2 p1 p2 p3))) Ar364.1 (State.isArrayOf_alike hZ.alike Ar364.2.1) Ar364.2.2 hin364 hat364 (g := (mkF m 334 #[.val (.int p0), .val (.int p1), .val (.int p2), .val (.int p3), .val (.int (3 : Int32)), .val (.int (own_e0 p1)), .val (.int (own_e1 p1 p2)), .val (.int (own_e2 p1 p2 p3)), .val (.ref b266), .val (.ref b301), .val (.ref r347), .val (.int (1 : Int32)), .val (.int (1 : Int32)), .val (.int (1 : Int32)), .val (.int (2 : Int32))] [(.int (2 : Int32)), (.ref b301), (.int ((own_e2 p1 p2 p3) - (1 : Int32)))])) rfl rfl (hb hby at_334) _ ?_
        show Steps p.tables e below (T346.setTop (mkF m 335 #[.val (.int p0), .val (.int p1), .val (.int p2), .val (.int p3), .val (.int (3 : Int32)), .val (.int (own_e0 p1)), .val (.int (own_e1 p1 p2)), .val (.int (own_e2 p1 p2 p3)), .val (.ref b266), .val (.ref b301), .val (.ref r347), .val (.int (1 : Int32)), .val (.int (1 : Int32)), .val (.int (1 : Int32)), .val (.int (2 : Int32))] [(.int (own_e2 p1 p2 p3)), (.int ((own_e2 p1 p2 p3) - (1 : Int32)))])) _
        refine XS.iconst X346.here hx rfl (hb hby at_335) ?_
        show Steps p.tables e below (T346.setTop (mkF m 336 #[.val (.int p0), .val (.int p1), .val (.int p2), .val (.int p3), .val (.int (3 : Int32)), .val (.int (own_e0 p1)), .val (.int (own_e1 p1 p2)), .val (.int (own_e2 p1 p2 p3)), .val (.ref b266), .val (.ref b301), .val (.ref r347), .val (.int (1 : Int32)), .val (.int (1 : Int32)), .val (.int (1 : Int32)), .val (.int (2 : Int32))] [(.int (1 : Int32)), (.int (own_e2 p1 p2 p3)), (.int ((own_e2 p1 p2 p3) - (1 : Int32)))])) _
        refine XS.isub X346.here hx rfl (hb hby at_336) rfl ?_
        show Steps p.tables e below (T346.setTop (mkF m 337 #[.val (.int p0), .val (.int p1), .val (.int p2), .val (.int p3), .val (.int (3 : Int32)), .val (.int (own_e0 p1)), .val (.int (own_e1 p1 p2)), .val (.int (own_e2 p1 p2 p3)), .val (.ref b266), .val (.ref b301), .val (.ref r347), .val (.int (1 : Int32)), .val (.int (1 : Int32)), .val (.int (1 : Int32)), .val (.int (2 : Int32))] [(.int ((own_e2 p1 p2 p3) - (1 : Int32))), (.int ((own_e2 p1 p2 p3) - (1 : Int32)))])) _
        refine XS.icmpNo X346.here hx rfl (hb hby at_337) rfl (teq (rfl : ((own_e2 p1 p2 p3) - (1 : Int32)) = ((own_e2 p1 p2 p3) - (1 : Int32)))).2 ?_
        show Steps p.tables e below (T346.setTop (mkF m 340 #[.val (.int p0), .val (.int p1), .val (.int p2), .val (.int p3), .val (.int (3 : Int32)), .val (.int (own_e0 p1)), .val (.int (own_e1 p1 p2)), .val (.int (own_e2 p1 p2 p3)), .val (.ref b266), .val (.ref b301), .val (.ref r347), .val (.int (1 : Int32)), .val (.int (1 : Int32)), .val (.int (1 : Int32)), .val (.int (2 : Int32))] [])) _
        refine XS.iconst X346.here hx rfl (hb hby at_340) ?_
        show Steps p.tables e below (T346.setTop (mkF m 341 #[.val (.int p0), .val (.int p1), .val (.int p2), .val (.int p3), .val (.int (3 : Int32)), .val (.int (own_e0 p1)), .val (.int (own_e1 p1 p2)), .val (.int (own_e2 p1 p2 p3)), .val (.ref b266), .val (.ref b301), .val (.ref r347), .val (.int (1 : Int32)), .val (.int (1 : Int32)), .val (.int (1 : Int32)), .val (.int (2 : Int32))] [(.int (1 : Int32))])) _
        refine XS.goto X346.here hx rfl (pc0 := 341) (pc' := 345) rfl (hb hby at_341) (by decide) (by decide) ?_
        show Steps p.tables e below (T346.setTop (mkF m 345 #[.val (.int p0), .val (.int p1), .val (.int p2), .val (.int p3), .val (.int (3 : Int32)), .val (.int (own_e0 p1)), .val (.int (own_e1 p1 p2)), .val (.int (own_e2 p1 p2 p3)), .val (.ref b266), .val (.ref b301), .val (.ref r347), .val (.int (1 : Int32)), .val (.int (1 : Int32)), .val (.int (1 : Int32)), .val (.int (2 : Int32))] [(.int (1 : Int32))])) _
        refine XS.istore X346.here hx rfl (hb hby at_345) rfl (l' := #[.val (.int p0), .val (.int p1), .val (.int p2), .val (.int p3), .val (.int (3 : Int32)), .val (.int (own_e0 p1)), .val (.int (own_e1 p1 p2)), .val (.int (own_e2 p1 p2 p3)), .val (.ref b266), .val (.ref b301), .val (.ref r347), .val (.int (1 : Int32)), .val (.int (1 : Int32)), .val (.int (1 : Int32)), .val (.int (2 : Int32))]) rfl ?_
        show Steps p.tables e below (T346.setTop (mkF m 347 #[.val (.int p0), .val (.int p1), .val (.int p2), .val (.int p3), .val (.int (3 : Int32)), .val (.int (own_e0 p1)), .val (.int (own_e1 p1 p2)), .val (.int (own_e2 p1 p2 p3)), .val (.ref b266), .val (.ref b301), .val (.ref r347), .val (.int (1 : Int32)), .val (.int (1 : Int32)), .val (.int (1 : Int32)), .val (.int (2 : Int32))] [])) _
        refine XS.iload X346.here hx rfl (hb hby at_347) rfl ?_
        show Steps p.tables e below (T346.setTop (mkF m 349 #[.val (.int p0), .val (.int p1), .val (.int p2), .val (.int p3), .val (.int (3 : Int32)), .val (.int (own_e0 p1)), .val (.int (own_e1 p1 p2)), .val (.int (own_e2 p1 p2 p3)), .val (.ref b266), .val (.ref b301), .val (.ref r347), .val (.int (1 : Int32)), .val (.int (1 : Int32)), .val (.int (1 : Int32)), .val (.int (2 : Int32))] [(.int (2 : Int32))])) _
        refine XS.iconst X346.here hx rfl (hb hby at_349) ?_
        show Steps p.tables e below (T346.setTop (mkF m 350 #[.val (.int p0), .val (.int p1), .val (.int p2), .val (.int p3), .val (.int (3 : Int32)), .val (.int (own_e0 p1)), .val (.int (own_e1 p1 p2)), .val (.int (own_e2 p1 p2 p3)), .val (.ref b266), .val (.ref b301), .val (.ref r347), .val (.int (1 : Int32)), .val (.int (1 : Int32)), .val (.int (1 : Int32)), .val (.int (2 : Int32))] [(.int (2 : Int32)), (.int (2 : Int32))])) _
        refine XS.icmpYes X346.here hx rfl (pc0 := 350) (pc' := 381) rfl (hb hby at_350) rfl (flt (by decide : ¬ ((2 : Int32) < (2 : Int32)))).2.2.2 (by decide) (by decide) ?_
        show Steps p.tables e below (T346.setTop (mkF m 381 #[.val (.int p0), .val (.int p1), .val (.int p2), .val (.int p3), .val (.int (3 : Int32)), .val (.int (own_e0 p1)), .val (.int (own_e1 p1 p2)), .val (.int (own_e2 p1 p2 p3)), .val (.ref b266), .val (.ref b301), .val (.ref r347), .val (.int (1 : Int32)), .val (.int (1 : Int32)), .val (.int (1 : Int32)), .val (.int (2 : Int32))] [])) _
        refine XS.iload X346.here hx rfl (hb hby at_381) rfl ?_
        exact kt
      obtain ⟨fs, hr, hrun, hended, hW, hsame⟩ := X346.leave (v := some (.int (1 : Int32))) (fun h => by rw [Bd.returns] at h; cases h)
      refine ⟨_, _, pre365 _ ?_, hrun, hended, _, _, rfl, ?_, ⟨_, rfl⟩, hW, hsame.mono (by decide) (by decide)⟩
      · show Steps p.tables e below (T346.setTop (mkF m 383 #[.val (.int p0), .val (.int p1), .val (.int p2), .val (.int p3), .val (.int (3 : Int32)), .val (.int (own_e0 p1)), .val (.int (own_e1 p1 p2)), .val (.int (own_e2 p1 p2 p3)), .val (.ref b266), .val (.ref b301), .val (.ref r347), .val (.int (1 : Int32)), .val (.int (1 : Int32)), .val (.int (1 : Int32)), .val (.int (2 : Int32))] [(.int (1 : Int32))])) _
        exact retN X346 hx (t := .boolean) Bd.returns (by simp) (hb hby at_383) hr
      · show own_Q_law Z p0 p1 p2 p3 aS h0 n0 (some (.int (1 : Int32))) T346.heap _
        skip
        exact ⟨rfl, nf355⟩
    · skip
      have zs366 : n0 ≤ h333.size := Nat.le_trans Z0 k340.1
      obtain ⟨_, _, ⟨T367, L367, k367, n367⟩, -, X367, ⟨Lc367, hQ367, l367, y367, z367⟩, st367⟩ := Jvm.LawKit.callS X333 hx (y := (⟨"com/example/unfold/unfold/semantics/GateSets", "outsideHide", "([I)[I"⟩ : MethodName)) hown (mvT hZ (hw _ (List.mem_of_getElem? (i := 3) rfl))) (mvT hZ (hw _ (List.mem_of_getElem? (i := 4) rfl))) (mvT hZ (hw _ (List.mem_of_getElem? (i := 5) rfl))) (mvT hZ (hw _ (List.mem_of_getElem? (i := 6) rfl))) (by decide) (backOf (W := 0) (own_rm_oh3n l Z a0 hw [] b266 (own_e0 p1) (own_e1 p1 p2) (own_e2 p1 p2 p3) h333 n0 zs366 f337 hz0) hZ (hw _ (List.mem_of_getElem? (i := 6) rfl)) (hw _ (List.mem_of_getElem? (i := 5) rfl)) (by decide) (by decide)) (g := (mkF m 131 #[.val (.int p0), .val (.int p1), .val (.int p2), .val (.int p3), .val (.int (3 : Int32)), .val (.int (own_e0 p1)), .val (.int (own_e1 p1 p2)), .val (.int (own_e2 p1 p2 p3)), .val (.ref b266), .val (.ref b301), .unset, .unset, .unset, .unset, .unset] [(.ref b266)])) rfl (by rw [hml]; rfl) (argsL := [(.ref b266)]) (rest := []) (lenOf own_pd0 rfl) rfl (by show 2 * 0 + _ ≤ _; exact Nat.le_of_eq rfl) (hb hby at_131) (fun _ _ => ⟨rfl, e333, (by decide : 2 + 1 ≤ _), (by decide : 6 + 3 ≤ _)⟩)
      dsimp only [Pt.U, Pt.locs, Pt.cells, Pt.slots] at X367 l367 y367 z367 st367 hQ367
      subst l367 y367 z367
      obtain ⟨r368, rfl, N368, K368, c368_0, c368_1⟩ := hQ367
      have sz_r368 : h0.size ≤ r368 := Nat.le_trans k340.1 c368_0
      have gn_r368 : n0 ≤ r368 := Nat.le_trans Z0 sz_r368
      have ne_aS_r368 : aS ≠ r368 := Nat.ne_of_lt (Nat.lt_of_lt_of_le f335.lt c368_0)
      have ne_b266_r368 : b266 ≠ r368 := Nat.ne_of_lt (Nat.lt_of_lt_of_le f337.lt c368_0)
      have ne_b301_r368 : b301 ≠ r368 := Nat.ne_of_lt (Nat.lt_of_lt_of_le f343.lt c368_0)
      have f369 := own_sta_keep f334 K368 all0
      have f370 := f335.keep K368 nin0
      have f371 := f336.keep K368
      have f372 := f337.keep K368 nin0
      have f373 := f338.keep K368
      have f374 := f343.keep K368 nin0
      have k375 := k340.trans K368 all0
      have nf376 := Fr.app nf341 N368
      obtain ⟨cl377, Ar377, S377, -⟩ := id f372
      obtain ⟨cl378, Ar378, S378, H378⟩ := id f372
      have hin378 : ¬ ((0 : Int32) < 0 ∨ cl378.slots.size ≤ ((0 : Int32)).toNatClampNeg) := own_inb S378 (by decide) (by decide)
      have hat378 : cl378.slots[((0 : Int32)).toNatClampNeg]? = some (.int (own_e0 p1)) := H378 _ (by decide)
      obtain ⟨cl379, Ar379, S379, H379⟩ := id f372
      have hin379 : ¬ ((1 : Int32) < 0 ∨ cl379.slots.size ≤ ((1 : Int32)).toNatClampNeg) := own_inb S379 (by decide) (by decide)
      have hat379 : cl379.slots[((1 : Int32)).toNatClampNeg]? = some (.int (own_e1 p1 p2)) := H379 _ (by decide)
      obtain ⟨cl380, Ar380, S380, H380⟩ := id f372
      have hin380 : ¬ ((2 : Int32) < 0 ∨ cl380.slots.size ≤ ((2 : Int32)).toNatClampNeg) := own_inb S380 (by decide) (by decide)
      have hat380 : cl380.slots[((2 : Int32)).toNatClampNeg]? = some (.int (own_e2 p1 p2 p3)) := H380 _ (by decide)
      obtain ⟨cl381, Ar381, S381, -⟩ := id c368_1
      obtain ⟨cl382, Ar382, S382, H382⟩ := id c368_1
      have hin382 : ¬ ((0 : Int32) < 0 ∨ cl382.slots.size ≤ ((0 : Int32)).toNatClampNeg) := own_inb S382 (by decide) (by decide)
      have hat382 : cl382.slots[((0 : Int32)).toNatClampNeg]? = some (.int ((own_e0 p1) - (1 : Int32))) := H382 _ (by decide)
      obtain ⟨cl383, Ar383, S383, H383⟩ := id f374
      have hin383 : ¬ ((0 : Int32) < 0 ∨ cl383.slots.size ≤ ((0 : Int32)).toNatClampNeg) := own_inb S383 (by decide) (by decide)
      have hat383 : cl383.slots[((0 : Int32)).toNatClampNeg]? = some (.int (own_e0 p1)) := H383 _ (by decide)
      obtain ⟨cl384, Ar384, S384, H384⟩ := id c368_1
      have hin384 : ¬ ((1 : Int32) < 0 ∨ cl384.slots.size ≤ ((1 : Int32)).toNatClampNeg) := own_inb S384 (by decide) (by decide)
      have hat384 : cl384.slots[((1 : Int32)).toNatClampNeg]? = some (.int ((own_e1 p1 p2) - (1 : Int32))) := H384 _ (by decide)
      obtain ⟨cl385, Ar385, S385, H385⟩ := id f374
      have hin385 : ¬ ((1 : Int32) < 0 ∨ cl385.slots.size ≤ ((1 : Int32)).toNatClampNeg) := own_inb S385 (by decide) (by decide)
      have hat385 : cl385.slots[((1 : Int32)).toNatClampNeg]? = some (.int (own_e1 p1 p2)) := H385 _ (by decide)
      obtain ⟨cl386, Ar386, S386, H386⟩ := id c368_1
      have hin386 : ¬ ((2 : Int32) < 0 ∨ cl386.slots.size ≤ ((2 : Int32)).toNatClampNeg) := own_inb S386 (by decide) (by decide)
      have hat386 : cl386.slots[((2 : Int32)).toNatClampNeg]? = some (.int ((own_e2 p1 p2 p3) - (1 : Int32))) := H386 _ (by decide)
      obtain ⟨cl387, Ar387, S387, H387⟩ := id f374
      have hin387 : ¬ ((2 : Int32) < 0 ∨ cl387.slots.size ≤ ((2 : Int32)).toNatClampNeg) := own_inb S387 (by decide) (by decide)
      have hat387 : cl387.slots[((2 : Int32)).toNatClampNeg]? = some (.int (own_e2 p1 p2 p3)) := H387 _ (by decide)
      have pre388 : ∀ t, Steps p.tables e below (T367.setTop (mkF m 383 #[.val (.int p0), .val (.int p1), .val (.int p2), .val (.int p3), .val (.int (3 : Int32)), .val (.int (own_e0 p1)), .val (.int (own_e1 p1 p2)), .val (.int (own_e2 p1 p2 p3)), .val (.ref b266), .val (.ref b301), .val (.ref r368), .val (.int (1 : Int32)), .val (.int (0 : Int32)), .val (.int (0 : Int32)), .val (.int (3 : Int32))] [(.int (1 : Int32))])) t → Steps p.tables e below (s₁.setTop (entryFrame m #[(.int p0), (.int p1), (.int p2), (.int p3)] maxLocals)) t := by
        intro t kt
        refine pre344 t ?_
        show Steps p.tables e below (T333.setTop (mkF m 129 #[.val (.int p0), .val (.int p1), .val (.int p2), .val (.int p3), .val (.int (3 : Int32)), .val (.int (own_e0 p1)), .val (.int (own_e1 p1 p2)), .val (.int (own_e2 p1 p2 p3)), .val (.ref b266), .val (.ref b301), .unset, .unset, .unset, .unset, .unset] [])) _
        refine XS.aload X333.here hx rfl (hb hby at_129) rfl rfl ?_
        show Steps p.tables e below (T333.setTop (mkF m 131 #[.val (.int p0), .val (.int p1), .val (.int p2), .val (.int p3), .val (.int (3 : Int32)), .val (.int (own_e0 p1)), .val (.int (own_e1 p1 p2)), .val (.int (own_e2 p1 p2 p3)), .val (.ref b266), .val (.ref b301), .unset, .unset, .unset, .unset, .unset] [(.ref b266)])) _
        refine st367 _ ?_
        show Steps p.tables e below (T367.setTop (mkF m 134 #[.val (.int p0), .val (.int p1), .val (.int p2), .val (.int p3), .val (.int (3 : Int32)), .val (.int (own_e0 p1)), .val (.int (own_e1 p1 p2)), .val (.int (own_e2 p1 p2 p3)), .val (.ref b266), .val (.ref b301), .unset, .unset, .unset, .unset, .unset] [(.ref r368)])) _
        refine XS.astore X367.here hx rfl (hb hby at_134) rfl rfl (l' := #[.val (.int p0), .val (.int p1), .val (.int p2), .val (.int p3), .val (.int (3 : Int32)), .val (.int (own_e0 p1)), .val (.int (own_e1 p1 p2)), .val (.int (own_e2 p1 p2 p3)), .val (.ref b266), .val (.ref b301), .val (.ref r368), .unset, .unset, .unset, .unset]) rfl ?_
        show Steps p.tables e below (T367.setTop (mkF m 136 #[.val (.int p0), .val (.int p1), .val (.int p2), .val (.int p3), .val (.int (3 : Int32)), .val (.int (own_e0 p1)), .val (.int (own_e1 p1 p2)), .val (.int (own_e2 p1 p2 p3)), .val (.ref b266), .val (.ref b301), .val (.ref r368), .unset, .unset, .unset, .unset] [])) _
        refine XS.aload X367.here hx rfl (hb hby at_136) rfl rfl ?_
        show Steps p.tables e below (T367.setTop (mkF m 138 #[.val (.int p0), .val (.int p1), .val (.int p2), .val (.int p3), .val (.int (3 : Int32)), .val (.int (own_e0 p1)), .val (.int (own_e1 p1 p2)), .val (.int (own_e2 p1 p2 p3)), .val (.ref b266), .val (.ref b301), .val (.ref r368), .unset, .unset, .unset, .unset] [(.ref b266)])) _
        refine X367.arraylength hx Ar377.1 (State.isArrayOf_alike hZ.alike Ar377.2.1) (g := (mkF m 138 #[.val (.int p0), .val (.int p1), .val (.int p2), .val (.int p3), .val (.int (3 : Int32)), .val (.int (own_e0 p1)), .val (.int (own_e1 p1 p2)), .val (.int (own_e2 p1 p2 p3)), .val (.ref b266), .val (.ref b301), .val (.ref r368), .unset, .unset, .unset, .unset] [(.ref b266)])) rfl rfl (hb hby at_138) _ ?_
        rw [own_len (z := (3 : Int32)) S377 rfl]
        show Steps p.tables e below (T367.setTop (mkF m 139 #[.val (.int p0), .val (.int p1), .val (.int p2), .val (.int p3), .val (.int (3 : Int32)), .val (.int (own_e0 p1)), .val (.int (own_e1 p1 p2)), .val (.int (own_e2 p1 p2 p3)), .val (.ref b266), .val (.ref b301), .val (.ref r368), .unset, .unset, .unset, .unset] [(.int (3 : Int32))])) _
        refine XS.iload X367.here hx rfl (hb hby at_139) rfl ?_
        show Steps p.tables e below (T367.setTop (mkF m 141 #[.val (.int p0), .val (.int p1), .val (.int p2), .val (.int p3), .val (.int (3 : Int32)), .val (.int (own_e0 p1)), .val (.int (own_e1 p1 p2)), .val (.int (own_e2 p1 p2 p3)), .val (.ref b266), .val (.ref b301), .val (.ref r368), .unset, .unset, .unset, .unset] [(.int (3 : Int32)), (.int (3 : Int32))])) _
        refine XS.icmpNo X367.here hx rfl (hb hby at_141) rfl (teq (rfl : (3 : Int32) = (3 : Int32))).2 ?_
        show Steps p.tables e below (T367.setTop (mkF m 144 #[.val (.int p0), .val (.int p1), .val (.int p2), .val (.int p3), .val (.int (3 : Int32)), .val (.int (own_e0 p1)), .val (.int (own_e1 p1 p2)), .val (.int (own_e2 p1 p2 p3)), .val (.ref b266), .val (.ref b301), .val (.ref r368), .unset, .unset, .unset, .unset] [])) _
        refine XS.iconst X367.here hx rfl (hb hby at_144) ?_
        show Steps p.tables e below (T367.setTop (mkF m 145 #[.val (.int p0), .val (.int p1), .val (.int p2), .val (.int p3), .val (.int (3 : Int32)), .val (.int (own_e0 p1)), .val (.int (own_e1 p1 p2)), .val (.int (own_e2 p1 p2 p3)), .val (.ref b266), .val (.ref b301), .val (.ref r368), .unset, .unset, .unset, .unset] [(.int (1 : Int32))])) _
        refine XS.goto X367.here hx rfl (pc0 := 145) (pc' := 149) rfl (hb hby at_145) (by decide) (by decide) ?_
        show Steps p.tables e below (T367.setTop (mkF m 149 #[.val (.int p0), .val (.int p1), .val (.int p2), .val (.int p3), .val (.int (3 : Int32)), .val (.int (own_e0 p1)), .val (.int (own_e1 p1 p2)), .val (.int (own_e2 p1 p2 p3)), .val (.ref b266), .val (.ref b301), .val (.ref r368), .unset, .unset, .unset, .unset] [(.int (1 : Int32))])) _
        refine XS.istore X367.here hx rfl (hb hby at_149) rfl (l' := #[.val (.int p0), .val (.int p1), .val (.int p2), .val (.int p3), .val (.int (3 : Int32)), .val (.int (own_e0 p1)), .val (.int (own_e1 p1 p2)), .val (.int (own_e2 p1 p2 p3)), .val (.ref b266), .val (.ref b301), .val (.ref r368), .val (.int (1 : Int32)), .unset, .unset, .unset]) rfl ?_
        show Steps p.tables e below (T367.setTop (mkF m 151 #[.val (.int p0), .val (.int p1), .val (.int p2), .val (.int p3), .val (.int (3 : Int32)), .val (.int (own_e0 p1)), .val (.int (own_e1 p1 p2)), .val (.int (own_e2 p1 p2 p3)), .val (.ref b266), .val (.ref b301), .val (.ref r368), .val (.int (1 : Int32)), .unset, .unset, .unset] [])) _
        refine XS.iload X367.here hx rfl (hb hby at_151) rfl ?_
        show Steps p.tables e below (T367.setTop (mkF m 153 #[.val (.int p0), .val (.int p1), .val (.int p2), .val (.int p3), .val (.int (3 : Int32)), .val (.int (own_e0 p1)), .val (.int (own_e1 p1 p2)), .val (.int (own_e2 p1 p2 p3)), .val (.ref b266), .val (.ref b301), .val (.ref r368), .val (.int (1 : Int32)), .unset, .unset, .unset] [(.int (3 : Int32))])) _
        refine XS.ifNo X367.here hx rfl (hb hby at_153) rfl ((if0 _ _).trans (tlt (by decide : (0 : Int32) < (3 : Int32))).2.2.2) ?_
        show Steps p.tables e below (T367.setTop (mkF m 156 #[.val (.int p0), .val (.int p1), .val (.int p2), .val (.int p3), .val (.int (3 : Int32)), .val (.int (own_e0 p1)), .val (.int (own_e1 p1 p2)), .val (.int (own_e2 p1 p2 p3)), .val (.ref b266), .val (.ref b301), .val (.ref r368), .val (.int (1 : Int32)), .unset, .unset, .unset] [])) _
        refine XS.iload X367.here hx rfl (hb hby at_156) rfl ?_
        show Steps p.tables e below (T367.setTop (mkF m 158 #[.val (.int p0), .val (.int p1), .val (.int p2), .val (.int p3), .val (.int (3 : Int32)), .val (.int (own_e0 p1)), .val (.int (own_e1 p1 p2)), .val (.int (own_e2 p1 p2 p3)), .val (.ref b266), .val (.ref b301), .val (.ref r368), .val (.int (1 : Int32)), .unset, .unset, .unset] [(.int (1 : Int32))])) _
        refine XS.ifNo X367.here hx rfl (hb hby at_158) rfl ((if0 _ _).trans (feq (by decide : ¬ ((1 : Int32) = (0 : Int32)))).1) ?_
        show Steps p.tables e below (T367.setTop (mkF m 161 #[.val (.int p0), .val (.int p1), .val (.int p2), .val (.int p3), .val (.int (3 : Int32)), .val (.int (own_e0 p1)), .val (.int (own_e1 p1 p2)), .val (.int (own_e2 p1 p2 p3)), .val (.ref b266), .val (.ref b301), .val (.ref r368), .val (.int (1 : Int32)), .unset, .unset, .unset] [])) _
        refine XS.aload X367.here hx rfl (hb hby at_161) rfl rfl ?_
        show Steps p.tables e below (T367.setTop (mkF m 163 #[.val (.int p0), .val (.int p1), .val (.int p2), .val (.int p3), .val (.int (3 : Int32)), .val (.int (own_e0 p1)), .val (.int (own_e1 p1 p2)), .val (.int (own_e2 p1 p2 p3)), .val (.ref b266), .val (.ref b301), .val (.ref r368), .val (.int (1 : Int32)), .unset, .unset, .unset] [(.ref b266)])) _
        refine XS.iconst X367.here hx rfl (hb hby at_163) ?_
        show Steps p.tables e below (T367.setTop (mkF m 164 #[.val (.int p0), .val (.int p1), .val (.int p2), .val (.int p3), .val (.int (3 : Int32)), .val (.int (own_e0 p1)), .val (.int (own_e1 p1 p2)), .val (.int (own_e2 p1 p2 p3)), .val (.ref b266), .val (.ref b301), .val (.ref r368), .val (.int (1 : Int32)), .unset, .unset, .unset] [(.int (0 : Int32)), (.ref b266)])) _
        refine X367.iaload hx (j := (0 : Int32)) (v := (.int (own_e0 p1))) Ar378.1 (State.isArrayOf_alike hZ.alike Ar378.2.1) Ar378.2.2 hin378 hat378 (g := (mkF m 164 #[.val (.int p0), .val (.int p1), .val (.int p2), .val (.int p3), .val (.int (3 : Int32)), .val (.int (own_e0 p1)), .val (.int (own_e1 p1 p2)), .val (.int (own_e2 p1 p2 p3)), .val (.ref b266), .val (.ref b301), .val (.ref r368), .val (.int (1 : Int32)), .unset, .unset, .unset] [(.int (0 : Int32)), (.ref b266)])) rfl rfl (hb hby at_164) _ ?_
        show Steps p.tables e below (T367.setTop (mkF m 165 #[.val (.int p0), .val (.int p1), .val (.int p2), .val (.int p3), .val (.int (3 : Int32)), .val (.int (own_e0 p1)), .val (.int (own_e1 p1 p2)), .val (.int (own_e2 p1 p2 p3)), .val (.ref b266), .val (.ref b301), .val (.ref r368), .val (.int (1 : Int32)), .unset, .unset, .unset] [(.int (own_e0 p1))])) _
        refine XS.iload X367.here hx rfl (hb hby at_165) rfl ?_
        show Steps p.tables e below (T367.setTop (mkF m 167 #[.val (.int p0), .val (.int p1), .val (.int p2), .val (.int p3), .val (.int (3 : Int32)), .val (.int (own_e0 p1)), .val (.int (own_e1 p1 p2)), .val (.int (own_e2 p1 p2 p3)), .val (.ref b266), .val (.ref b301), .val (.ref r368), .val (.int (1 : Int32)), .unset, .unset, .unset] [(.int (own_e0 p1)), (.int (own_e0 p1))])) _
        refine XS.icmpNo X367.here hx rfl (hb hby at_167) rfl (teq (rfl : (own_e0 p1) = (own_e0 p1))).2 ?_
        show Steps p.tables e below (T367.setTop (mkF m 170 #[.val (.int p0), .val (.int p1), .val (.int p2), .val (.int p3), .val (.int (3 : Int32)), .val (.int (own_e0 p1)), .val (.int (own_e1 p1 p2)), .val (.int (own_e2 p1 p2 p3)), .val (.ref b266), .val (.ref b301), .val (.ref r368), .val (.int (1 : Int32)), .unset, .unset, .unset] [])) _
        refine XS.iconst X367.here hx rfl (hb hby at_170) ?_
        show Steps p.tables e below (T367.setTop (mkF m 171 #[.val (.int p0), .val (.int p1), .val (.int p2), .val (.int p3), .val (.int (3 : Int32)), .val (.int (own_e0 p1)), .val (.int (own_e1 p1 p2)), .val (.int (own_e2 p1 p2 p3)), .val (.ref b266), .val (.ref b301), .val (.ref r368), .val (.int (1 : Int32)), .unset, .unset, .unset] [(.int (1 : Int32))])) _
        refine XS.goto X367.here hx rfl (pc0 := 171) (pc' := 175) rfl (hb hby at_171) (by decide) (by decide) ?_
        show Steps p.tables e below (T367.setTop (mkF m 175 #[.val (.int p0), .val (.int p1), .val (.int p2), .val (.int p3), .val (.int (3 : Int32)), .val (.int (own_e0 p1)), .val (.int (own_e1 p1 p2)), .val (.int (own_e2 p1 p2 p3)), .val (.ref b266), .val (.ref b301), .val (.ref r368), .val (.int (1 : Int32)), .unset, .unset, .unset] [(.int (1 : Int32))])) _
        refine XS.istore X367.here hx rfl (hb hby at_175) rfl (l' := #[.val (.int p0), .val (.int p1), .val (.int p2), .val (.int p3), .val (.int (3 : Int32)), .val (.int (own_e0 p1)), .val (.int (own_e1 p1 p2)), .val (.int (own_e2 p1 p2 p3)), .val (.ref b266), .val (.ref b301), .val (.ref r368), .val (.int (1 : Int32)), .unset, .unset, .unset]) rfl ?_
        show Steps p.tables e below (T367.setTop (mkF m 177 #[.val (.int p0), .val (.int p1), .val (.int p2), .val (.int p3), .val (.int (3 : Int32)), .val (.int (own_e0 p1)), .val (.int (own_e1 p1 p2)), .val (.int (own_e2 p1 p2 p3)), .val (.ref b266), .val (.ref b301), .val (.ref r368), .val (.int (1 : Int32)), .unset, .unset, .unset] [])) _
        refine XS.iload X367.here hx rfl (hb hby at_177) rfl ?_
        show Steps p.tables e below (T367.setTop (mkF m 179 #[.val (.int p0), .val (.int p1), .val (.int p2), .val (.int p3), .val (.int (3 : Int32)), .val (.int (own_e0 p1)), .val (.int (own_e1 p1 p2)), .val (.int (own_e2 p1 p2 p3)), .val (.ref b266), .val (.ref b301), .val (.ref r368), .val (.int (1 : Int32)), .unset, .unset, .unset] [(.int (3 : Int32))])) _
        refine XS.iconst X367.here hx rfl (hb hby at_179) ?_
        show Steps p.tables e below (T367.setTop (mkF m 180 #[.val (.int p0), .val (.int p1), .val (.int p2), .val (.int p3), .val (.int (3 : Int32)), .val (.int (own_e0 p1)), .val (.int (own_e1 p1 p2)), .val (.int (own_e2 p1 p2 p3)), .val (.ref b266), .val (.ref b301), .val (.ref r368), .val (.int (1 : Int32)), .unset, .unset, .unset] [(.int (1 : Int32)), (.int (3 : Int32))])) _
        refine XS.icmpNo X367.here hx rfl (hb hby at_180) rfl (tlt (by decide : (1 : Int32) < (3 : Int32))).2.2.2 ?_
        show Steps p.tables e below (T367.setTop (mkF m 183 #[.val (.int p0), .val (.int p1), .val (.int p2), .val (.int p3), .val (.int (3 : Int32)), .val (.int (own_e0 p1)), .val (.int (own_e1 p1 p2)), .val (.int (own_e2 p1 p2 p3)), .val (.ref b266), .val (.ref b301), .val (.ref r368), .val (.int (1 : Int32)), .unset, .unset, .unset] [])) _
        refine XS.iload X367.here hx rfl (hb hby at_183) rfl ?_
        show Steps p.tables e below (T367.setTop (mkF m 185 #[.val (.int p0), .val (.int p1), .val (.int p2), .val (.int p3), .val (.int (3 : Int32)), .val (.int (own_e0 p1)), .val (.int (own_e1 p1 p2)), .val (.int (own_e2 p1 p2 p3)), .val (.ref b266), .val (.ref b301), .val (.ref r368), .val (.int (1 : Int32)), .unset, .unset, .unset] [(.int (1 : Int32))])) _
        refine XS.ifNo X367.here hx rfl (hb hby at_185) rfl ((if0 _ _).trans (feq (by decide : ¬ ((1 : Int32) = (0 : Int32)))).1) ?_
        show Steps p.tables e below (T367.setTop (mkF m 188 #[.val (.int p0), .val (.int p1), .val (.int p2), .val (.int p3), .val (.int (3 : Int32)), .val (.int (own_e0 p1)), .val (.int (own_e1 p1 p2)), .val (.int (own_e2 p1 p2 p3)), .val (.ref b266), .val (.ref b301), .val (.ref r368), .val (.int (1 : Int32)), .unset, .unset, .unset] [])) _
        refine XS.aload X367.here hx rfl (hb hby at_188) rfl rfl ?_
        show Steps p.tables e below (T367.setTop (mkF m 190 #[.val (.int p0), .val (.int p1), .val (.int p2), .val (.int p3), .val (.int (3 : Int32)), .val (.int (own_e0 p1)), .val (.int (own_e1 p1 p2)), .val (.int (own_e2 p1 p2 p3)), .val (.ref b266), .val (.ref b301), .val (.ref r368), .val (.int (1 : Int32)), .unset, .unset, .unset] [(.ref b266)])) _
        refine XS.iconst X367.here hx rfl (hb hby at_190) ?_
        show Steps p.tables e below (T367.setTop (mkF m 191 #[.val (.int p0), .val (.int p1), .val (.int p2), .val (.int p3), .val (.int (3 : Int32)), .val (.int (own_e0 p1)), .val (.int (own_e1 p1 p2)), .val (.int (own_e2 p1 p2 p3)), .val (.ref b266), .val (.ref b301), .val (.ref r368), .val (.int (1 : Int32)), .unset, .unset, .unset] [(.int (1 : Int32)), (.ref b266)])) _
        refine X367.iaload hx (j := (1 : Int32)) (v := (.int (own_e1 p1 p2))) Ar379.1 (State.isArrayOf_alike hZ.alike Ar379.2.1) Ar379.2.2 hin379 hat379 (g := (mkF m 191 #[.val (.int p0), .val (.int p1), .val (.int p2), .val (.int p3), .val (.int (3 : Int32)), .val (.int (own_e0 p1)), .val (.int (own_e1 p1 p2)), .val (.int (own_e2 p1 p2 p3)), .val (.ref b266), .val (.ref b301), .val (.ref r368), .val (.int (1 : Int32)), .unset, .unset, .unset] [(.int (1 : Int32)), (.ref b266)])) rfl rfl (hb hby at_191) _ ?_
        show Steps p.tables e below (T367.setTop (mkF m 192 #[.val (.int p0), .val (.int p1), .val (.int p2), .val (.int p3), .val (.int (3 : Int32)), .val (.int (own_e0 p1)), .val (.int (own_e1 p1 p2)), .val (.int (own_e2 p1 p2 p3)), .val (.ref b266), .val (.ref b301), .val (.ref r368), .val (.int (1 : Int32)), .unset, .unset, .unset] [(.int (own_e1 p1 p2))])) _
        refine XS.iload X367.here hx rfl (hb hby at_192) rfl ?_
        show Steps p.tables e below (T367.setTop (mkF m 194 #[.val (.int p0), .val (.int p1), .val (.int p2), .val (.int p3), .val (.int (3 : Int32)), .val (.int (own_e0 p1)), .val (.int (own_e1 p1 p2)), .val (.int (own_e2 p1 p2 p3)), .val (.ref b266), .val (.ref b301), .val (.ref r368), .val (.int (1 : Int32)), .unset, .unset, .unset] [(.int (own_e1 p1 p2)), (.int (own_e1 p1 p2))])) _
        refine XS.icmpNo X367.here hx rfl (hb hby at_194) rfl (teq (rfl : (own_e1 p1 p2) = (own_e1 p1 p2))).2 ?_
        show Steps p.tables e below (T367.setTop (mkF m 197 #[.val (.int p0), .val (.int p1), .val (.int p2), .val (.int p3), .val (.int (3 : Int32)), .val (.int (own_e0 p1)), .val (.int (own_e1 p1 p2)), .val (.int (own_e2 p1 p2 p3)), .val (.ref b266), .val (.ref b301), .val (.ref r368), .val (.int (1 : Int32)), .unset, .unset, .unset] [])) _
        refine XS.iconst X367.here hx rfl (hb hby at_197) ?_
        show Steps p.tables e below (T367.setTop (mkF m 198 #[.val (.int p0), .val (.int p1), .val (.int p2), .val (.int p3), .val (.int (3 : Int32)), .val (.int (own_e0 p1)), .val (.int (own_e1 p1 p2)), .val (.int (own_e2 p1 p2 p3)), .val (.ref b266), .val (.ref b301), .val (.ref r368), .val (.int (1 : Int32)), .unset, .unset, .unset] [(.int (1 : Int32))])) _
        refine XS.goto X367.here hx rfl (pc0 := 198) (pc' := 202) rfl (hb hby at_198) (by decide) (by decide) ?_
        show Steps p.tables e below (T367.setTop (mkF m 202 #[.val (.int p0), .val (.int p1), .val (.int p2), .val (.int p3), .val (.int (3 : Int32)), .val (.int (own_e0 p1)), .val (.int (own_e1 p1 p2)), .val (.int (own_e2 p1 p2 p3)), .val (.ref b266), .val (.ref b301), .val (.ref r368), .val (.int (1 : Int32)), .unset, .unset, .unset] [(.int (1 : Int32))])) _
        refine XS.istore X367.here hx rfl (hb hby at_202) rfl (l' := #[.val (.int p0), .val (.int p1), .val (.int p2), .val (.int p3), .val (.int (3 : Int32)), .val (.int (own_e0 p1)), .val (.int (own_e1 p1 p2)), .val (.int (own_e2 p1 p2 p3)), .val (.ref b266), .val (.ref b301), .val (.ref r368), .val (.int (1 : Int32)), .unset, .unset, .unset]) rfl ?_
        show Steps p.tables e below (T367.setTop (mkF m 204 #[.val (.int p0), .val (.int p1), .val (.int p2), .val (.int p3), .val (.int (3 : Int32)), .val (.int (own_e0 p1)), .val (.int (own_e1 p1 p2)), .val (.int (own_e2 p1 p2 p3)), .val (.ref b266), .val (.ref b301), .val (.ref r368), .val (.int (1 : Int32)), .unset, .unset, .unset] [])) _
        refine XS.iload X367.here hx rfl (hb hby at_204) rfl ?_
        show Steps p.tables e below (T367.setTop (mkF m 206 #[.val (.int p0), .val (.int p1), .val (.int p2), .val (.int p3), .val (.int (3 : Int32)), .val (.int (own_e0 p1)), .val (.int (own_e1 p1 p2)), .val (.int (own_e2 p1 p2 p3)), .val (.ref b266), .val (.ref b301), .val (.ref r368), .val (.int (1 : Int32)), .unset, .unset, .unset] [(.int (3 : Int32))])) _
        refine XS.iconst X367.here hx rfl (hb hby at_206) ?_
        show Steps p.tables e below (T367.setTop (mkF m 207 #[.val (.int p0), .val (.int p1), .val (.int p2), .val (.int p3), .val (.int (3 : Int32)), .val (.int (own_e0 p1)), .val (.int (own_e1 p1 p2)), .val (.int (own_e2 p1 p2 p3)), .val (.ref b266), .val (.ref b301), .val (.ref r368), .val (.int (1 : Int32)), .unset, .unset, .unset] [(.int (2 : Int32)), (.int (3 : Int32))])) _
        refine XS.icmpNo X367.here hx rfl (hb hby at_207) rfl (tlt (by decide : (2 : Int32) < (3 : Int32))).2.2.2 ?_
        show Steps p.tables e below (T367.setTop (mkF m 210 #[.val (.int p0), .val (.int p1), .val (.int p2), .val (.int p3), .val (.int (3 : Int32)), .val (.int (own_e0 p1)), .val (.int (own_e1 p1 p2)), .val (.int (own_e2 p1 p2 p3)), .val (.ref b266), .val (.ref b301), .val (.ref r368), .val (.int (1 : Int32)), .unset, .unset, .unset] [])) _
        refine XS.iload X367.here hx rfl (hb hby at_210) rfl ?_
        show Steps p.tables e below (T367.setTop (mkF m 212 #[.val (.int p0), .val (.int p1), .val (.int p2), .val (.int p3), .val (.int (3 : Int32)), .val (.int (own_e0 p1)), .val (.int (own_e1 p1 p2)), .val (.int (own_e2 p1 p2 p3)), .val (.ref b266), .val (.ref b301), .val (.ref r368), .val (.int (1 : Int32)), .unset, .unset, .unset] [(.int (1 : Int32))])) _
        refine XS.ifNo X367.here hx rfl (hb hby at_212) rfl ((if0 _ _).trans (feq (by decide : ¬ ((1 : Int32) = (0 : Int32)))).1) ?_
        show Steps p.tables e below (T367.setTop (mkF m 215 #[.val (.int p0), .val (.int p1), .val (.int p2), .val (.int p3), .val (.int (3 : Int32)), .val (.int (own_e0 p1)), .val (.int (own_e1 p1 p2)), .val (.int (own_e2 p1 p2 p3)), .val (.ref b266), .val (.ref b301), .val (.ref r368), .val (.int (1 : Int32)), .unset, .unset, .unset] [])) _
        refine XS.aload X367.here hx rfl (hb hby at_215) rfl rfl ?_
        show Steps p.tables e below (T367.setTop (mkF m 217 #[.val (.int p0), .val (.int p1), .val (.int p2), .val (.int p3), .val (.int (3 : Int32)), .val (.int (own_e0 p1)), .val (.int (own_e1 p1 p2)), .val (.int (own_e2 p1 p2 p3)), .val (.ref b266), .val (.ref b301), .val (.ref r368), .val (.int (1 : Int32)), .unset, .unset, .unset] [(.ref b266)])) _
        refine XS.iconst X367.here hx rfl (hb hby at_217) ?_
        show Steps p.tables e below (T367.setTop (mkF m 218 #[.val (.int p0), .val (.int p1), .val (.int p2), .val (.int p3), .val (.int (3 : Int32)), .val (.int (own_e0 p1)), .val (.int (own_e1 p1 p2)), .val (.int (own_e2 p1 p2 p3)), .val (.ref b266), .val (.ref b301), .val (.ref r368), .val (.int (1 : Int32)), .unset, .unset, .unset] [(.int (2 : Int32)), (.ref b266)])) _
        refine X367.iaload hx (j := (2 : Int32)) (v := (.int (own_e2 p1 p2 p3))) Ar380.1 (State.isArrayOf_alike hZ.alike Ar380.2.1) Ar380.2.2 hin380 hat380 (g := (mkF m 218 #[.val (.int p0), .val (.int p1), .val (.int p2), .val (.int p3), .val (.int (3 : Int32)), .val (.int (own_e0 p1)), .val (.int (own_e1 p1 p2)), .val (.int (own_e2 p1 p2 p3)), .val (.ref b266), .val (.ref b301), .val (.ref r368), .val (.int (1 : Int32)), .unset, .unset, .unset] [(.int (2 : Int32)), (.ref b266)])) rfl rfl (hb hby at_218) _ ?_
        show Steps p.tables e below (T367.setTop (mkF m 219 #[.val (.int p0), .val (.int p1), .val (.int p2), .val (.int p3), .val (.int (3 : Int32)), .val (.int (own_e0 p1)), .val (.int (own_e1 p1 p2)), .val (.int (own_e2 p1 p2 p3)), .val (.ref b266), .val (.ref b301), .val (.ref r368), .val (.int (1 : Int32)), .unset, .unset, .unset] [(.int (own_e2 p1 p2 p3))])) _
        refine XS.iload X367.here hx rfl (hb hby at_219) rfl ?_
        show Steps p.tables e below (T367.setTop (mkF m 221 #[.val (.int p0), .val (.int p1), .val (.int p2), .val (.int p3), .val (.int (3 : Int32)), .val (.int (own_e0 p1)), .val (.int (own_e1 p1 p2)), .val (.int (own_e2 p1 p2 p3)), .val (.ref b266), .val (.ref b301), .val (.ref r368), .val (.int (1 : Int32)), .unset, .unset, .unset] [(.int (own_e2 p1 p2 p3)), (.int (own_e2 p1 p2 p3))])) _
        refine XS.icmpNo X367.here hx rfl (hb hby at_221) rfl (teq (rfl : (own_e2 p1 p2 p3) = (own_e2 p1 p2 p3))).2 ?_
        show Steps p.tables e below (T367.setTop (mkF m 224 #[.val (.int p0), .val (.int p1), .val (.int p2), .val (.int p3), .val (.int (3 : Int32)), .val (.int (own_e0 p1)), .val (.int (own_e1 p1 p2)), .val (.int (own_e2 p1 p2 p3)), .val (.ref b266), .val (.ref b301), .val (.ref r368), .val (.int (1 : Int32)), .unset, .unset, .unset] [])) _
        refine XS.iconst X367.here hx rfl (hb hby at_224) ?_
        show Steps p.tables e below (T367.setTop (mkF m 225 #[.val (.int p0), .val (.int p1), .val (.int p2), .val (.int p3), .val (.int (3 : Int32)), .val (.int (own_e0 p1)), .val (.int (own_e1 p1 p2)), .val (.int (own_e2 p1 p2 p3)), .val (.ref b266), .val (.ref b301), .val (.ref r368), .val (.int (1 : Int32)), .unset, .unset, .unset] [(.int (1 : Int32))])) _
        refine XS.goto X367.here hx rfl (pc0 := 225) (pc' := 229) rfl (hb hby at_225) (by decide) (by decide) ?_
        show Steps p.tables e below (T367.setTop (mkF m 229 #[.val (.int p0), .val (.int p1), .val (.int p2), .val (.int p3), .val (.int (3 : Int32)), .val (.int (own_e0 p1)), .val (.int (own_e1 p1 p2)), .val (.int (own_e2 p1 p2 p3)), .val (.ref b266), .val (.ref b301), .val (.ref r368), .val (.int (1 : Int32)), .unset, .unset, .unset] [(.int (1 : Int32))])) _
        refine XS.istore X367.here hx rfl (hb hby at_229) rfl (l' := #[.val (.int p0), .val (.int p1), .val (.int p2), .val (.int p3), .val (.int (3 : Int32)), .val (.int (own_e0 p1)), .val (.int (own_e1 p1 p2)), .val (.int (own_e2 p1 p2 p3)), .val (.ref b266), .val (.ref b301), .val (.ref r368), .val (.int (1 : Int32)), .unset, .unset, .unset]) rfl ?_
        show Steps p.tables e below (T367.setTop (mkF m 231 #[.val (.int p0), .val (.int p1), .val (.int p2), .val (.int p3), .val (.int (3 : Int32)), .val (.int (own_e0 p1)), .val (.int (own_e1 p1 p2)), .val (.int (own_e2 p1 p2 p3)), .val (.ref b266), .val (.ref b301), .val (.ref r368), .val (.int (1 : Int32)), .unset, .unset, .unset] [])) _
        refine XS.iload X367.here hx rfl (hb hby at_231) rfl ?_
        show Steps p.tables e below (T367.setTop (mkF m 233 #[.val (.int p0), .val (.int p1), .val (.int p2), .val (.int p3), .val (.int (3 : Int32)), .val (.int (own_e0 p1)), .val (.int (own_e1 p1 p2)), .val (.int (own_e2 p1 p2 p3)), .val (.ref b266), .val (.ref b301), .val (.ref r368), .val (.int (1 : Int32)), .unset, .unset, .unset] [(.int (3 : Int32))])) _
        refine XS.ifNo X367.here hx rfl (hb hby at_233) rfl ((if0 _ _).trans (tlt (by decide : (0 : Int32) < (3 : Int32))).2.2.2) ?_
        show Steps p.tables e below (T367.setTop (mkF m 236 #[.val (.int p0), .val (.int p1), .val (.int p2), .val (.int p3), .val (.int (3 : Int32)), .val (.int (own_e0 p1)), .val (.int (own_e1 p1 p2)), .val (.int (own_e2 p1 p2 p3)), .val (.ref b266), .val (.ref b301), .val (.ref r368), .val (.int (1 : Int32)), .unset, .unset, .unset] [])) _
        refine XS.iload X367.here hx rfl (hb hby at_236) rfl ?_
        show Steps p.tables e below (T367.setTop (mkF m 238 #[.val (.int p0), .val (.int p1), .val (.int p2), .val (.int p3), .val (.int (3 : Int32)), .val (.int (own_e0 p1)), .val (.int (own_e1 p1 p2)), .val (.int (own_e2 p1 p2 p3)), .val (.ref b266), .val (.ref b301), .val (.ref r368), .val (.int (1 : Int32)), .unset, .unset, .unset] [(.int (own_e0 p1))])) _
        refine XS.ifYes X367.here hx rfl (pc0 := 238) (pc' := 245) rfl (hb hby at_238) rfl ((if0 _ _).trans (feq hz0).2) (by decide) (by decide) ?_
        show Steps p.tables e below (T367.setTop (mkF m 245 #[.val (.int p0), .val (.int p1), .val (.int p2), .val (.int p3), .val (.int (3 : Int32)), .val (.int (own_e0 p1)), .val (.int (own_e1 p1 p2)), .val (.int (own_e2 p1 p2 p3)), .val (.ref b266), .val (.ref b301), .val (.ref r368), .val (.int (1 : Int32)), .unset, .unset, .unset] [])) _
        refine XS.iconst X367.here hx rfl (hb hby at_245) ?_
        show Steps p.tables e below (T367.setTop (mkF m 246 #[.val (.int p0), .val (.int p1), .val (.int p2), .val (.int p3), .val (.int (3 : Int32)), .val (.int (own_e0 p1)), .val (.int (own_e1 p1 p2)), .val (.int (own_e2 p1 p2 p3)), .val (.ref b266), .val (.ref b301), .val (.ref r368), .val (.int (1 : Int32)), .unset, .unset, .unset] [(.int (0 : Int32))])) _
        refine XS.istore X367.here hx rfl (hb hby at_246) rfl (l' := #[.val (.int p0), .val (.int p1), .val (.int p2), .val (.int p3), .val (.int (3 : Int32)), .val (.int (own_e0 p1)), .val (.int (own_e1 p1 p2)), .val (.int (own_e2 p1 p2 p3)), .val (.ref b266), .val (.ref b301), .val (.ref r368), .val (.int (1 : Int32)), .val (.int (0 : Int32)), .unset, .unset]) rfl ?_
        show Steps p.tables e below (T367.setTop (mkF m 248 #[.val (.int p0), .val (.int p1), .val (.int p2), .val (.int p3), .val (.int (3 : Int32)), .val (.int (own_e0 p1)), .val (.int (own_e1 p1 p2)), .val (.int (own_e2 p1 p2 p3)), .val (.ref b266), .val (.ref b301), .val (.ref r368), .val (.int (1 : Int32)), .val (.int (0 : Int32)), .unset, .unset] [])) _
        refine XS.iload X367.here hx rfl (hb hby at_248) rfl ?_
        show Steps p.tables e below (T367.setTop (mkF m 250 #[.val (.int p0), .val (.int p1), .val (.int p2), .val (.int p3), .val (.int (3 : Int32)), .val (.int (own_e0 p1)), .val (.int (own_e1 p1 p2)), .val (.int (own_e2 p1 p2 p3)), .val (.ref b266), .val (.ref b301), .val (.ref r368), .val (.int (1 : Int32)), .val (.int (0 : Int32)), .unset, .unset] [(.int (0 : Int32))])) _
        refine XS.ifYes X367.here hx rfl (pc0 := 250) (pc' := 257) rfl (hb hby at_250) rfl ((if0 _ _).trans (teq (rfl : (0 : Int32) = (0 : Int32))).1) (by decide) (by decide) ?_
        show Steps p.tables e below (T367.setTop (mkF m 257 #[.val (.int p0), .val (.int p1), .val (.int p2), .val (.int p3), .val (.int (3 : Int32)), .val (.int (own_e0 p1)), .val (.int (own_e1 p1 p2)), .val (.int (own_e2 p1 p2 p3)), .val (.ref b266), .val (.ref b301), .val (.ref r368), .val (.int (1 : Int32)), .val (.int (0 : Int32)), .unset, .unset] [])) _
        refine XS.iconst X367.here hx rfl (hb hby at_257) ?_
        show Steps p.tables e below (T367.setTop (mkF m 258 #[.val (.int p0), .val (.int p1), .val (.int p2), .val (.int p3), .val (.int (3 : Int32)), .val (.int (own_e0 p1)), .val (.int (own_e1 p1 p2)), .val (.int (own_e2 p1 p2 p3)), .val (.ref b266), .val (.ref b301), .val (.ref r368), .val (.int (1 : Int32)), .val (.int (0 : Int32)), .unset, .unset] [(.int (0 : Int32))])) _
        refine XS.istore X367.here hx rfl (hb hby at_258) rfl (l' := #[.val (.int p0), .val (.int p1), .val (.int p2), .val (.int p3), .val (.int (3 : Int32)), .val (.int (own_e0 p1)), .val (.int (own_e1 p1 p2)), .val (.int (own_e2 p1 p2 p3)), .val (.ref b266), .val (.ref b301), .val (.ref r368), .val (.int (1 : Int32)), .val (.int (0 : Int32)), .val (.int (0 : Int32)), .unset]) rfl ?_
        show Steps p.tables e below (T367.setTop (mkF m 260 #[.val (.int p0), .val (.int p1), .val (.int p2), .val (.int p3), .val (.int (3 : Int32)), .val (.int (own_e0 p1)), .val (.int (own_e1 p1 p2)), .val (.int (own_e2 p1 p2 p3)), .val (.ref b266), .val (.ref b301), .val (.ref r368), .val (.int (1 : Int32)), .val (.int (0 : Int32)), .val (.int (0 : Int32)), .unset] [])) _
        refine XS.iload X367.here hx rfl (hb hby at_260) rfl ?_
        show Steps p.tables e below (T367.setTop (mkF m 262 #[.val (.int p0), .val (.int p1), .val (.int p2), .val (.int p3), .val (.int (3 : Int32)), .val (.int (own_e0 p1)), .val (.int (own_e1 p1 p2)), .val (.int (own_e2 p1 p2 p3)), .val (.ref b266), .val (.ref b301), .val (.ref r368), .val (.int (1 : Int32)), .val (.int (0 : Int32)), .val (.int (0 : Int32)), .unset] [(.int (3 : Int32))])) _
        refine XS.iload X367.here hx rfl (hb hby at_262) rfl ?_
        show Steps p.tables e below (T367.setTop (mkF m 264 #[.val (.int p0), .val (.int p1), .val (.int p2), .val (.int p3), .val (.int (3 : Int32)), .val (.int (own_e0 p1)), .val (.int (own_e1 p1 p2)), .val (.int (own_e2 p1 p2 p3)), .val (.ref b266), .val (.ref b301), .val (.ref r368), .val (.int (1 : Int32)), .val (.int (0 : Int32)), .val (.int (0 : Int32)), .unset] [(.int (0 : Int32)), (.int (3 : Int32))])) _
        refine XS.isub X367.here hx rfl (hb hby at_264) rfl ?_
        show Steps p.tables e below (T367.setTop (mkF m 265 #[.val (.int p0), .val (.int p1), .val (.int p2), .val (.int p3), .val (.int (3 : Int32)), .val (.int (own_e0 p1)), .val (.int (own_e1 p1 p2)), .val (.int (own_e2 p1 p2 p3)), .val (.ref b266), .val (.ref b301), .val (.ref r368), .val (.int (1 : Int32)), .val (.int (0 : Int32)), .val (.int (0 : Int32)), .unset] [(.int (3 : Int32))])) _
        refine XS.istore X367.here hx rfl (hb hby at_265) rfl (l' := #[.val (.int p0), .val (.int p1), .val (.int p2), .val (.int p3), .val (.int (3 : Int32)), .val (.int (own_e0 p1)), .val (.int (own_e1 p1 p2)), .val (.int (own_e2 p1 p2 p3)), .val (.ref b266), .val (.ref b301), .val (.ref r368), .val (.int (1 : Int32)), .val (.int (0 : Int32)), .val (.int (0 : Int32)), .val (.int (3 : Int32))]) rfl ?_
        show Steps p.tables e below (T367.setTop (mkF m 267 #[.val (.int p0), .val (.int p1), .val (.int p2), .val (.int p3), .val (.int (3 : Int32)), .val (.int (own_e0 p1)), .val (.int (own_e1 p1 p2)), .val (.int (own_e2 p1 p2 p3)), .val (.ref b266), .val (.ref b301), .val (.ref r368), .val (.int (1 : Int32)), .val (.int (0 : Int32)), .val (.int (0 : Int32)), .val (.int (3 : Int32))] [])) _
        refine XS.aload X367.here hx rfl (hb hby at_267) rfl rfl ?_
        show Steps p.tables e below (T367.setTop (mkF m 269 #[.val (.int p0), .val (.int p1), .val (.int p2), .val (.int p3), .val (.int (3 : Int32)), .val (.int (own_e0 p1)), .val (.int (own_e1 p1 p2)), .val (.int (own_e2 p1 p2 p3)), .val (.ref b266), .val (.ref b301), .val (.ref r368), .val (.int (1 : Int32)), .val (.int (0 : Int32)), .val (.int (0 : Int32)), .val (.int (3 : Int32))] [(.ref r368)])) _
        refine XS.ifnullNo X367.here hx rfl (hb hby at_269) rfl ?_
        show Steps p.tables e below (T367.setTop (mkF m 272 #[.val (.int p0), .val (.int p1), .val (.int p2), .val (.int p3), .val (.int (3 : Int32)), .val (.int (own_e0 p1)), .val (.int (own_e1 p1 p2)), .val (.int (own_e2 p1 p2 p3)), .val (.ref b266), .val (.ref b301), .val (.ref r368), .val (.int (1 : Int32)), .val (.int (0 : Int32)), .val (.int (0 : Int32)), .val (.int (3 : Int32))] [])) _
        refine XS.aload X367.here hx rfl (hb hby at_272) rfl rfl ?_
        show Steps p.tables e below (T367.setTop (mkF m 274 #[.val (.int p0), .val (.int p1), .val (.int p2), .val (.int p3), .val (.int (3 : Int32)), .val (.int (own_e0 p1)), .val (.int (own_e1 p1 p2)), .val (.int (own_e2 p1 p2 p3)), .val (.ref b266), .val (.ref b301), .val (.ref r368), .val (.int (1 : Int32)), .val (.int (0 : Int32)), .val (.int (0 : Int32)), .val (.int (3 : Int32))] [(.ref r368)])) _
        refine X367.arraylength hx Ar381.1 (State.isArrayOf_alike hZ.alike Ar381.2.1) (g := (mkF m 274 #[.val (.int p0), .val (.int p1), .val (.int p2), .val (.int p3), .val (.int (3 : Int32)), .val (.int (own_e0 p1)), .val (.int (own_e1 p1 p2)), .val (.int (own_e2 p1 p2 p3)), .val (.ref b266), .val (.ref b301), .val (.ref r368), .val (.int (1 : Int32)), .val (.int (0 : Int32)), .val (.int (0 : Int32)), .val (.int (3 : Int32))] [(.ref r368)])) rfl rfl (hb hby at_274) _ ?_
        rw [own_len (z := (3 : Int32)) S381 rfl]
        show Steps p.tables e below (T367.setTop (mkF m 275 #[.val (.int p0), .val (.int p1), .val (.int p2), .val (.int p3), .val (.int (3 : Int32)), .val (.int (own_e0 p1)), .val (.int (own_e1 p1 p2)), .val (.int (own_e2 p1 p2 p3)), .val (.ref b266), .val (.ref b301), .val (.ref r368), .val (.int (1 : Int32)), .val (.int (0 : Int32)), .val (.int (0 : Int32)), .val (.int (3 : Int32))] [(.int (3 : Int32))])) _
        refine XS.iload X367.here hx rfl (hb hby at_275) rfl ?_
        show Steps p.tables e below (T367.setTop (mkF m 277 #[.val (.int p0), .val (.int p1), .val (.int p2), .val (.int p3), .val (.int (3 : Int32)), .val (.int (own_e0 p1)), .val (.int (own_e1 p1 p2)), .val (.int (own_e2 p1 p2 p3)), .val (.ref b266), .val (.ref b301), .val (.ref r368), .val (.int (1 : Int32)), .val (.int (0 : Int32)), .val (.int (0 : Int32)), .val (.int (3 : Int32))] [(.int (3 : Int32)), (.int (3 : Int32))])) _
        refine XS.icmpYes X367.here hx rfl (pc0 := 277) (pc' := 282) rfl (hb hby at_277) rfl (teq (rfl : (3 : Int32) = (3 : Int32))).1 (by decide) (by decide) ?_
        show Steps p.tables e below (T367.setTop (mkF m 282 #[.val (.int p0), .val (.int p1), .val (.int p2), .val (.int p3), .val (.int (3 : Int32)), .val (.int (own_e0 p1)), .val (.int (own_e1 p1 p2)), .val (.int (own_e2 p1 p2 p3)), .val (.ref b266), .val (.ref b301), .val (.ref r368), .val (.int (1 : Int32)), .val (.int (0 : Int32)), .val (.int (0 : Int32)), .val (.int (3 : Int32))] [])) _
        refine XS.iload X367.here hx rfl (hb hby at_282) rfl ?_
        show Steps p.tables e below (T367.setTop (mkF m 284 #[.val (.int p0), .val (.int p1), .val (.int p2), .val (.int p3), .val (.int (3 : Int32)), .val (.int (own_e0 p1)), .val (.int (own_e1 p1 p2)), .val (.int (own_e2 p1 p2 p3)), .val (.ref b266), .val (.ref b301), .val (.ref r368), .val (.int (1 : Int32)), .val (.int (0 : Int32)), .val (.int (0 : Int32)), .val (.int (3 : Int32))] [(.int (3 : Int32))])) _
        refine XS.ifNo X367.here hx rfl (hb hby at_284) rfl ((if0 _ _).trans (tlt (by decide : (0 : Int32) < (3 : Int32))).2.2.2) ?_
        show Steps p.tables e below (T367.setTop (mkF m 287 #[.val (.int p0), .val (.int p1), .val (.int p2), .val (.int p3), .val (.int (3 : Int32)), .val (.int (own_e0 p1)), .val (.int (own_e1 p1 p2)), .val (.int (own_e2 p1 p2 p3)), .val (.ref b266), .val (.ref b301), .val (.ref r368), .val (.int (1 : Int32)), .val (.int (0 : Int32)), .val (.int (0 : Int32)), .val (.int (3 : Int32))] [])) _
        refine XS.iload X367.here hx rfl (hb hby at_287) rfl ?_
        show Steps p.tables e below (T367.setTop (mkF m 289 #[.val (.int p0), .val (.int p1), .val (.int p2), .val (.int p3), .val (.int (3 : Int32)), .val (.int (own_e0 p1)), .val (.int (own_e1 p1 p2)), .val (.int (own_e2 p1 p2 p3)), .val (.ref b266), .val (.ref b301), .val (.ref r368), .val (.int (1 : Int32)), .val (.int (0 : Int32)), .val (.int (0 : Int32)), .val (.int (3 : Int32))] [(.int (1 : Int32))])) _
        refine XS.ifNo X367.here hx rfl (hb hby at_289) rfl ((if0 _ _).trans (feq (by decide : ¬ ((1 : Int32) = (0 : Int32)))).1) ?_
        show Steps p.tables e below (T367.setTop (mkF m 292 #[.val (.int p0), .val (.int p1), .val (.int p2), .val (.int p3), .val (.int (3 : Int32)), .val (.int (own_e0 p1)), .val (.int (own_e1 p1 p2)), .val (.int (own_e2 p1 p2 p3)), .val (.ref b266), .val (.ref b301), .val (.ref r368), .val (.int (1 : Int32)), .val (.int (0 : Int32)), .val (.int (0 : Int32)), .val (.int (3 : Int32))] [])) _
        refine XS.aload X367.here hx rfl (hb hby at_292) rfl rfl ?_
        show Steps p.tables e below (T367.setTop (mkF m 294 #[.val (.int p0), .val (.int p1), .val (.int p2), .val (.int p3), .val (.int (3 : Int32)), .val (.int (own_e0 p1)), .val (.int (own_e1 p1 p2)), .val (.int (own_e2 p1 p2 p3)), .val (.ref b266), .val (.ref b301), .val (.ref r368), .val (.int (1 : Int32)), .val (.int (0 : Int32)), .val (.int (0 : Int32)), .val (.int (3 : Int32))] [(.ref r368)])) _
        refine XS.iconst X367.here hx rfl (hb hby at_294) ?_
        show Steps p.tables e below (T367.setTop (mkF m 295 #[.val (.int p0), .val (.int p1), .val (.int p2), .val (.int p3), .val (.int (3 : Int32)), .val (.int (own_e0 p1)), .val (.int (own_e1 p1 p2)), .val (.int (own_e2 p1 p2 p3)), .val (.ref b266), .val (.ref b301), .val (.ref r368), .val (.int (1 : Int32)), .val (.int (0 : Int32)), .val (.int (0 : Int32)), .val (.int (3 : Int32))] [(.int (0 : Int32)), (.ref r368)])) _
        refine X367.iaload hx (j := (0 : Int32)) (v := (.int ((own_e0 p1) - (1 : Int32)))) Ar382.1 (State.isArrayOf_alike hZ.alike Ar382.2.1) Ar382.2.2 hin382 hat382 (g := (mkF m 295 #[.val (.int p0), .val (.int p1), .val (.int p2), .val (.int p3), .val (.int (3 : Int32)), .val (.int (own_e0 p1)), .val (.int (own_e1 p1 p2)), .val (.int (own_e2 p1 p2 p3)), .val (.ref b266), .val (.ref b301), .val (.ref r368), .val (.int (1 : Int32)), .val (.int (0 : Int32)), .val (.int (0 : Int32)), .val (.int (3 : Int32))] [(.int (0 : Int32)), (.ref r368)])) rfl rfl (hb hby at_295) _ ?_
        show Steps p.tables e below (T367.setTop (mkF m 296 #[.val (.int p0), .val (.int p1), .val (.int p2), .val (.int p3), .val (.int (3 : Int32)), .val (.int (own_e0 p1)), .val (.int (own_e1 p1 p2)), .val (.int (own_e2 p1 p2 p3)), .val (.ref b266), .val (.ref b301), .val (.ref r368), .val (.int (1 : Int32)), .val (.int (0 : Int32)), .val (.int (0 : Int32)), .val (.int (3 : Int32))] [(.int ((own_e0 p1) - (1 : Int32)))])) _
        refine XS.aload X367.here hx rfl (hb hby at_296) rfl rfl ?_
        show Steps p.tables e below (T367.setTop (mkF m 298 #[.val (.int p0), .val (.int p1), .val (.int p2), .val (.int p3), .val (.int (3 : Int32)), .val (.int (own_e0 p1)), .val (.int (own_e1 p1 p2)), .val (.int (own_e2 p1 p2 p3)), .val (.ref b266), .val (.ref b301), .val (.ref r368), .val (.int (1 : Int32)), .val (.int (0 : Int32)), .val (.int (0 : Int32)), .val (.int (3 : Int32))] [(.ref b301), (.int ((own_e0 p1) - (1 : Int32)))])) _
        refine XS.iload X367.here hx rfl (hb hby at_298) rfl ?_
        show Steps p.tables e below (T367.setTop (mkF m 300 #[.val (.int p0), .val (.int p1), .val (.int p2), .val (.int p3), .val (.int (3 : Int32)), .val (.int (own_e0 p1)), .val (.int (own_e1 p1 p2)), .val (.int (own_e2 p1 p2 p3)), .val (.ref b266), .val (.ref b301), .val (.ref r368), .val (.int (1 : Int32)), .val (.int (0 : Int32)), .val (.int (0 : Int32)), .val (.int (3 : Int32))] [(.int (0 : Int32)), (.ref b301), (.int ((own_e0 p1) - (1 : Int32)))])) _
        refine X367.iaload hx (j := (0 : Int32)) (v := (.int (own_e0 p1))) Ar383.1 (State.isArrayOf_alike hZ.alike Ar383.2.1) Ar383.2.2 hin383 hat383 (g := (mkF m 300 #[.val (.int p0), .val (.int p1), .val (.int p2), .val (.int p3), .val (.int (3 : Int32)), .val (.int (own_e0 p1)), .val (.int (own_e1 p1 p2)), .val (.int (own_e2 p1 p2 p3)), .val (.ref b266), .val (.ref b301), .val (.ref r368), .val (.int (1 : Int32)), .val (.int (0 : Int32)), .val (.int (0 : Int32)), .val (.int (3 : Int32))] [(.int (0 : Int32)), (.ref b301), (.int ((own_e0 p1) - (1 : Int32)))])) rfl rfl (hb hby at_300) _ ?_
        show Steps p.tables e below (T367.setTop (mkF m 301 #[.val (.int p0), .val (.int p1), .val (.int p2), .val (.int p3), .val (.int (3 : Int32)), .val (.int (own_e0 p1)), .val (.int (own_e1 p1 p2)), .val (.int (own_e2 p1 p2 p3)), .val (.ref b266), .val (.ref b301), .val (.ref r368), .val (.int (1 : Int32)), .val (.int (0 : Int32)), .val (.int (0 : Int32)), .val (.int (3 : Int32))] [(.int (own_e0 p1)), (.int ((own_e0 p1) - (1 : Int32)))])) _
        refine XS.iconst X367.here hx rfl (hb hby at_301) ?_
        show Steps p.tables e below (T367.setTop (mkF m 302 #[.val (.int p0), .val (.int p1), .val (.int p2), .val (.int p3), .val (.int (3 : Int32)), .val (.int (own_e0 p1)), .val (.int (own_e1 p1 p2)), .val (.int (own_e2 p1 p2 p3)), .val (.ref b266), .val (.ref b301), .val (.ref r368), .val (.int (1 : Int32)), .val (.int (0 : Int32)), .val (.int (0 : Int32)), .val (.int (3 : Int32))] [(.int (1 : Int32)), (.int (own_e0 p1)), (.int ((own_e0 p1) - (1 : Int32)))])) _
        refine XS.isub X367.here hx rfl (hb hby at_302) rfl ?_
        show Steps p.tables e below (T367.setTop (mkF m 303 #[.val (.int p0), .val (.int p1), .val (.int p2), .val (.int p3), .val (.int (3 : Int32)), .val (.int (own_e0 p1)), .val (.int (own_e1 p1 p2)), .val (.int (own_e2 p1 p2 p3)), .val (.ref b266), .val (.ref b301), .val (.ref r368), .val (.int (1 : Int32)), .val (.int (0 : Int32)), .val (.int (0 : Int32)), .val (.int (3 : Int32))] [(.int ((own_e0 p1) - (1 : Int32))), (.int ((own_e0 p1) - (1 : Int32)))])) _
        refine XS.icmpNo X367.here hx rfl (hb hby at_303) rfl (teq (rfl : ((own_e0 p1) - (1 : Int32)) = ((own_e0 p1) - (1 : Int32)))).2 ?_
        show Steps p.tables e below (T367.setTop (mkF m 306 #[.val (.int p0), .val (.int p1), .val (.int p2), .val (.int p3), .val (.int (3 : Int32)), .val (.int (own_e0 p1)), .val (.int (own_e1 p1 p2)), .val (.int (own_e2 p1 p2 p3)), .val (.ref b266), .val (.ref b301), .val (.ref r368), .val (.int (1 : Int32)), .val (.int (0 : Int32)), .val (.int (0 : Int32)), .val (.int (3 : Int32))] [])) _
        refine XS.iconst X367.here hx rfl (hb hby at_306) ?_
        show Steps p.tables e below (T367.setTop (mkF m 307 #[.val (.int p0), .val (.int p1), .val (.int p2), .val (.int p3), .val (.int (3 : Int32)), .val (.int (own_e0 p1)), .val (.int (own_e1 p1 p2)), .val (.int (own_e2 p1 p2 p3)), .val (.ref b266), .val (.ref b301), .val (.ref r368), .val (.int (1 : Int32)), .val (.int (0 : Int32)), .val (.int (0 : Int32)), .val (.int (3 : Int32))] [(.int (1 : Int32))])) _
        refine XS.goto X367.here hx rfl (pc0 := 307) (pc' := 311) rfl (hb hby at_307) (by decide) (by decide) ?_
        show Steps p.tables e below (T367.setTop (mkF m 311 #[.val (.int p0), .val (.int p1), .val (.int p2), .val (.int p3), .val (.int (3 : Int32)), .val (.int (own_e0 p1)), .val (.int (own_e1 p1 p2)), .val (.int (own_e2 p1 p2 p3)), .val (.ref b266), .val (.ref b301), .val (.ref r368), .val (.int (1 : Int32)), .val (.int (0 : Int32)), .val (.int (0 : Int32)), .val (.int (3 : Int32))] [(.int (1 : Int32))])) _
        refine XS.istore X367.here hx rfl (hb hby at_311) rfl (l' := #[.val (.int p0), .val (.int p1), .val (.int p2), .val (.int p3), .val (.int (3 : Int32)), .val (.int (own_e0 p1)), .val (.int (own_e1 p1 p2)), .val (.int (own_e2 p1 p2 p3)), .val (.ref b266), .val (.ref b301), .val (.ref r368), .val (.int (1 : Int32)), .val (.int (0 : Int32)), .val (.int (0 : Int32)), .val (.int (3 : Int32))]) rfl ?_
        show Steps p.tables e below (T367.setTop (mkF m 313 #[.val (.int p0), .val (.int p1), .val (.int p2), .val (.int p3), .val (.int (3 : Int32)), .val (.int (own_e0 p1)), .val (.int (own_e1 p1 p2)), .val (.int (own_e2 p1 p2 p3)), .val (.ref b266), .val (.ref b301), .val (.ref r368), .val (.int (1 : Int32)), .val (.int (0 : Int32)), .val (.int (0 : Int32)), .val (.int (3 : Int32))] [])) _
        refine XS.iload X367.here hx rfl (hb hby at_313) rfl ?_
        show Steps p.tables e below (T367.setTop (mkF m 315 #[.val (.int p0), .val (.int p1), .val (.int p2), .val (.int p3), .val (.int (3 : Int32)), .val (.int (own_e0 p1)), .val (.int (own_e1 p1 p2)), .val (.int (own_e2 p1 p2 p3)), .val (.ref b266), .val (.ref b301), .val (.ref r368), .val (.int (1 : Int32)), .val (.int (0 : Int32)), .val (.int (0 : Int32)), .val (.int (3 : Int32))] [(.int (3 : Int32))])) _
        refine XS.iconst X367.here hx rfl (hb hby at_315) ?_
        show Steps p.tables e below (T367.setTop (mkF m 316 #[.val (.int p0), .val (.int p1), .val (.int p2), .val (.int p3), .val (.int (3 : Int32)), .val (.int (own_e0 p1)), .val (.int (own_e1 p1 p2)), .val (.int (own_e2 p1 p2 p3)), .val (.ref b266), .val (.ref b301), .val (.ref r368), .val (.int (1 : Int32)), .val (.int (0 : Int32)), .val (.int (0 : Int32)), .val (.int (3 : Int32))] [(.int (1 : Int32)), (.int (3 : Int32))])) _
        refine XS.icmpNo X367.here hx rfl (hb hby at_316) rfl (tlt (by decide : (1 : Int32) < (3 : Int32))).2.2.2 ?_
        show Steps p.tables e below (T367.setTop (mkF m 319 #[.val (.int p0), .val (.int p1), .val (.int p2), .val (.int p3), .val (.int (3 : Int32)), .val (.int (own_e0 p1)), .val (.int (own_e1 p1 p2)), .val (.int (own_e2 p1 p2 p3)), .val (.ref b266), .val (.ref b301), .val (.ref r368), .val (.int (1 : Int32)), .val (.int (0 : Int32)), .val (.int (0 : Int32)), .val (.int (3 : Int32))] [])) _
        refine XS.iload X367.here hx rfl (hb hby at_319) rfl ?_
        show Steps p.tables e below (T367.setTop (mkF m 321 #[.val (.int p0), .val (.int p1), .val (.int p2), .val (.int p3), .val (.int (3 : Int32)), .val (.int (own_e0 p1)), .val (.int (own_e1 p1 p2)), .val (.int (own_e2 p1 p2 p3)), .val (.ref b266), .val (.ref b301), .val (.ref r368), .val (.int (1 : Int32)), .val (.int (0 : Int32)), .val (.int (0 : Int32)), .val (.int (3 : Int32))] [(.int (1 : Int32))])) _
        refine XS.ifNo X367.here hx rfl (hb hby at_321) rfl ((if0 _ _).trans (feq (by decide : ¬ ((1 : Int32) = (0 : Int32)))).1) ?_
        show Steps p.tables e below (T367.setTop (mkF m 324 #[.val (.int p0), .val (.int p1), .val (.int p2), .val (.int p3), .val (.int (3 : Int32)), .val (.int (own_e0 p1)), .val (.int (own_e1 p1 p2)), .val (.int (own_e2 p1 p2 p3)), .val (.ref b266), .val (.ref b301), .val (.ref r368), .val (.int (1 : Int32)), .val (.int (0 : Int32)), .val (.int (0 : Int32)), .val (.int (3 : Int32))] [])) _
        refine XS.aload X367.here hx rfl (hb hby at_324) rfl rfl ?_
        show Steps p.tables e below (T367.setTop (mkF m 326 #[.val (.int p0), .val (.int p1), .val (.int p2), .val (.int p3), .val (.int (3 : Int32)), .val (.int (own_e0 p1)), .val (.int (own_e1 p1 p2)), .val (.int (own_e2 p1 p2 p3)), .val (.ref b266), .val (.ref b301), .val (.ref r368), .val (.int (1 : Int32)), .val (.int (0 : Int32)), .val (.int (0 : Int32)), .val (.int (3 : Int32))] [(.ref r368)])) _
        refine XS.iconst X367.here hx rfl (hb hby at_326) ?_
        show Steps p.tables e below (T367.setTop (mkF m 327 #[.val (.int p0), .val (.int p1), .val (.int p2), .val (.int p3), .val (.int (3 : Int32)), .val (.int (own_e0 p1)), .val (.int (own_e1 p1 p2)), .val (.int (own_e2 p1 p2 p3)), .val (.ref b266), .val (.ref b301), .val (.ref r368), .val (.int (1 : Int32)), .val (.int (0 : Int32)), .val (.int (0 : Int32)), .val (.int (3 : Int32))] [(.int (1 : Int32)), (.ref r368)])) _
        refine X367.iaload hx (j := (1 : Int32)) (v := (.int ((own_e1 p1 p2) - (1 : Int32)))) Ar384.1 (State.isArrayOf_alike hZ.alike Ar384.2.1) Ar384.2.2 hin384 hat384 (g := (mkF m 327 #[.val (.int p0), .val (.int p1), .val (.int p2), .val (.int p3), .val (.int (3 : Int32)), .val (.int (own_e0 p1)), .val (.int (own_e1 p1 p2)), .val (.int (own_e2 p1 p2 p3)), .val (.ref b266), .val (.ref b301), .val (.ref r368), .val (.int (1 : Int32)), .val (.int (0 : Int32)), .val (.int (0 : Int32)), .val (.int (3 : Int32))] [(.int (1 : Int32)), (.ref r368)])) rfl rfl (hb hby at_327) _ ?_
        show Steps p.tables e below (T367.setTop (mkF m 328 #[.val (.int p0), .val (.int p1), .val (.int p2), .val (.int p3), .val (.int (3 : Int32)), .val (.int (own_e0 p1)), .val (.int (own_e1 p1 p2)), .val (.int (own_e2 p1 p2 p3)), .val (.ref b266), .val (.ref b301), .val (.ref r368), .val (.int (1 : Int32)), .val (.int (0 : Int32)), .val (.int (0 : Int32)), .val (.int (3 : Int32))] [(.int ((own_e1 p1 p2) - (1 : Int32)))])) _
        refine XS.aload X367.here hx rfl (hb hby at_328) rfl rfl ?_
        show Steps p.tables e below (T367.setTop (mkF m 330 #[.val (.int p0), .val (.int p1), .val (.int p2), .val (.int p3), .val (.int (3 : Int32)), .val (.int (own_e0 p1)), .val (.int (own_e1 p1 p2)), .val (.int (own_e2 p1 p2 p3)), .val (.ref b266), .val (.ref b301), .val (.ref r368), .val (.int (1 : Int32)), .val (.int (0 : Int32)), .val (.int (0 : Int32)), .val (.int (3 : Int32))] [(.ref b301), (.int ((own_e1 p1 p2) - (1 : Int32)))])) _
        refine XS.iload X367.here hx rfl (hb hby at_330) rfl ?_
        show Steps p.tables e below (T367.setTop (mkF m 332 #[.val (.int p0), .val (.int p1), .val (.int p2), .val (.int p3), .val (.int (3 : Int32)), .val (.int (own_e0 p1)), .val (.int (own_e1 p1 p2)), .val (.int (own_e2 p1 p2 p3)), .val (.ref b266), .val (.ref b301), .val (.ref r368), .val (.int (1 : Int32)), .val (.int (0 : Int32)), .val (.int (0 : Int32)), .val (.int (3 : Int32))] [(.int (0 : Int32)), (.ref b301), (.int ((own_e1 p1 p2) - (1 : Int32)))])) _
        refine XS.iconst X367.here hx rfl (hb hby at_332) ?_
        show Steps p.tables e below (T367.setTop (mkF m 333 #[.val (.int p0), .val (.int p1), .val (.int p2), .val (.int p3), .val (.int (3 : Int32)), .val (.int (own_e0 p1)), .val (.int (own_e1 p1 p2)), .val (.int (own_e2 p1 p2 p3)), .val (.ref b266), .val (.ref b301), .val (.ref r368), .val (.int (1 : Int32)), .val (.int (0 : Int32)), .val (.int (0 : Int32)), .val (.int (3 : Int32))] [(.int (1 : Int32)), (.int (0 : Int32)), (.ref b301), (.int ((own_e1 p1 p2) - (1 : Int32)))])) _
        refine XS.iadd X367.here hx rfl (hb hby at_333) rfl ?_
        show Steps p.tables e below (T367.setTop (mkF m 334 #[.val (.int p0), .val (.int p1), .val (.int p2), .val (.int p3), .val (.int (3 : Int32)), .val (.int (own_e0 p1)), .val (.int (own_e1 p1 p2)), .val (.int (own_e2 p1 p2 p3)), .val (.ref b266), .val (.ref b301), .val (.ref r368), .val (.int (1 : Int32)), .val (.int (0 : Int32)), .val (.int (0 : Int32)), .val (.int (3 : Int32))] [(.int (1 : Int32)), (.ref b301), (.int ((own_e1 p1 p2) - (1 : Int32)))])) _
        refine X367.iaload hx (j := (1 : Int32)) (v := (.int (own_e1 p1 p2))) Ar385.1 (State.isArrayOf_alike hZ.alike Ar385.2.1) Ar385.2.2 hin385 hat385 (g := (mkF m 334 #[.val (.int p0), .val (.int p1), .val (.int p2), .val (.int p3), .val (.int (3 : Int32)), .val (.int (own_e0 p1)), .val (.int (own_e1 p1 p2)), .val (.int (own_e2 p1 p2 p3)), .val (.ref b266), .val (.ref b301), .val (.ref r368), .val (.int (1 : Int32)), .val (.int (0 : Int32)), .val (.int (0 : Int32)), .val (.int (3 : Int32))] [(.int (1 : Int32)), (.ref b301), (.int ((own_e1 p1 p2) - (1 : Int32)))])) rfl rfl (hb hby at_334) _ ?_
        show Steps p.tables e below (T367.setTop (mkF m 335 #[.val (.int p0), .val (.int p1), .val (.int p2), .val (.int p3), .val (.int (3 : Int32)), .val (.int (own_e0 p1)), .val (.int (own_e1 p1 p2)), .val (.int (own_e2 p1 p2 p3)), .val (.ref b266), .val (.ref b301), .val (.ref r368), .val (.int (1 : Int32)), .val (.int (0 : Int32)), .val (.int (0 : Int32)), .val (.int (3 : Int32))] [(.int (own_e1 p1 p2)), (.int ((own_e1 p1 p2) - (1 : Int32)))])) _
        refine XS.iconst X367.here hx rfl (hb hby at_335) ?_
        show Steps p.tables e below (T367.setTop (mkF m 336 #[.val (.int p0), .val (.int p1), .val (.int p2), .val (.int p3), .val (.int (3 : Int32)), .val (.int (own_e0 p1)), .val (.int (own_e1 p1 p2)), .val (.int (own_e2 p1 p2 p3)), .val (.ref b266), .val (.ref b301), .val (.ref r368), .val (.int (1 : Int32)), .val (.int (0 : Int32)), .val (.int (0 : Int32)), .val (.int (3 : Int32))] [(.int (1 : Int32)), (.int (own_e1 p1 p2)), (.int ((own_e1 p1 p2) - (1 : Int32)))])) _
        refine XS.isub X367.here hx rfl (hb hby at_336) rfl ?_
        show Steps p.tables e below (T367.setTop (mkF m 337 #[.val (.int p0), .val (.int p1), .val (.int p2), .val (.int p3), .val (.int (3 : Int32)), .val (.int (own_e0 p1)), .val (.int (own_e1 p1 p2)), .val (.int (own_e2 p1 p2 p3)), .val (.ref b266), .val (.ref b301), .val (.ref r368), .val (.int (1 : Int32)), .val (.int (0 : Int32)), .val (.int (0 : Int32)), .val (.int (3 : Int32))] [(.int ((own_e1 p1 p2) - (1 : Int32))), (.int ((own_e1 p1 p2) - (1 : Int32)))])) _
        refine XS.icmpNo X367.here hx rfl (hb hby at_337) rfl (teq (rfl : ((own_e1 p1 p2) - (1 : Int32)) = ((own_e1 p1 p2) - (1 : Int32)))).2 ?_
        show Steps p.tables e below (T367.setTop (mkF m 340 #[.val (.int p0), .val (.int p1), .val (.int p2), .val (.int p3), .val (.int (3 : Int32)), .val (.int (own_e0 p1)), .val (.int (own_e1 p1 p2)), .val (.int (own_e2 p1 p2 p3)), .val (.ref b266), .val (.ref b301), .val (.ref r368), .val (.int (1 : Int32)), .val (.int (0 : Int32)), .val (.int (0 : Int32)), .val (.int (3 : Int32))] [])) _
        refine XS.iconst X367.here hx rfl (hb hby at_340) ?_
        show Steps p.tables e below (T367.setTop (mkF m 341 #[.val (.int p0), .val (.int p1), .val (.int p2), .val (.int p3), .val (.int (3 : Int32)), .val (.int (own_e0 p1)), .val (.int (own_e1 p1 p2)), .val (.int (own_e2 p1 p2 p3)), .val (.ref b266), .val (.ref b301), .val (.ref r368), .val (.int (1 : Int32)), .val (.int (0 : Int32)), .val (.int (0 : Int32)), .val (.int (3 : Int32))] [(.int (1 : Int32))])) _
        refine XS.goto X367.here hx rfl (pc0 := 341) (pc' := 345) rfl (hb hby at_341) (by decide) (by decide) ?_
        show Steps p.tables e below (T367.setTop (mkF m 345 #[.val (.int p0), .val (.int p1), .val (.int p2), .val (.int p3), .val (.int (3 : Int32)), .val (.int (own_e0 p1)), .val (.int (own_e1 p1 p2)), .val (.int (own_e2 p1 p2 p3)), .val (.ref b266), .val (.ref b301), .val (.ref r368), .val (.int (1 : Int32)), .val (.int (0 : Int32)), .val (.int (0 : Int32)), .val (.int (3 : Int32))] [(.int (1 : Int32))])) _
        refine XS.istore X367.here hx rfl (hb hby at_345) rfl (l' := #[.val (.int p0), .val (.int p1), .val (.int p2), .val (.int p3), .val (.int (3 : Int32)), .val (.int (own_e0 p1)), .val (.int (own_e1 p1 p2)), .val (.int (own_e2 p1 p2 p3)), .val (.ref b266), .val (.ref b301), .val (.ref r368), .val (.int (1 : Int32)), .val (.int (0 : Int32)), .val (.int (0 : Int32)), .val (.int (3 : Int32))]) rfl ?_
        show Steps p.tables e below (T367.setTop (mkF m 347 #[.val (.int p0), .val (.int p1), .val (.int p2), .val (.int p3), .val (.int (3 : Int32)), .val (.int (own_e0 p1)), .val (.int (own_e1 p1 p2)), .val (.int (own_e2 p1 p2 p3)), .val (.ref b266), .val (.ref b301), .val (.ref r368), .val (.int (1 : Int32)), .val (.int (0 : Int32)), .val (.int (0 : Int32)), .val (.int (3 : Int32))] [])) _
        refine XS.iload X367.here hx rfl (hb hby at_347) rfl ?_
        show Steps p.tables e below (T367.setTop (mkF m 349 #[.val (.int p0), .val (.int p1), .val (.int p2), .val (.int p3), .val (.int (3 : Int32)), .val (.int (own_e0 p1)), .val (.int (own_e1 p1 p2)), .val (.int (own_e2 p1 p2 p3)), .val (.ref b266), .val (.ref b301), .val (.ref r368), .val (.int (1 : Int32)), .val (.int (0 : Int32)), .val (.int (0 : Int32)), .val (.int (3 : Int32))] [(.int (3 : Int32))])) _
        refine XS.iconst X367.here hx rfl (hb hby at_349) ?_
        show Steps p.tables e below (T367.setTop (mkF m 350 #[.val (.int p0), .val (.int p1), .val (.int p2), .val (.int p3), .val (.int (3 : Int32)), .val (.int (own_e0 p1)), .val (.int (own_e1 p1 p2)), .val (.int (own_e2 p1 p2 p3)), .val (.ref b266), .val (.ref b301), .val (.ref r368), .val (.int (1 : Int32)), .val (.int (0 : Int32)), .val (.int (0 : Int32)), .val (.int (3 : Int32))] [(.int (2 : Int32)), (.int (3 : Int32))])) _
        refine XS.icmpNo X367.here hx rfl (hb hby at_350) rfl (tlt (by decide : (2 : Int32) < (3 : Int32))).2.2.2 ?_
        show Steps p.tables e below (T367.setTop (mkF m 353 #[.val (.int p0), .val (.int p1), .val (.int p2), .val (.int p3), .val (.int (3 : Int32)), .val (.int (own_e0 p1)), .val (.int (own_e1 p1 p2)), .val (.int (own_e2 p1 p2 p3)), .val (.ref b266), .val (.ref b301), .val (.ref r368), .val (.int (1 : Int32)), .val (.int (0 : Int32)), .val (.int (0 : Int32)), .val (.int (3 : Int32))] [])) _
        refine XS.iload X367.here hx rfl (hb hby at_353) rfl ?_
        show Steps p.tables e below (T367.setTop (mkF m 355 #[.val (.int p0), .val (.int p1), .val (.int p2), .val (.int p3), .val (.int (3 : Int32)), .val (.int (own_e0 p1)), .val (.int (own_e1 p1 p2)), .val (.int (own_e2 p1 p2 p3)), .val (.ref b266), .val (.ref b301), .val (.ref r368), .val (.int (1 : Int32)), .val (.int (0 : Int32)), .val (.int (0 : Int32)), .val (.int (3 : Int32))] [(.int (1 : Int32))])) _
        refine XS.ifNo X367.here hx rfl (hb hby at_355) rfl ((if0 _ _).trans (feq (by decide : ¬ ((1 : Int32) = (0 : Int32)))).1) ?_
        show Steps p.tables e below (T367.setTop (mkF m 358 #[.val (.int p0), .val (.int p1), .val (.int p2), .val (.int p3), .val (.int (3 : Int32)), .val (.int (own_e0 p1)), .val (.int (own_e1 p1 p2)), .val (.int (own_e2 p1 p2 p3)), .val (.ref b266), .val (.ref b301), .val (.ref r368), .val (.int (1 : Int32)), .val (.int (0 : Int32)), .val (.int (0 : Int32)), .val (.int (3 : Int32))] [])) _
        refine XS.aload X367.here hx rfl (hb hby at_358) rfl rfl ?_
        show Steps p.tables e below (T367.setTop (mkF m 360 #[.val (.int p0), .val (.int p1), .val (.int p2), .val (.int p3), .val (.int (3 : Int32)), .val (.int (own_e0 p1)), .val (.int (own_e1 p1 p2)), .val (.int (own_e2 p1 p2 p3)), .val (.ref b266), .val (.ref b301), .val (.ref r368), .val (.int (1 : Int32)), .val (.int (0 : Int32)), .val (.int (0 : Int32)), .val (.int (3 : Int32))] [(.ref r368)])) _
        refine XS.iconst X367.here hx rfl (hb hby at_360) ?_
        show Steps p.tables e below (T367.setTop (mkF m 361 #[.val (.int p0), .val (.int p1), .val (.int p2), .val (.int p3), .val (.int (3 : Int32)), .val (.int (own_e0 p1)), .val (.int (own_e1 p1 p2)), .val (.int (own_e2 p1 p2 p3)), .val (.ref b266), .val (.ref b301), .val (.ref r368), .val (.int (1 : Int32)), .val (.int (0 : Int32)), .val (.int (0 : Int32)), .val (.int (3 : Int32))] [(.int (2 : Int32)), (.ref r368)])) _
        refine X367.iaload hx (j := (2 : Int32)) (v := (.int ((own_e2 p1 p2 p3) - (1 : Int32)))) Ar386.1 (State.isArrayOf_alike hZ.alike Ar386.2.1) Ar386.2.2 hin386 hat386 (g := (mkF m 361 #[.val (.int p0), .val (.int p1), .val (.int p2), .val (.int p3), .val (.int (3 : Int32)), .val (.int (own_e0 p1)), .val (.int (own_e1 p1 p2)), .val (.int (own_e2 p1 p2 p3)), .val (.ref b266), .val (.ref b301), .val (.ref r368), .val (.int (1 : Int32)), .val (.int (0 : Int32)), .val (.int (0 : Int32)), .val (.int (3 : Int32))] [(.int (2 : Int32)), (.ref r368)])) rfl rfl (hb hby at_361) _ ?_
        show Steps p.tables e below (T367.setTop (mkF m 362 #[.val (.int p0), .val (.int p1), .val (.int p2), .val (.int p3), .val (.int (3 : Int32)), .val (.int (own_e0 p1)), .val (.int (own_e1 p1 p2)), .val (.int (own_e2 p1 p2 p3)), .val (.ref b266), .val (.ref b301), .val (.ref r368), .val (.int (1 : Int32)), .val (.int (0 : Int32)), .val (.int (0 : Int32)), .val (.int (3 : Int32))] [(.int ((own_e2 p1 p2 p3) - (1 : Int32)))])) _
        refine XS.aload X367.here hx rfl (hb hby at_362) rfl rfl ?_
        show Steps p.tables e below (T367.setTop (mkF m 364 #[.val (.int p0), .val (.int p1), .val (.int p2), .val (.int p3), .val (.int (3 : Int32)), .val (.int (own_e0 p1)), .val (.int (own_e1 p1 p2)), .val (.int (own_e2 p1 p2 p3)), .val (.ref b266), .val (.ref b301), .val (.ref r368), .val (.int (1 : Int32)), .val (.int (0 : Int32)), .val (.int (0 : Int32)), .val (.int (3 : Int32))] [(.ref b301), (.int ((own_e2 p1 p2 p3) - (1 : Int32)))])) _
        refine XS.iload X367.here hx rfl (hb hby at_364) rfl ?_
        show Steps p.tables e below (T367.setTop (mkF m 366 #[.val (.int p0), .val (.int p1), .val (.int p2), .val (.int p3), .val (.int (3 : Int32)), .val (.int (own_e0 p1)), .val (.int (own_e1 p1 p2)), .val (.int (own_e2 p1 p2 p3)), .val (.ref b266), .val (.ref b301), .val (.ref r368), .val (.int (1 : Int32)), .val (.int (0 : Int32)), .val (.int (0 : Int32)), .val (.int (3 : Int32))] [(.int (0 : Int32)), (.ref b301), (.int ((own_e2 p1 p2 p3) - (1 : Int32)))])) _
        refine XS.iconst X367.here hx rfl (hb hby at_366) ?_
        show Steps p.tables e below (T367.setTop (mkF m 367 #[.val (.int p0), .val (.int p1), .val (.int p2), .val (.int p3), .val (.int (3 : Int32)), .val (.int (own_e0 p1)), .val (.int (own_e1 p1 p2)), .val (.int (own_e2 p1 p2 p3)), .val (.ref b266), .val (.ref b301), .val (.ref r368), .val (.int (1 : Int32)), .val (.int (0 : Int32)), .val (.int (0 : Int32)), .val (.int (3 : Int32))] [(.int (2 : Int32)), (.int (0 : Int32)), (.ref b301), (.int ((own_e2 p1 p2 p3) - (1 : Int32)))])) _
        refine XS.iadd X367.here hx rfl (hb hby at_367) rfl ?_
        show Steps p.tables e below (T367.setTop (mkF m 368 #[.val (.int p0), .val (.int p1), .val (.int p2), .val (.int p3), .val (.int (3 : Int32)), .val (.int (own_e0 p1)), .val (.int (own_e1 p1 p2)), .val (.int (own_e2 p1 p2 p3)), .val (.ref b266), .val (.ref b301), .val (.ref r368), .val (.int (1 : Int32)), .val (.int (0 : Int32)), .val (.int (0 : Int32)), .val (.int (3 : Int32))] [(.int (2 : Int32)), (.ref b301), (.int ((own_e2 p1 p2 p3) - (1 : Int32)))])) _
        refine X367.iaload hx (j := (2 : Int32)) (v := (.int (own_e2 p1 p2 p3))) Ar387.1 (State.isArrayOf_alike hZ.alike Ar387.2.1) Ar387.2.2 hin387 hat387 (g := (mkF m 368 #[.val (.int p0), .val (.int p1), .val (.int p2), .val (.int p3), .val (.int (3 : Int32)), .val (.int (own_e0 p1)), .val (.int (own_e1 p1 p2)), .val (.int (own_e2 p1 p2 p3)), .val (.ref b266), .val (.ref b301), .val (.ref r368), .val (.int (1 : Int32)), .val (.int (0 : Int32)), .val (.int (0 : Int32)), .val (.int (3 : Int32))] [(.int (2 : Int32)), (.ref b301), (.int ((own_e2 p1 p2 p3) - (1 : Int32)))])) rfl rfl (hb hby at_368) _ ?_
        show Steps p.tables e below (T367.setTop (mkF m 369 #[.val (.int p0), .val (.int p1), .val (.int p2), .val (.int p3), .val (.int (3 : Int32)), .val (.int (own_e0 p1)), .val (.int (own_e1 p1 p2)), .val (.int (own_e2 p1 p2 p3)), .val (.ref b266), .val (.ref b301), .val (.ref r368), .val (.int (1 : Int32)), .val (.int (0 : Int32)), .val (.int (0 : Int32)), .val (.int (3 : Int32))] [(.int (own_e2 p1 p2 p3)), (.int ((own_e2 p1 p2 p3) - (1 : Int32)))])) _
        refine XS.iconst X367.here hx rfl (hb hby at_369) ?_
        show Steps p.tables e below (T367.setTop (mkF m 370 #[.val (.int p0), .val (.int p1), .val (.int p2), .val (.int p3), .val (.int (3 : Int32)), .val (.int (own_e0 p1)), .val (.int (own_e1 p1 p2)), .val (.int (own_e2 p1 p2 p3)), .val (.ref b266), .val (.ref b301), .val (.ref r368), .val (.int (1 : Int32)), .val (.int (0 : Int32)), .val (.int (0 : Int32)), .val (.int (3 : Int32))] [(.int (1 : Int32)), (.int (own_e2 p1 p2 p3)), (.int ((own_e2 p1 p2 p3) - (1 : Int32)))])) _
        refine XS.isub X367.here hx rfl (hb hby at_370) rfl ?_
        show Steps p.tables e below (T367.setTop (mkF m 371 #[.val (.int p0), .val (.int p1), .val (.int p2), .val (.int p3), .val (.int (3 : Int32)), .val (.int (own_e0 p1)), .val (.int (own_e1 p1 p2)), .val (.int (own_e2 p1 p2 p3)), .val (.ref b266), .val (.ref b301), .val (.ref r368), .val (.int (1 : Int32)), .val (.int (0 : Int32)), .val (.int (0 : Int32)), .val (.int (3 : Int32))] [(.int ((own_e2 p1 p2 p3) - (1 : Int32))), (.int ((own_e2 p1 p2 p3) - (1 : Int32)))])) _
        refine XS.icmpNo X367.here hx rfl (hb hby at_371) rfl (teq (rfl : ((own_e2 p1 p2 p3) - (1 : Int32)) = ((own_e2 p1 p2 p3) - (1 : Int32)))).2 ?_
        show Steps p.tables e below (T367.setTop (mkF m 374 #[.val (.int p0), .val (.int p1), .val (.int p2), .val (.int p3), .val (.int (3 : Int32)), .val (.int (own_e0 p1)), .val (.int (own_e1 p1 p2)), .val (.int (own_e2 p1 p2 p3)), .val (.ref b266), .val (.ref b301), .val (.ref r368), .val (.int (1 : Int32)), .val (.int (0 : Int32)), .val (.int (0 : Int32)), .val (.int (3 : Int32))] [])) _
        refine XS.iconst X367.here hx rfl (hb hby at_374) ?_
        show Steps p.tables e below (T367.setTop (mkF m 375 #[.val (.int p0), .val (.int p1), .val (.int p2), .val (.int p3), .val (.int (3 : Int32)), .val (.int (own_e0 p1)), .val (.int (own_e1 p1 p2)), .val (.int (own_e2 p1 p2 p3)), .val (.ref b266), .val (.ref b301), .val (.ref r368), .val (.int (1 : Int32)), .val (.int (0 : Int32)), .val (.int (0 : Int32)), .val (.int (3 : Int32))] [(.int (1 : Int32))])) _
        refine XS.goto X367.here hx rfl (pc0 := 375) (pc' := 379) rfl (hb hby at_375) (by decide) (by decide) ?_
        show Steps p.tables e below (T367.setTop (mkF m 379 #[.val (.int p0), .val (.int p1), .val (.int p2), .val (.int p3), .val (.int (3 : Int32)), .val (.int (own_e0 p1)), .val (.int (own_e1 p1 p2)), .val (.int (own_e2 p1 p2 p3)), .val (.ref b266), .val (.ref b301), .val (.ref r368), .val (.int (1 : Int32)), .val (.int (0 : Int32)), .val (.int (0 : Int32)), .val (.int (3 : Int32))] [(.int (1 : Int32))])) _
        refine XS.istore X367.here hx rfl (hb hby at_379) rfl (l' := #[.val (.int p0), .val (.int p1), .val (.int p2), .val (.int p3), .val (.int (3 : Int32)), .val (.int (own_e0 p1)), .val (.int (own_e1 p1 p2)), .val (.int (own_e2 p1 p2 p3)), .val (.ref b266), .val (.ref b301), .val (.ref r368), .val (.int (1 : Int32)), .val (.int (0 : Int32)), .val (.int (0 : Int32)), .val (.int (3 : Int32))]) rfl ?_
        show Steps p.tables e below (T367.setTop (mkF m 381 #[.val (.int p0), .val (.int p1), .val (.int p2), .val (.int p3), .val (.int (3 : Int32)), .val (.int (own_e0 p1)), .val (.int (own_e1 p1 p2)), .val (.int (own_e2 p1 p2 p3)), .val (.ref b266), .val (.ref b301), .val (.ref r368), .val (.int (1 : Int32)), .val (.int (0 : Int32)), .val (.int (0 : Int32)), .val (.int (3 : Int32))] [])) _
        refine XS.iload X367.here hx rfl (hb hby at_381) rfl ?_
        exact kt
      obtain ⟨fs, hr, hrun, hended, hW, hsame⟩ := X367.leave (v := some (.int (1 : Int32))) (fun h => by rw [Bd.returns] at h; cases h)
      refine ⟨_, _, pre388 _ ?_, hrun, hended, _, _, rfl, ?_, ⟨_, rfl⟩, hW, hsame.mono (by decide) (by decide)⟩
      · show Steps p.tables e below (T367.setTop (mkF m 383 #[.val (.int p0), .val (.int p1), .val (.int p2), .val (.int p3), .val (.int (3 : Int32)), .val (.int (own_e0 p1)), .val (.int (own_e1 p1 p2)), .val (.int (own_e2 p1 p2 p3)), .val (.ref b266), .val (.ref b301), .val (.ref r368), .val (.int (1 : Int32)), .val (.int (0 : Int32)), .val (.int (0 : Int32)), .val (.int (3 : Int32))] [(.int (1 : Int32))])) _
        exact retN X367 hx (t := .boolean) Bd.returns (by simp) (hb hby at_383) hr
      · show own_Q_law Z p0 p1 p2 p3 aS h0 n0 (some (.int (1 : Int32))) T367.heap _
        skip
        exact ⟨rfl, nf376⟩
set_option maxRecDepth 65536 in
set_option maxHeartbeats 40000000 in
theorem own_comes {Post : Tables → Env → Array Value → State → Outcome → State → Prop} (hpost : ∀ tb e args s v u, (limb_1_1.after args s (.returned v) u = true ∧ limb_1_2.after args s (.returned v) u = true ∧ True) → FrameEnd s (.returned v) u (Jvm.fieldLocs frame_1_writes args s ++ Jvm.arrayLocs frame_1_arrays args s ++ Jvm.staticLocs frame_1_statics s) 16 128 → Post tb e args s (.returned v) u) :
    ArmFor flags0 classFile x code maxLocals ret World_1 tables_1 room_1 Calls_1 rest_1 Pre_1 Post := by
  intro l hfl _ _ p e ha hc hk s m args below hf hA hF happ hP
  obtain ⟨hcalls, hrest, hpre⟩ := hP
  obtain ⟨-, -, -, hnamed, -, -, -, hat⟩ := (Spec.applies_iff hf).mp happ
  obtain ⟨hg, hn⟩ := and_e (Cond.before_iff.mp (show (Jvm.Cond.and given_1 narrow_1).before args s = true from hpre))
  obtain ⟨hcount, hq0⟩ := and_e hg
  obtain ⟨hi0, hq1⟩ := and_e hq0
  obtain ⟨hi1, hq2⟩ := and_e hq1
  obtain ⟨hi2, hq3⟩ := and_e hq2
  have hi3 := hq3
  obtain ⟨w0, w1, w2, w3, rfl⟩ : ∃ w0 w1 w2 w3 : Value, args = #[w0, w1, w2, w3] := by
    have hs : args.size = 4 := by simpa [Cond.value, given_1] using hcount
    obtain ⟨L⟩ := args
    match L, hs with
    | [w0, w1, w2, w3], _ => exact ⟨w0, w1, w2, w3, rfl⟩
  have hw := fun d (hd : d ∈ tables_1) => atoms_spec (ws := Jvm.Cond.code x code maxLocals ret :: tables_1) hat d (List.mem_cons_of_mem _ hd)
  have hfit : Fit s := fun {y c} hc i hi => by
    obtain ⟨ha, rfl⟩ := Array.getElem?_eq_some_iff.mp hc
    have q := List.all_eq_true.mp ((Array.all_eq_true_iff_forall_mem.mp hF) _ (Array.getElem_mem ha)) i (List.mem_range.mpr hi)
    simpa [Array.getElem?_eq_getElem hi] using q
  obtain ⟨i0, ei0⟩ := is_v hi0
  obtain rfl : w0 = (.int i0) := Option.some.inj ei0
  obtain ⟨i1, ei1⟩ := is_v hi1
  obtain rfl : w1 = (.int i1) := Option.some.inj ei1
  obtain ⟨i2, ei2⟩ := is_v hi2
  obtain rfl : w2 = (.int i2) := Option.some.inj ei2
  obtain ⟨i3, ei3⟩ := is_v hi3
  obtain rfl : w3 = (.int i3) := Option.some.inj ei3
  obtain ⟨c1, c2⟩ := and_e hn
  obtain ⟨aS, evS⟩ := arr_v c1
  have S0 := Sta.start evS (Or.inr ⟨(hw _ (List.mem_of_getElem? (i := 5) rfl)), (hw _ (List.mem_of_getElem? (i := 8) rfl))⟩)
  have AS := own_emp evS c1 c2
  obtain ⟨n, o, h1, h2, h3, _, L, rfl, ⟨rfl, N⟩, hq⟩ := own_rm_law l s _ hw tables_1 i0 i1 i2 i3 aS s.heap s.heap.size (Nat.le_refl _) S0 AS p e ha hc hk s m _ below hf ((Spec.applies_iff_loose hf).mp happ).1 ⟨rfl, State.Warmed39.refl s, rfl⟩ trivial
  refine ⟨n, _, h1, h2, h3, hpost _ _ _ _ _ _ ⟨Cond.after_iff.mpr rfl, Cond.after_iff.mpr (eq_i res_at (Term.int_eval (1)) rfl), trivial⟩ ⟨hq.1, hq.2.1, (hq.2.2.sift fun y hy => Or.inr (N y hy)).mono (by decide) (by decide)⟩⟩
theorem main_1_1 : Claimed_1_1 := own_comes fun _ _ _ _ _ _ h hF => ⟨h.1, hF⟩
theorem main_1_2 : Claimed_1_2 := own_comes fun _ _ _ _ _ _ h hF => ⟨h.2.1, hF⟩
end Jvm.Pilot.@@N@@
namespace Jvm.Pilot.@@N@@
open Jvm Jvm.ClassFile Sem Op Lib Jvm.Free Jvm.Stand Jvm.Pilot.@@N@@.Jvm.D
/-! MADE BY PROGRAM (witnessworld.py) out of the Statement's table words and the real class files: 9 classes; the members and pool entries that the words name. The judged class is class 1, her method 1. -/
namespace start1
open Jvm.ClassFile
def u (s : String) : CpInfo := .utf8 (stringToUtf16 s)
/-- a pool by its gaps: so many unusable entries, then the entry; so many at the end -/
def gap : Nat → List CpInfo → List CpInfo
  | 0, r => r
  | n + 1, r => .unusable :: gap n r
def poolList (es : List (Nat × CpInfo)) (last : Nat) : List CpInfo := es.foldr (fun e r => gap e.1 (e.2 :: r)) (gap last [])
def pool (es : List (Nat × CpInfo)) (last : Nat) : Array CpInfo := ⟨poolList es last⟩
def fileOf (pool : Array CpInfo) (this : Nat) (attrs : Array Attribute := #[]) (ms : Array MethodInfo := #[]) (fl : Nat := 33) (sup : Nat := 0) (ifs : Array Nat := #[]) (fds : Array FieldInfo := #[]) : ClassFile where
  minorVersion := 0
  majorVersion := 65
  constantPool := pool
  accessFlags := fl
  thisClass := this
  superClass := sup
  interfaces := ifs
  fields := fds
  methods := ms
  attributes := attrs
def plain (name : String) (sup : Option ClassId) : Class where
  name := name
  kind := .ordinary
  loader := none
  accessFlags := 33
  super := sup
  interfaces := #[]
  cf := none
  fields := #[]
  methods := #[]
  instanceTypes := #[]
  staticTypes := #[]
  resolved := #[]
  callSites := []
  init := .initialized
  statics := none
  mirror := none

def pool0 : Array CpInfo := pool [(5, u "<init>"), (0, u "()V"), (1, .class_ 10), (1, u "java/lang/Object")] 113

def k0m0 : Method := { name := "<init>", desc := "()V", sig := { parameters := [], returnType := none }, accessFlags := 1, code := none }
/-- java/lang/Object -/
def k0 : Class := { plain "java/lang/Object" none with
  accessFlags := 33
  interfaces := #[]
  cf := some (fileOf pool0 8 #[] #[{ accessFlags := 1, nameIndex := 5, descriptorIndex := 6, attributes := #[] }] 33 0 #[] #[])
  fields := #[]
  methods := #[k0m0]
  instanceTypes := #[]
  staticTypes := #[]
  resolved := Array.replicate 124 none
  statics := none }

def pool1 : Array CpInfo := pool [(2, .class_ 4), (1, u "java/lang/Object"), (0, u "<init>"), (0, u "()V"), (0, .integer 1073741823), (0, .integer 536870911), (0, .methodref 10 11), (0, .class_ 12), (0, .nameAndType 13 14), (0, u "com/example/unfold/unfold/semantics/GateSets"), (0, u "outsideHide"), (0, u "([I)[I"), (0, .class_ 16), (0, u "com/example/unfold/unfold/semantics/GateSetsOutsideHidePinLaw"), (2, u "law"), (0, u "(IIII)Z")] 5

def k1m0 : Method := { name := "<init>", desc := "()V", sig := { parameters := [], returnType := none }, accessFlags := 2, code := none }
def k1c1 : Code := { maxStack := 4, maxLocals := 15, code := code, exceptionTable := #[], attributes := #[] }
def k1m1 : Method := { name := "law", desc := "(IIII)Z", sig := { parameters := [.int, .int, .int, .int], returnType := some .boolean }, accessFlags := 9, code := some k1c1 }
/-- com/example/unfold/unfold/semantics/GateSetsOutsideHidePinLaw -/
def k1 : Class := { plain "com/example/unfold/unfold/semantics/GateSetsOutsideHidePinLaw" (some 0) with
  accessFlags := 49
  interfaces := #[]
  cf := some (fileOf pool1 15 #[] #[{ accessFlags := 2, nameIndex := 5, descriptorIndex := 6, attributes := #[] }, { accessFlags := 9, nameIndex := 19, descriptorIndex := 20, attributes := #[] }] 49 2 #[] #[])
  fields := #[]
  methods := #[k1m0, k1m1]
  instanceTypes := #[]
  staticTypes := #[]
  resolved := Array.replicate 26 none
  statics := none }

def pool2 : Array CpInfo := pool [(2, .class_ 4), (1, u "java/lang/Object"), (0, u "<init>"), (0, u "()V"), (3, u "[I"), (8, .fieldref 20 21), (0, .class_ 22), (0, .nameAndType 23 10), (0, u "com/example/unfold/unfold/semantics/GateSets"), (0, u "EMPTY"), (17, u "([I)[I"), (8, u "outsideHide")] 9

def k2m0 : Method := { name := "<init>", desc := "()V", sig := { parameters := [], returnType := none }, accessFlags := 2, code := none }
def k2c1 : Code := { maxStack := 5, maxLocals := 4, code := prog_142_method_4_code, exceptionTable := #[], attributes := #[] }
def k2m1 : Method := { name := "outsideHide", desc := "([I)[I", sig := { parameters := [(.array .int)], returnType := some (.array .int) }, accessFlags := 8, code := some k2c1 }
/-- com/example/unfold/unfold/semantics/GateSets -/
def k2 : Class := { plain "com/example/unfold/unfold/semantics/GateSets" (some 0) with
  accessFlags := 32
  interfaces := #[]
  cf := some (fileOf pool2 20 #[] #[{ accessFlags := 2, nameIndex := 5, descriptorIndex := 6, attributes := #[] }, { accessFlags := 8, nameIndex := 50, descriptorIndex := 41, attributes := #[] }] 32 2 #[] #[{ accessFlags := 24, nameIndex := 23, descriptorIndex := 10, attributes := #[] }])
  fields := #[{ name := "EMPTY", type := (.array .int), accessFlags := 24, slot := 0, constantValue := 0 }]
  methods := #[k2m0, k2m1]
  instanceTypes := #[]
  staticTypes := #[(.array .int)]
  resolved := Array.replicate 60 none
  statics := some 0 }

def pool3 : Array CpInfo := pool [(1, u "java/lang/Cloneable"), (0, .class_ 1), (0, u "java/lang/Object"), (0, .class_ 3)] 3

/-- java/lang/Cloneable -/
def k3 : Class := { plain "java/lang/Cloneable" (some 0) with
  accessFlags := 1537
  interfaces := #[]
  cf := some (fileOf pool3 2 #[] #[] 1537 4 #[] #[])
  fields := #[]
  methods := #[]
  instanceTypes := #[]
  staticTypes := #[]
  resolved := Array.replicate 8 none
  statics := none }

def pool4 : Array CpInfo := pool [(1, u "java/io/Serializable"), (0, .class_ 1), (0, u "java/lang/Object"), (0, .class_ 3)] 3

/-- java/io/Serializable -/
def k4 : Class := { plain "java/io/Serializable" (some 0) with
  accessFlags := 1537
  interfaces := #[]
  cf := some (fileOf pool4 2 #[] #[] 1537 4 #[] #[])
  fields := #[]
  methods := #[]
  instanceTypes := #[]
  staticTypes := #[]
  resolved := Array.replicate 8 none
  statics := none }

/-- the primitive byte -/
def k5 : Class := { plain "byte" none with kind := .primitive 'B', accessFlags := 0x411 }
/-- [B -/
def k6 : Class := { plain "[B" (some 0) with kind := .array 5 .byte, interfaces := #[3, 4], accessFlags := 1041 }

/-- the primitive int -/
def k7 : Class := { plain "int" none with kind := .primitive 'I', accessFlags := 0x411 }
/-- [I -/
def k8 : Class := { plain "[I" (some 0) with kind := .array 7 .int, interfaces := #[3, 4], accessFlags := 1041 }

def heap : Heap := #[{ cls := 2, slots := #[.ref 1], vm := .statics 2 },
  { cls := 8, slots := #[], vm := .none }]
def classes : Array Class := #[k0, k1, k2, k3, k4, k5, k6, k7, k8]
def interned : List (Array UInt16 × Addr) := []
def slotsUsed : Nat := 1
def theMethod : MethodId := ⟨1, 1⟩
def args0 : Array Value := #[.int 3, .int 6, .int 2, .int 1]
def aboutOver (below : List Frame) : State where
  vm := { classes := classes, interned := interned.toArray }
  heap := heap
  slotsUsed := slotsUsed
  threads := #[{ frames := .invoking theMethod args0 :: below }]
def below0 : List Frame := [.native { method := ⟨0, 0⟩, args := #[] }]
def about1 : State := aboutOver below0
def p0 : Program := .bare "" "" ""
def e0 : Env := launch0.env 0 0 0
theorem w_frames : about1.frames = Frame.invoking theMethod args0 :: below0 := rfl
set_option maxRecDepth 65536 in
theorem w_args : argsFit about1.vm theMethod args0 = true := by decide +kernel
set_option maxRecDepth 65536 in
theorem w_heap : heapFits about1 = true := by decide +kernel
set_option maxRecDepth 65536 in
theorem w_runnable : about1.curStatus? = some .runnable := by decide +kernel
set_option maxRecDepth 65536 in
theorem w_alone : about1.alone = true := by decide +kernel
set_option maxRecDepth 65536 in
theorem w_named : about1.methodNamed? x = some theMethod := by decide +kernel
set_option maxRecDepth 65536 in
theorem w_hears : about1.hears theMethod below0 = true := by decide +kernel
set_option maxRecDepth 65536 in
theorem w_ripe : about1.ripe theMethod args0 below0 = true := by decide +kernel
theorem w_running : about1.status = .running := rfl
set_option maxRecDepth 65536 in
theorem w_room : about1.hasRoom e0.platform room_1 = true :=
  launch0.hasRoom_least _ room_1 (by decide +kernel) (by decide +kernel) (by decide +kernel) (by decide +kernel) (by decide +kernel) (by decide +kernel)
theorem allAtoms_all (ts : List Jvm.Cond) (a : Array Jvm.Value) (st : Jvm.State) : (allAtoms ts).before a st = ts.all (fun c => c.before a st) := by
  induction ts with
  | nil => rfl
  | cons c t ih =>
    show (Jvm.Cond.and c (allAtoms t)).before a st = _
    rw [Jvm.Cond.before_and, ih, List.all_cons]
def words1 : List Jvm.Cond := Jvm.Cond.code x code maxLocals ret :: tables_1
/-- a 'code' word, met by the world's own term for the bytes: nothing is compared byte by byte -/
theorem code_word {y : MethodName} {bytes : ByteArray} {mx : Nat} {rt : Option FieldType} {a : Array Value} {s : State} {m : MethodId} {meth : Method} {c : Code} (h1 : s.methodNamed? y = some m) (h2 : s.vm.method? m = some meth) (h3 : meth.code = some c) (h4 : c.code = bytes)
    (h5 : (c.maxLocals == mx && c.exceptionTable.isEmpty && decide (c.maxStack ≤ mostOperands) && decide (meth.sig.returnType = rt) && !meth.locks && decide (parseMethodDescriptor y.desc = some meth.sig)) = true) : (Jvm.Cond.code y bytes mx rt).before a s = true := by
  simp only [Bool.and_eq_true, beq_iff_eq, Bool.not_eq_true', decide_eq_true_eq] at h5
  obtain ⟨⟨⟨⟨⟨g1, g2⟩, g3⟩, g4⟩, g5⟩, g6⟩ := h5
  simp [Cond.before, Cond.holds, Cond.value, h1, h2, h3, h4, g1, g2, g3, g4, g5, g6]
def isCode : Jvm.Cond → Bool
  | .code _ _ _ _ => true
  | _ => false
theorem all_split {L : List Jvm.Cond} {P : Jvm.Cond → Bool} (h1 : L.all (fun c => isCode c || P c) = true) (h2 : ∀ c ∈ L.filter isCode, P c = true) : L.all P = true := by
  refine List.all_eq_true.mpr fun c hc => ?_
  have h := List.all_eq_true.mp h1 c hc
  rcases Bool.eq_false_or_eq_true (isCode c) with hi | hi
  · exact h2 c (List.mem_filter.mpr ⟨hc, hi⟩)
  · simpa [hi] using h
set_option maxRecDepth 65536 in
theorem w_c0 : (Jvm.Cond.code x code maxLocals ret).before args0 about1 = true := code_word (m := ⟨1, 1⟩) (meth := k1m1) (c := k1c1) (by decide +kernel) rfl rfl rfl (by decide +kernel)
set_option maxRecDepth 65536 in
theorem w_c1 : (Jvm.Cond.code ({ cls := "com/example/unfold/unfold/semantics/GateSets", name := "outsideHide", desc := "([I)[I" } : Jvm.MethodName) prog_142_method_4_code (4 : Nat) (Option.some (Jvm.ClassFile.FieldType.array Jvm.ClassFile.FieldType.int))).before args0 about1 = true := code_word (m := ⟨2, 1⟩) (meth := k2m1) (c := k2c1) (by decide +kernel) rfl rfl rfl (by decide +kernel)
def codes1 : List Jvm.Cond := [Jvm.Cond.code x code maxLocals ret, Jvm.Cond.code ({ cls := "com/example/unfold/unfold/semantics/GateSets", name := "outsideHide", desc := "([I)[I" } : Jvm.MethodName) prog_142_method_4_code (4 : Nat) (Option.some (Jvm.ClassFile.FieldType.array Jvm.ClassFile.FieldType.int))]
set_option maxRecDepth 65536 in
theorem codes_eq : words1.filter isCode = codes1 := rfl
theorem w_codes : ∀ c ∈ words1.filter isCode, c.before args0 about1 = true := by
  rw [codes_eq]
  intro c hc
  simp only [codes1, List.mem_cons, List.not_mem_nil, or_false] at hc
  rcases hc with rfl | rfl
  · exact w_c0
  · exact w_c1
set_option maxRecDepth 65536 in
theorem w_t1 : words1.all (fun c => isCode c || c.before args0 about1) = true := by decide +kernel
theorem w_tables : (allAtoms (Jvm.Cond.code x code maxLocals ret :: tables_1)).before args0 about1 = true := by
  rw [allAtoms_all]
  show words1.all (fun c => c.before args0 about1) = true
  refine all_split ?_ w_codes
  rw [w_t1]
set_option maxRecDepth 65536 in
theorem w_case : (Jvm.Cond.and given_1 narrow_1).before args0 about1 = true := by decide +kernel
theorem w_applies : (headSpec (Jvm.Cond.code x code maxLocals ret :: tables_1) room_1).applies x e0.platform about1 = true :=
  (Spec.applies_iff w_frames).mpr ⟨w_running, w_runnable, w_alone, w_named, w_hears, w_ripe, w_room, w_tables⟩
theorem atStart : AtStart classFile x code maxLocals ret World_1 tables_1 room_1 Calls_1 rest_1 Pre_1 launch0 p0 e0 about1 theMethod args0 below0 :=
  ⟨lists_1, trivial, launch0.admits_env _ _ _, launch0.least_env, fairChoices_fair.cas, fairChoices_fair.clock, w_frames, w_args, w_heap, w_applies, trivial, trivial, w_case⟩
end start1
theorem witness_1 : WitnessClaimed_1 := ⟨start1.p0, start1.e0, start1.about1, start1.theMethod, start1.args0, start1.below0, start1.atStart⟩
end Jvm.Pilot.@@N@@
