import JvmDerived
import JvmDerived.Pilot.@@N@@Statement
import JvmDerived.Pilot.@@N@@Code
set_option linter.unusedVariables false
set_option linter.unusedSimpArgs false
namespace Jvm.RoadKit
open Sem ClassFile Op Lib Jvm.Stand Jvm.Free Jvm.LawKit
section New
variable {p : Program} {l : Launch} {e : Env} {R : Room} {s : State} {m : MethodId} {args : Array Value} {below : List Frame} {meth : Method} {c : Code} {T : State} {locs : List Loc} {cells slots : Nat}
theorem retI (X : Stand p l e R s m args below meth c T locs cells slots) (hx : p.tables.exec = Jvm.exec) {pc : Nat} {Ls : Array Slot} {z : Int32} {rest : List Value} (hret : meth.sig.returnType = some .int) (hd : decode c.code pc = .ok (.ireturn, 1)) {fs : List Frame}
    (hl : ∀ (f : JFrame) (acts : List Action), f.method = m → f.locked = none → f.entered = [] → (doReturn e (T.setTop f) acts (some (.int z))).1 = T.setFrames fs) : Steps p.tables e below (T.setTop (mkF m pc Ls (.int z :: rest))) (T.setFrames fs) := by
  have hm' : T.vm.method? m = some meth := X.method'
  have hn : narrow .int (.int z) = .int z := rfl
  show Steps p.tables e below (T.setTop { method := m, pc := pc, locals := Ls, stack := _ :: rest, locked := none }) _
  jvm_step X.here [X.here.top, hx, hd, hm', hret, hn]
  first | (intro acts; rw [hl _ acts rfl rfl rfl]) | rw [hl _ _ rfl rfl rfl]
  exact Steps.refl _
end New
end Jvm.RoadKit
namespace Jvm.Pilot.@@N@@
open Jvm Jvm.ClassFile Sem Op Lib Jvm.Free Jvm.Stand Jvm.LawKit Jvm.RoadKit Bundle Jvm.Pilot.@@N@@.Jvm.D
theorem own_sta_keep {Z : State} {h h' : Heap} {C n d : String} {v : Value} {ws : List Addr} (F : Sta Z h C n d v) (K : Keep h h' ws) (q : ∀ x ∈ ws, ∀ c : Cell, h[x]? = some c → c.vm.isStatics = false) : Sta Z h' C n d v := by
  obtain ⟨cf, i, k, f, st, cell, h1, h2, h3, h4, h5, h6, h7⟩ := F
  have ni : st ∉ ws := fun u => by
    have := q st u cell h5
    rw [this] at h6; exact absurd h6 (by decide)
  exact ⟨cf, i, k, f, st, cell, h1, h2, h3, h4, K.2.1 st cell h5 ni, h6, h7⟩
theorem own_pl_cons {Z : State} {h : Heap} {a : Addr} {C : String} {ws : List Addr} (E : Exa Z h a C) (q : ∀ x ∈ ws, ∀ c : Cell, h[x]? = some c → c.vm.isStatics = false) : ∀ x ∈ a :: ws, ∀ c : Cell, h[x]? = some c → c.vm.isStatics = false := fun x hx c hc => by
  rcases List.mem_cons.mp hx with rfl | hx
  · obtain ⟨cell, k, e1, -, -, e4, -⟩ := E
    cases hc.symm.trans e1; exact e4
  · exact q x hx c hc
def own_L (Z : State) (h : Heap) (a : Addr) (ty : FieldType) (n : Int32) : Prop := ∃ c : Cell, Arr Z h a c ty ∧ c.slots.size = n.toNatClampNeg
theorem own_L.lt {Z : State} {h : Heap} {a : Addr} {ty : FieldType} {n : Int32} (F : own_L Z h a ty n) : a < h.size := by obtain ⟨c, A, -⟩ := F; exact A.lt
theorem own_L.ext {Z : State} {h h' : Heap} {a : Addr} {ty : FieldType} {n : Int32} (F : own_L Z h a ty n) (E : Ext h h') : own_L Z h' a ty n := by obtain ⟨c, A, r⟩ := F; exact ⟨c, A.ext E, r⟩
theorem own_L.other {Z : State} {h h' : Heap} {a b : Addr} {ty : FieldType} {n : Int32} {sl : Nat} {v : Value} (F : own_L Z h b ty n) (W : Wr h h' a sl v) (q : b ≠ a) : own_L Z h' b ty n := by obtain ⟨c, A, r⟩ := F; exact ⟨c, A.other W q, r⟩
theorem own_L.same {Z : State} {h h' : Heap} {a : Addr} {ty : FieldType} {n : Int32} {sl : Nat} {v : Value} (F : own_L Z h a ty n) (W : Wr h h' a sl v) : own_L Z h' a ty n := by obtain ⟨c, A, r⟩ := F; exact ⟨_, A.same W, by rw [sz_set]; exact r⟩
theorem own_L.keep {Z : State} {h h' : Heap} {a : Addr} {ty : FieldType} {n : Int32} {ws : List Addr} (F : own_L Z h a ty n) (K : Keep h h' ws) (q : a ∉ ws) : own_L Z h' a ty n := by obtain ⟨c, A, r⟩ := F; exact ⟨c, ⟨K.2.1 a c A.1 q, A.2⟩, r⟩
theorem own_d_jdk_22_method_1_0 : decode jdk_22_method_1_code 0 = .ok (.aload_n 0, 1) := by decide +kernel
theorem own_d_jdk_22_method_1_1 : decode jdk_22_method_1_code 1 = .ok (.invokespecial 1, 3) := by decide +kernel
theorem own_d_jdk_22_method_1_4 : decode jdk_22_method_1_code 4 = .ok (.return_, 1) := by decide +kernel
theorem own_pn0 : plainName "java/util/AbstractCollection" = true := by first | (simp [plainName, overriddenIn]; done) | decide +kernel
theorem own_ef_ac (m : MethodId) (a1 : Addr) : entryFrame m #[(.ref a1)] 1 = mkF m 0 #[.val (.ref a1)] [] := by first | (simp [entryFrame, mkF, argsToLocals, Value.category]; done) | rfl
def own_Q_ac (Z : State) (a1 : Addr) (h0 : Heap) (n0 : Nat) (v : Option Value) (h : Heap) (L : List Loc) : Prop := v = none ∧ Fr n0 L ∧ h = h0
set_option maxRecDepth 65536 in
set_option maxHeartbeats 40000000 in
theorem own_rm_ac (l : Launch) (Z : State) (a0 : Array Value) (hw : ∀ d ∈ tables_1, d.before a0 Z = true) (ws : List Jvm.Cond) (a1 : Addr) (h0 : Heap) (n0 : Nat) (Z0 : n0 ≤ h0.size) :
    MetFree l (⟨"java/util/AbstractCollection", "<init>", "()V"⟩ : MethodName) (head1 (Jvm.Cond.code (⟨"java/util/AbstractCollection", "<init>", "()V"⟩ : MethodName) jdk_22_method_1_code 1 none :: ws) ({ frames := 1, cells := 0, slots := 0, locals := 12 } : Room)) (fun a U => a = #[(.ref a1)] ∧ Z.Warmed39 U.vm ∧ U.heap = h0) (fun _ _ _ _ _ => True) (fun _ U o U' => ∃ v L, o = .returned v ∧ own_Q_ac Z a1 h0 n0 v U'.heap L ∧ FrameEnd U o U' L ({ frames := 1, cells := 0, slots := 0, locals := 12 } : Room).cells ({ frames := 1, cells := 0, slots := 0, locals := 12 } : Room).slots) := by
  refine MetFree.of_bodySF (plainFor_of_name own_pn0) hisR ?_
  intro p e s m args below meth c s₁ Bd hml0 hP hK
  obtain ⟨rfl, hZ, hh⟩ := hP
  have hx := Bd.exec
  have hby := Bd.bytes
  have hml : c.maxLocals = 1 := hml0
  have hown : s.vm.findClass "java/util/AbstractCollection" = some m.cls := findClass_of_methodNamed Bd.named
  have hnm := (name_of_methodNamed Bd.named Bd.method).1
  have X0 : Stand p l e ({ frames := 1, cells := 0, slots := 0, locals := 12 } : Room) s m #[(.ref a1)] below meth c s₁ [] 0 0 := Stand.of_body Bd
  have e0 : s₁.heap = h0 := by rw [← hh, Bd.state]; rfl
  have N0 := Fr.nil n0
  have K0 : Keep h0 h0 [] := Keep.refl _ _
  have pre0 : ∀ t, Steps p.tables e below (s₁.setTop (mkF m 0 #[.val (.ref a1)] [])) t → Steps p.tables e below (s₁.setTop (entryFrame m #[(.ref a1)] 1)) t := fun t k => castTop (own_ef_ac m a1) k
  obtain ⟨T1, X1, e1, st1⟩ := initO X0 hx hZ hown (hw _ (List.mem_of_getElem? (i := 28) rfl)) (hw _ (List.mem_of_getElem? (i := 8) rfl)) (hw _ (List.mem_of_getElem? (i := 9) rfl)) e0 (g := (mkF m 1 #[.val (.ref a1)] [(.ref a1)])) rfl (by rw [hml]; rfl) rfl (hb hby own_d_jdk_22_method_1_1) (by decide) (W := 0) (by show 2 * 0 + _ ≤ _; exact Nat.le_of_eq rfl) (by decide)
  have pre2 : ∀ t, Steps p.tables e below (T1.setTop (mkF m 4 #[.val (.ref a1)] [])) t → Steps p.tables e below (s₁.setTop (entryFrame m #[(.ref a1)] 1)) t := by
    intro t kt
    refine pre0 t ?_
    show Steps p.tables e below (s₁.setTop (mkF m 0 #[.val (.ref a1)] [])) _
    refine XS.aloadN X0.here hx rfl (hb hby own_d_jdk_22_method_1_0) rfl rfl ?_
    show Steps p.tables e below (s₁.setTop (mkF m 1 #[.val (.ref a1)] [(.ref a1)])) _
    refine st1 _ ?_
    exact kt
  obtain ⟨fs, hr, hrun, hended, hW, hsame⟩ := X1.leave (v := none) (fun _ => rfl)
  refine ⟨_, _, pre2 _ ?_, hrun, hended, _, _, rfl, ?_, ⟨_, rfl⟩, hW, hsame.mono (by decide) (by decide)⟩
  · show Steps p.tables e below (T1.setTop (mkF m 4 #[.val (.ref a1)] [])) _
    exact X1.returnOut hx Bd.returns (hb hby own_d_jdk_22_method_1_4) hr
  · show own_Q_ac Z a1 h0 n0 (none) T1.heap _
    rw [e1]
    exact ⟨rfl, N0, rfl⟩
theorem own_d_jdk_39_method_1_0 : decode jdk_39_method_1_code 0 = .ok (.aload_n 0, 1) := by decide +kernel
theorem own_d_jdk_39_method_1_1 : decode jdk_39_method_1_code 1 = .ok (.invokespecial 1, 3) := by decide +kernel
theorem own_d_jdk_39_method_1_4 : decode jdk_39_method_1_code 4 = .ok (.aload_n 0, 1) := by decide +kernel
theorem own_d_jdk_39_method_1_5 : decode jdk_39_method_1_code 5 = .ok (.iconst 0, 1) := by decide +kernel
theorem own_d_jdk_39_method_1_6 : decode jdk_39_method_1_code 6 = .ok (.putfield 7, 3) := by decide +kernel
theorem own_d_jdk_39_method_1_9 : decode jdk_39_method_1_code 9 = .ok (.return_, 1) := by decide +kernel
theorem own_pd0 : parseMethodDescriptor "()V" = some ⟨[], none⟩ := by decide +kernel
theorem own_pn1 : plainName "java/util/AbstractList" = true := by first | (simp [plainName, overriddenIn]; done) | decide +kernel
theorem own_ef_ab (m : MethodId) (a1 : Addr) : entryFrame m #[(.ref a1)] 1 = mkF m 0 #[.val (.ref a1)] [] := by first | (simp [entryFrame, mkF, argsToLocals, Value.category]; done) | rfl
def own_Q_ab (Z : State) (a1 : Addr) (h0 : Heap) (n0 : Nat) (v : Option Value) (h : Heap) (L : List Loc) : Prop := v = none ∧ Fr n0 L ∧ Keep h0 h [a1] ∧ Fld Z h a1 "java/util/ArrayList" "elementData" "[Ljava/lang/Object;" .null
set_option maxRecDepth 65536 in
set_option maxHeartbeats 40000000 in
theorem own_rm_ab (l : Launch) (Z : State) (a0 : Array Value) (hw : ∀ d ∈ tables_1, d.before a0 Z = true) (ws : List Jvm.Cond) (a1 : Addr) (h0 : Heap) (n0 : Nat) (Z0 : n0 ≤ h0.size) (E1 : Exa Z h0 a1 "java/util/ArrayList") (F1 : Fld Z h0 a1 "java/util/AbstractList" "modCount" "I" (.int (0 : Int32))) (F2 : Fld Z h0 a1 "java/util/ArrayList" "elementData" "[Ljava/lang/Object;" .null) (g1 : n0 ≤ a1) :
    MetFree l (⟨"java/util/AbstractList", "<init>", "()V"⟩ : MethodName) (head1 (Jvm.Cond.code (⟨"java/util/AbstractList", "<init>", "()V"⟩ : MethodName) jdk_39_method_1_code 1 none :: ws) ({ frames := 2, cells := 0, slots := 0, locals := 24 } : Room)) (fun a U => a = #[(.ref a1)] ∧ Z.Warmed39 U.vm ∧ U.heap = h0) (fun _ _ _ _ _ => True) (fun _ U o U' => ∃ v L, o = .returned v ∧ own_Q_ab Z a1 h0 n0 v U'.heap L ∧ FrameEnd U o U' L ({ frames := 2, cells := 0, slots := 0, locals := 24 } : Room).cells ({ frames := 2, cells := 0, slots := 0, locals := 24 } : Room).slots) := by
  refine MetFree.of_bodySF (plainFor_of_name own_pn1) hisR ?_
  intro p e s m args below meth c s₁ Bd hml0 hP hK
  obtain ⟨rfl, hZ, hh⟩ := hP
  have hx := Bd.exec
  have hby := Bd.bytes
  have hml : c.maxLocals = 1 := hml0
  have hown : s.vm.findClass "java/util/AbstractList" = some m.cls := findClass_of_methodNamed Bd.named
  have hnm := (name_of_methodNamed Bd.named Bd.method).1
  have X0 : Stand p l e ({ frames := 2, cells := 0, slots := 0, locals := 24 } : Room) s m #[(.ref a1)] below meth c s₁ [] 0 0 := Stand.of_body Bd
  have e0 : s₁.heap = h0 := by rw [← hh, Bd.state]; rfl
  have N0 := Fr.nil n0
  have K0 : Keep h0 h0 [a1] := Keep.refl _ _
  have pre0 : ∀ t, Steps p.tables e below (s₁.setTop (mkF m 0 #[.val (.ref a1)] [])) t → Steps p.tables e below (s₁.setTop (entryFrame m #[(.ref a1)] 1)) t := fun t k => castTop (own_ef_ab m a1) k
  have zs1 : n0 ≤ h0.size := Nat.le_trans Z0 K0.1
  obtain ⟨_, _, ⟨T2, L2, k2, n2⟩, -, X2, ⟨Lc2, hQ2, l2, y2, z2⟩, st2⟩ := X0.specialBack hx (y := (⟨"java/util/AbstractCollection", "<init>", "()V"⟩ : MethodName)) rfl hown (mvT hZ (hw _ (List.mem_of_getElem? (i := 22) rfl))) (mvT hZ (hw _ (List.mem_of_getElem? (i := 23) rfl))) (mvT hZ (hw _ (List.mem_of_getElem? (i := 27) rfl))) (by decide) (backOf (W := 0) (own_rm_ac l Z a0 hw [] a1 h0 n0 zs1 ) hZ (hw _ (List.mem_of_getElem? (i := 27) rfl)) (hw _ (List.mem_of_getElem? (i := 26) rfl)) (by decide) (by decide)) (g := (mkF m 1 #[.val (.ref a1)] [(.ref a1)])) rfl (by rw [hml]; rfl) (Steps.refl _) (a := a1) (argsL := []) (rest := []) (lenOf own_pd0 rfl) rfl (by show 2 * 0 + _ ≤ _; exact Nat.le_of_eq rfl) (hb hby own_d_jdk_39_method_1_1) (fun _ _ => ⟨rfl, e0, (by decide : 0 + 0 ≤ _), (by decide : 0 + 0 ≤ _)⟩)
  dsimp only [Pt.U, Pt.locs, Pt.cells, Pt.slots] at X2 l2 y2 z2 st2 hQ2
  subst l2 y2 z2
  obtain ⟨rfl, N3, eq3⟩ := hQ2
  have nf4 := Fr.app N0 N3
  obtain ⟨T5, h5, X5, e5, W5, st5⟩ := putF X2 hx hZ hown (host := "") (Or.inl (hw _ (List.mem_of_getElem? (i := 29) rfl))) Via.refl eq3 F1 E1 (Or.inl (hw _ (List.mem_of_getElem? (i := 30) rfl))) (hw _ (List.mem_of_getElem? (i := 11) rfl)) (ty := .int) (by decide) rfl rfl (g := (mkF m 6 #[.val (.ref a1)] [(.int (0 : Int32)), (.ref a1)])) rfl rfl (hb hby own_d_jdk_39_method_1_6)
  have f6 := E1.wr W5
  have f8 := F2.other W5 (Or.inr (slot_ne (Or.inl (hw _ (List.mem_of_getElem? (i := 33) rfl))) (Or.inl (hw _ (List.mem_of_getElem? (i := 30) rfl))) (by decide) (t := (.array (.object "java/lang/Object"))) (t' := .int) (by decide) (by decide)))
  have k9 := K0.wr W5 (Or.inl (List.mem_of_getElem? (i := 0) rfl))
  have nf10 := Fr.snoc X5 nf4 g1
  have f11 := F1.same W5
  have pre12 : ∀ t, Steps p.tables e below (T5.setTop (mkF m 9 #[.val (.ref a1)] [])) t → Steps p.tables e below (s₁.setTop (entryFrame m #[(.ref a1)] 1)) t := by
    intro t kt
    refine pre0 t ?_
    show Steps p.tables e below (s₁.setTop (mkF m 0 #[.val (.ref a1)] [])) _
    refine XS.aloadN X0.here hx rfl (hb hby own_d_jdk_39_method_1_0) rfl rfl ?_
    show Steps p.tables e below (s₁.setTop (mkF m 1 #[.val (.ref a1)] [(.ref a1)])) _
    refine st2.trans ?_
    show Steps p.tables e below (T2.setTop (mkF m 4 #[.val (.ref a1)] [])) _
    refine XS.aloadN X2.here hx rfl (hb hby own_d_jdk_39_method_1_4) rfl rfl ?_
    show Steps p.tables e below (T2.setTop (mkF m 5 #[.val (.ref a1)] [(.ref a1)])) _
    refine XS.iconst X2.here hx rfl (hb hby own_d_jdk_39_method_1_5) ?_
    show Steps p.tables e below (T2.setTop (mkF m 6 #[.val (.ref a1)] [(.int (0 : Int32)), (.ref a1)])) _
    refine st5 _ ?_
    exact kt
  obtain ⟨fs, hr, hrun, hended, hW, hsame⟩ := X5.leave (v := none) (fun _ => rfl)
  refine ⟨_, _, pre12 _ ?_, hrun, hended, _, _, rfl, ?_, ⟨_, rfl⟩, hW, hsame.mono (by decide) (by decide)⟩
  · show Steps p.tables e below (T5.setTop (mkF m 9 #[.val (.ref a1)] [])) _
    exact X5.returnOut hx Bd.returns (hb hby own_d_jdk_39_method_1_9) hr
  · show own_Q_ab Z a1 h0 n0 (none) T5.heap _
    rw [e5]
    exact ⟨rfl, nf10, k9, f8⟩
theorem own_d_jdk_38_method_2_0 : decode jdk_38_method_2_code 0 = .ok (.aload_n 0, 1) := by decide +kernel
theorem own_d_jdk_38_method_2_1 : decode jdk_38_method_2_code 1 = .ok (.invokespecial 1, 3) := by decide +kernel
theorem own_d_jdk_38_method_2_4 : decode jdk_38_method_2_code 4 = .ok (.aload_n 0, 1) := by decide +kernel
theorem own_d_jdk_38_method_2_5 : decode jdk_38_method_2_code 5 = .ok (.getstatic 39, 3) := by decide +kernel
theorem own_d_jdk_38_method_2_8 : decode jdk_38_method_2_code 8 = .ok (.putfield 9, 3) := by decide +kernel
theorem own_d_jdk_38_method_2_11 : decode jdk_38_method_2_code 11 = .ok (.return_, 1) := by decide +kernel
theorem own_pn2 : plainName "java/util/ArrayList" = true := by first | (simp [plainName, overriddenIn]; done) | decide +kernel
theorem own_ef_al (m : MethodId) (a1 : Addr) : entryFrame m #[(.ref a1)] 1 = mkF m 0 #[.val (.ref a1)] [] := by first | (simp [entryFrame, mkF, argsToLocals, Value.category]; done) | rfl
def own_Q_al (Z : State) (a1 : Addr) (aS : Addr) (h0 : Heap) (n0 : Nat) (v : Option Value) (h : Heap) (L : List Loc) : Prop := v = none ∧ Fr n0 L ∧ Keep h0 h [a1]
set_option maxRecDepth 65536 in
set_option maxHeartbeats 40000000 in
theorem own_rm_al (l : Launch) (Z : State) (a0 : Array Value) (hw : ∀ d ∈ tables_1, d.before a0 Z = true) (ws : List Jvm.Cond) (a1 : Addr) (aS : Addr) (h0 : Heap) (n0 : Nat) (Z0 : n0 ≤ h0.size) (S0 : Sta Z h0 "java/util/ArrayList" "DEFAULTCAPACITY_EMPTY_ELEMENTDATA" "[Ljava/lang/Object;" (.ref aS)) (E1 : Exa Z h0 a1 "java/util/ArrayList") (F1 : Fld Z h0 a1 "java/util/AbstractList" "modCount" "I" (.int (0 : Int32))) (F2 : Fld Z h0 a1 "java/util/ArrayList" "elementData" "[Ljava/lang/Object;" .null) (g1 : n0 ≤ a1) :
    MetFree l (⟨"java/util/ArrayList", "<init>", "()V"⟩ : MethodName) (head1 (Jvm.Cond.code (⟨"java/util/ArrayList", "<init>", "()V"⟩ : MethodName) jdk_38_method_2_code 1 none :: ws) ({ frames := 3, cells := 0, slots := 0, locals := 36 } : Room)) (fun a U => a = #[(.ref a1)] ∧ Z.Warmed39 U.vm ∧ U.heap = h0) (fun _ _ _ _ _ => True) (fun _ U o U' => ∃ v L, o = .returned v ∧ own_Q_al Z a1 aS h0 n0 v U'.heap L ∧ FrameEnd U o U' L ({ frames := 3, cells := 0, slots := 0, locals := 36 } : Room).cells ({ frames := 3, cells := 0, slots := 0, locals := 36 } : Room).slots) := by
  refine MetFree.of_bodySF (plainFor_of_name own_pn2) hisR ?_
  intro p e s m args below meth c s₁ Bd hml0 hP hK
  obtain ⟨rfl, hZ, hh⟩ := hP
  have hx := Bd.exec
  have hby := Bd.bytes
  have hml : c.maxLocals = 1 := hml0
  have hown : s.vm.findClass "java/util/ArrayList" = some m.cls := findClass_of_methodNamed Bd.named
  have hnm := (name_of_methodNamed Bd.named Bd.method).1
  have X0 : Stand p l e ({ frames := 3, cells := 0, slots := 0, locals := 36 } : Room) s m #[(.ref a1)] below meth c s₁ [] 0 0 := Stand.of_body Bd
  have e0 : s₁.heap = h0 := by rw [← hh, Bd.state]; rfl
  have N0 := Fr.nil n0
  have K0 : Keep h0 h0 [a1] := Keep.refl _ _
  have pre0 : ∀ t, Steps p.tables e below (s₁.setTop (mkF m 0 #[.val (.ref a1)] [])) t → Steps p.tables e below (s₁.setTop (entryFrame m #[(.ref a1)] 1)) t := fun t k => castTop (own_ef_al m a1) k
  have zs1 : n0 ≤ h0.size := Nat.le_trans Z0 K0.1
  obtain ⟨_, _, ⟨T2, L2, k2, n2⟩, -, X2, ⟨Lc2, hQ2, l2, y2, z2⟩, st2⟩ := X0.specialBack hx (y := (⟨"java/util/AbstractList", "<init>", "()V"⟩ : MethodName)) rfl hown (mvT hZ (hw _ (List.mem_of_getElem? (i := 16) rfl))) (mvT hZ (hw _ (List.mem_of_getElem? (i := 17) rfl))) (mvT hZ (hw _ (List.mem_of_getElem? (i := 21) rfl))) (by decide) (backOf (W := 0) (own_rm_ab l Z a0 hw [] a1 h0 n0 zs1 E1 F1 F2 g1) hZ (hw _ (List.mem_of_getElem? (i := 21) rfl)) (hw _ (List.mem_of_getElem? (i := 20) rfl)) (by decide) (by decide)) (g := (mkF m 1 #[.val (.ref a1)] [(.ref a1)])) rfl (by rw [hml]; rfl) (Steps.refl _) (a := a1) (argsL := []) (rest := []) (lenOf own_pd0 rfl) rfl (by show 2 * 0 + _ ≤ _; exact Nat.le_of_eq rfl) (hb hby own_d_jdk_38_method_2_1) (fun _ _ => ⟨rfl, e0, (by decide : 0 + 0 ≤ _), (by decide : 0 + 0 ≤ _)⟩)
  dsimp only [Pt.U, Pt.locs, Pt.cells, Pt.slots] at X2 l2 y2 z2 st2 hQ2
  subst l2 y2 z2
  obtain ⟨rfl, N3, K3, c3_0⟩ := hQ2
  have f4 := own_sta_keep S0 K3 (own_pl_cons E1 all0)
  have f5 := E1.keep K3
  have k6 := K0.trans K3 (allS (Or.inl (List.mem_of_getElem? (i := 0) rfl)) all0)
  have nf7 := Fr.app N0 N3
  obtain ⟨T8, X8, e8, st8⟩ := getS2 X2 hx hZ hown (host := "") (Or.inl (hw _ (List.mem_of_getElem? (i := 31) rfl))) Via.refl rfl f4 (g := (mkF m 5 #[.val (.ref a1)] [(.ref a1)])) rfl (hb hby own_d_jdk_38_method_2_5)
  obtain ⟨T9, h9, X9, e9, W9, st9⟩ := putF X8 hx hZ hown (host := "") (Or.inl (hw _ (List.mem_of_getElem? (i := 32) rfl))) Via.refl e8 c3_0 f5 (Or.inl (hw _ (List.mem_of_getElem? (i := 33) rfl))) (hw _ (List.mem_of_getElem? (i := 11) rfl)) (ty := (.array (.object "java/lang/Object"))) (by decide) rfl rfl (g := (mkF m 8 #[.val (.ref a1)] [(.ref aS), (.ref a1)])) rfl rfl (hb hby own_d_jdk_38_method_2_8)
  have f10 := f4.wr W9
  have f11 := f5.wr W9
  have k13 := k6.wr W9 (Or.inl (List.mem_of_getElem? (i := 0) rfl))
  have nf14 := Fr.snoc X9 nf7 g1
  have f15 := c3_0.same W9
  have pre16 : ∀ t, Steps p.tables e below (T9.setTop (mkF m 11 #[.val (.ref a1)] [])) t → Steps p.tables e below (s₁.setTop (entryFrame m #[(.ref a1)] 1)) t := by
    intro t kt
    refine pre0 t ?_
    show Steps p.tables e below (s₁.setTop (mkF m 0 #[.val (.ref a1)] [])) _
    refine XS.aloadN X0.here hx rfl (hb hby own_d_jdk_38_method_2_0) rfl rfl ?_
    show Steps p.tables e below (s₁.setTop (mkF m 1 #[.val (.ref a1)] [(.ref a1)])) _
    refine st2.trans ?_
    show Steps p.tables e below (T2.setTop (mkF m 4 #[.val (.ref a1)] [])) _
    refine XS.aloadN X2.here hx rfl (hb hby own_d_jdk_38_method_2_4) rfl rfl ?_
    show Steps p.tables e below (T2.setTop (mkF m 5 #[.val (.ref a1)] [(.ref a1)])) _
    refine st8 _ ?_
    show Steps p.tables e below (T8.setTop (mkF m 8 #[.val (.ref a1)] [(.ref aS), (.ref a1)])) _
    refine st9 _ ?_
    exact kt
  obtain ⟨fs, hr, hrun, hended, hW, hsame⟩ := X9.leave (v := none) (fun _ => rfl)
  refine ⟨_, _, pre16 _ ?_, hrun, hended, _, _, rfl, ?_, ⟨_, rfl⟩, hW, hsame.mono (by decide) (by decide)⟩
  · show Steps p.tables e below (T9.setTop (mkF m 11 #[.val (.ref a1)] [])) _
    exact X9.returnOut hx Bd.returns (hb hby own_d_jdk_38_method_2_11) hr
  · show own_Q_al Z a1 aS h0 n0 (none) T9.heap _
    rw [e9]
    exact ⟨rfl, nf14, k13⟩
theorem own_d_prog_13_method_1_0 : decode prog_13_method_1_code 0 = .ok (.aload_n 0, 1) := by decide +kernel
theorem own_d_prog_13_method_1_1 : decode prog_13_method_1_code 1 = .ok (.invokespecial 1, 3) := by decide +kernel
theorem own_d_prog_13_method_1_4 : decode prog_13_method_1_code 4 = .ok (.aload_n 0, 1) := by decide +kernel
theorem own_d_prog_13_method_1_5 : decode prog_13_method_1_code 5 = .ok (.new 7, 3) := by decide +kernel
theorem own_d_prog_13_method_1_8 : decode prog_13_method_1_code 8 = .ok (.dup, 1) := by decide +kernel
theorem own_d_prog_13_method_1_9 : decode prog_13_method_1_code 9 = .ok (.invokespecial 9, 3) := by decide +kernel
theorem own_d_prog_13_method_1_12 : decode prog_13_method_1_code 12 = .ok (.putfield 10, 3) := by decide +kernel
theorem own_d_prog_13_method_1_15 : decode prog_13_method_1_code 15 = .ok (.aload_n 0, 1) := by decide +kernel
theorem own_d_prog_13_method_1_16 : decode prog_13_method_1_code 16 = .ok (.new 7, 3) := by decide +kernel
theorem own_d_prog_13_method_1_19 : decode prog_13_method_1_code 19 = .ok (.dup, 1) := by decide +kernel
theorem own_d_prog_13_method_1_20 : decode prog_13_method_1_code 20 = .ok (.invokespecial 9, 3) := by decide +kernel
theorem own_d_prog_13_method_1_23 : decode prog_13_method_1_code 23 = .ok (.putfield 16, 3) := by decide +kernel
theorem own_d_prog_13_method_1_26 : decode prog_13_method_1_code 26 = .ok (.aload_n 0, 1) := by decide +kernel
theorem own_d_prog_13_method_1_27 : decode prog_13_method_1_code 27 = .ok (.iload_n 1, 1) := by decide +kernel
theorem own_d_prog_13_method_1_28 : decode prog_13_method_1_code 28 = .ok (.putfield 19, 3) := by decide +kernel
theorem own_d_prog_13_method_1_31 : decode prog_13_method_1_code 31 = .ok (.aload_n 0, 1) := by decide +kernel
theorem own_d_prog_13_method_1_32 : decode prog_13_method_1_code 32 = .ok (.iload_n 2, 1) := by decide +kernel
theorem own_d_prog_13_method_1_33 : decode prog_13_method_1_code 33 = .ok (.putfield 23, 3) := by decide +kernel
theorem own_d_prog_13_method_1_36 : decode prog_13_method_1_code 36 = .ok (.aload_n 0, 1) := by decide +kernel
theorem own_d_prog_13_method_1_37 : decode prog_13_method_1_code 37 = .ok (.aload_n 3, 1) := by decide +kernel
theorem own_d_prog_13_method_1_38 : decode prog_13_method_1_code 38 = .ok (.putfield 26, 3) := by decide +kernel
theorem own_d_prog_13_method_1_41 : decode prog_13_method_1_code 41 = .ok (.return_, 1) := by decide +kernel
theorem own_pn3 : plainName "com/example/interleave/interleave/check/Expansion" = true := by first | (simp [plainName, overriddenIn]; done) | decide +kernel
theorem own_ef_exR (m : MethodId) (a1 : Addr) (p2 : Int32) (p3 : Int32) (a4 : Addr) : entryFrame m #[(.ref a1), (.int p2), (.int p3), (.ref a4)] 4 = mkF m 0 #[.val (.ref a1), .val (.int p2), .val (.int p3), .val (.ref a4)] [] := by first | (simp [entryFrame, mkF, argsToLocals, Value.category]; done) | rfl
def own_Q_exR (Z : State) (a1 : Addr) (p2 : Int32) (p3 : Int32) (a4 : Addr) (aS : Addr) (h0 : Heap) (n0 : Nat) (v : Option Value) (h : Heap) (L : List Loc) : Prop := v = none ∧ Fr n0 L ∧ Keep h0 h [a1] ∧ Fld Z h a1 "com/example/interleave/interleave/check/Expansion" "sourceId" "I" (.int p2) ∧ Fld Z h a1 "com/example/interleave/interleave/check/Expansion" "sourceParent" "I" (.int p3) ∧ Fld Z h a1 "com/example/interleave/interleave/check/Expansion" "sourceBytes" "[B" (.ref a4) ∧ Fld Z h a1 "com/example/interleave/interleave/check/Expansion" "fresh" "Ljava/util/List;" .null ∧ Fld Z h a1 "com/example/interleave/interleave/check/Expansion" "generated" "J" (.long (0 : Int64)) ∧ Fld Z h a1 "com/example/interleave/interleave/check/Expansion" "distinct" "J" (.long (0 : Int64)) ∧ Fld Z h a1 "com/example/interleave/interleave/check/Expansion" "depth" "I" (.int (0 : Int32))
set_option maxRecDepth 65536 in
set_option maxHeartbeats 40000000 in
theorem own_rm_exR (l : Launch) (Z : State) (a0 : Array Value) (hw : ∀ d ∈ tables_1, d.before a0 Z = true) (ws : List Jvm.Cond) (a1 : Addr) (p2 : Int32) (p3 : Int32) (a4 : Addr) (aS : Addr) (h0 : Heap) (n0 : Nat) (Z0 : n0 ≤ h0.size) (S0 : Sta Z h0 "java/util/ArrayList" "DEFAULTCAPACITY_EMPTY_ELEMENTDATA" "[Ljava/lang/Object;" (.ref aS)) (E1 : Exa Z h0 a1 "com/example/interleave/interleave/check/Expansion") (F_found : Fld Z h0 a1 "com/example/interleave/interleave/check/Expansion" "found" "Ljava/util/List;" .null) (F_printed : Fld Z h0 a1 "com/example/interleave/interleave/check/Expansion" "printed" "Ljava/util/List;" .null) (F_sourceId : Fld Z h0 a1 "com/example/interleave/interleave/check/Expansion" "sourceId" "I" (.int (0 : Int32))) (F_sourceParent : Fld Z h0 a1 "com/example/interleave/interleave/check/Expansion" "sourceParent" "I" (.int (0 : Int32))) (F_sourceBytes : Fld Z h0 a1 "com/example/interleave/interleave/check/Expansion" "sourceBytes" "[B" .null) (F_fresh : Fld Z h0 a1 "com/example/interleave/interleave/check/Expansion" "fresh" "Ljava/util/List;" .null) (F_generated : Fld Z h0 a1 "com/example/interleave/interleave/check/Expansion" "generated" "J" (.long (0 : Int64))) (F_distinct : Fld Z h0 a1 "com/example/interleave/interleave/check/Expansion" "distinct" "J" (.long (0 : Int64))) (F_depth : Fld Z h0 a1 "com/example/interleave/interleave/check/Expansion" "depth" "I" (.int (0 : Int32))) (g1 : n0 ≤ a1) :
    MetFree l (⟨"com/example/interleave/interleave/check/Expansion", "<init>", "(II[B)V"⟩ : MethodName) (head1 (Jvm.Cond.code (⟨"com/example/interleave/interleave/check/Expansion", "<init>", "(II[B)V"⟩ : MethodName) prog_13_method_1_code 4 none :: ws) ({ frames := 4, cells := 2, slots := 6, locals := 50 } : Room)) (fun a U => a = #[(.ref a1), (.int p2), (.int p3), (.ref a4)] ∧ Z.Warmed39 U.vm ∧ U.heap = h0) (fun _ _ _ _ _ => True) (fun _ U o U' => ∃ v L, o = .returned v ∧ own_Q_exR Z a1 p2 p3 a4 aS h0 n0 v U'.heap L ∧ FrameEnd U o U' L ({ frames := 4, cells := 2, slots := 6, locals := 50 } : Room).cells ({ frames := 4, cells := 2, slots := 6, locals := 50 } : Room).slots) := by
  refine MetFree.of_bodySF (plainFor_of_name own_pn3) hisR ?_
  intro p e s m args below meth c s₁ Bd hml0 hP hK
  obtain ⟨rfl, hZ, hh⟩ := hP
  have hx := Bd.exec
  have hby := Bd.bytes
  have hml : c.maxLocals = 4 := hml0
  have hown : s.vm.findClass "com/example/interleave/interleave/check/Expansion" = some m.cls := findClass_of_methodNamed Bd.named
  have hnm := (name_of_methodNamed Bd.named Bd.method).1
  have X0 : Stand p l e ({ frames := 4, cells := 2, slots := 6, locals := 50 } : Room) s m #[(.ref a1), (.int p2), (.int p3), (.ref a4)] below meth c s₁ [] 0 0 := Stand.of_body Bd
  have e0 : s₁.heap = h0 := by rw [← hh, Bd.state]; rfl
  have N0 := Fr.nil n0
  have K0 : Keep h0 h0 [a1] := Keep.refl _ _
  have pre0 : ∀ t, Steps p.tables e below (s₁.setTop (mkF m 0 #[.val (.ref a1), .val (.int p2), .val (.int p3), .val (.ref a4)] [])) t → Steps p.tables e below (s₁.setTop (entryFrame m #[(.ref a1), (.int p2), (.int p3), (.ref a4)] 4)) t := fun t k => castTop (own_ef_exR m a1 p2 p3 a4) k
  obtain ⟨T1, X1, e1, st1⟩ := initO X0 hx hZ hown (hw _ (List.mem_of_getElem? (i := 7) rfl)) (hw _ (List.mem_of_getElem? (i := 8) rfl)) (hw _ (List.mem_of_getElem? (i := 9) rfl)) e0 (g := (mkF m 1 #[.val (.ref a1), .val (.int p2), .val (.int p3), .val (.ref a4)] [(.ref a1)])) rfl (by rw [hml]; rfl) rfl (hb hby own_d_prog_13_method_1_1) (by decide) (W := 0) (by show 2 * 0 + _ ≤ _; exact Nat.le_of_eq rfl) (by decide)
  obtain ⟨T2, h2, X2, e2, E2, A2, D2, -, st2⟩ := newO X1 hx hZ hown (hw _ (List.mem_of_getElem? (i := 10) rfl)) (hw _ (List.mem_of_getElem? (i := 11) rfl)) (hw _ (List.mem_of_getElem? (i := 12) rfl)) e1 (g := (mkF m 5 #[.val (.ref a1), .val (.int p2), .val (.int p3), .val (.ref a4)] [(.ref a1)])) rfl (hb hby own_d_prog_13_method_1_5) (by decide) (by decide)
  obtain ⟨b2, g2⟩ : ∃ z, z = h0.size := ⟨_, rfl⟩
  rw [← g2] at A2 D2 st2
  have sz_b2 : h0.size ≤ b2 := Nat.le_trans K0.1 (Nat.le_of_eq g2.symm)
  have gn_b2 : n0 ≤ b2 := Nat.le_trans Z0 sz_b2
  have ne_a1_b2 : a1 ≠ b2 := Nat.ne_of_lt (Nat.lt_of_lt_of_le F_depth.lt (Nat.le_of_eq g2.symm))
  have f3 := S0.ext E2
  have f4 := E1.ext E2
  have f5 := F_found.ext E2
  have f6 := F_printed.ext E2
  have f7 := F_sourceId.ext E2
  have f8 := F_sourceParent.ext E2
  have f9 := F_sourceBytes.ext E2
  have f10 := F_fresh.ext E2
  have f11 := F_generated.ext E2
  have f12 := F_distinct.ext E2
  have f13 := F_depth.ext E2
  have k14 := K0.ext E2
  have f15 : Fld Z h2 b2 "java/util/AbstractList" "modCount" "I" (.int (0 : Int32)) := D2 (Or.inl (hw _ (List.mem_of_getElem? (i := 30) rfl))) (ty := .int) (by decide)
  have f16 : Fld Z h2 b2 "java/util/ArrayList" "elementData" "[Ljava/lang/Object;" .null := D2 (Or.inl (hw _ (List.mem_of_getElem? (i := 33) rfl))) (ty := (.array (.object "java/lang/Object"))) (by decide)
  have zs17 : n0 ≤ h2.size := Nat.le_trans Z0 k14.1
  obtain ⟨_, _, ⟨T18, L18, k18, n18⟩, -, X18, ⟨Lc18, hQ18, l18, y18, z18⟩, st18⟩ := X2.specialBack hx (y := (⟨"java/util/ArrayList", "<init>", "()V"⟩ : MethodName)) rfl hown (mvT hZ (hw _ (List.mem_of_getElem? (i := 13) rfl))) (mvT hZ (hw _ (List.mem_of_getElem? (i := 14) rfl))) (mvT hZ (hw _ (List.mem_of_getElem? (i := 15) rfl))) (by decide) (backOf (W := 2) (own_rm_al l Z a0 hw [] b2 aS h2 n0 zs17 f3 A2 f15 f16 gn_b2) hZ (hw _ (List.mem_of_getElem? (i := 15) rfl)) (hw _ (List.mem_of_getElem? (i := 12) rfl)) (by decide) (by decide)) (g := (mkF m 9 #[.val (.ref a1), .val (.int p2), .val (.int p3), .val (.ref a4)] [(.ref b2), (.ref b2), (.ref a1)])) rfl (by rw [hml]; rfl) (Steps.refl _) (a := b2) (argsL := []) (rest := [(.ref b2), (.ref a1)]) (lenOf own_pd0 rfl) rfl (by show 2 * 0 + _ ≤ _; exact Nat.le_of_eq rfl) (hb hby own_d_prog_13_method_1_9) (fun _ _ => ⟨rfl, e2, (by decide : 1 + 0 ≤ _), (by decide : 3 + 0 ≤ _)⟩)
  dsimp only [Pt.U, Pt.locs, Pt.cells, Pt.slots] at X18 l18 y18 z18 st18 hQ18
  subst l18 y18 z18
  obtain ⟨rfl, N19, K19⟩ := hQ18
  have f20 := own_sta_keep f3 K19 (own_pl_cons A2 all0)
  have f21 := f4.keep K19
  have f22 := f5.keep K19 (ninS ne_a1_b2 nin0)
  have f23 := f6.keep K19 (ninS ne_a1_b2 nin0)
  have f24 := f7.keep K19 (ninS ne_a1_b2 nin0)
  have f25 := f8.keep K19 (ninS ne_a1_b2 nin0)
  have f26 := f9.keep K19 (ninS ne_a1_b2 nin0)
  have f27 := f10.keep K19 (ninS ne_a1_b2 nin0)
  have f28 := f11.keep K19 (ninS ne_a1_b2 nin0)
  have f29 := f12.keep K19 (ninS ne_a1_b2 nin0)
  have f30 := f13.keep K19 (ninS ne_a1_b2 nin0)
  have f31 := A2.keep K19
  have k32 := k14.trans K19 (allS (Or.inr sz_b2) all0)
  have nf33 := Fr.app N0 N19
  obtain ⟨T34, h34, X34, e34, W34, st34⟩ := putF X18 hx hZ hown (host := "") (Or.inl (hw _ (List.mem_of_getElem? (i := 34) rfl))) Via.refl rfl f22 f21 (Or.inr ⟨(hw _ (List.mem_of_getElem? (i := 35) rfl)), rfl, hnm⟩) (hw _ (List.mem_of_getElem? (i := 2) rfl)) (ty := (.object "java/util/List")) (by decide) rfl rfl (g := (mkF m 12 #[.val (.ref a1), .val (.int p2), .val (.int p3), .val (.ref a4)] [(.ref b2), (.ref a1)])) rfl rfl (hb hby own_d_prog_13_method_1_12)
  have f35 := f20.wr W34
  have f36 := f21.wr W34
  have f38 := f23.other W34 (Or.inr (slot_ne (Or.inr (hw _ (List.mem_of_getElem? (i := 37) rfl))) (Or.inr (hw _ (List.mem_of_getElem? (i := 35) rfl))) (by decide) (t := (.object "java/util/List")) (t' := (.object "java/util/List")) (by decide) (by decide)))
  have f39 := f24.other W34 (Or.inr (slot_ne (Or.inr (hw _ (List.mem_of_getElem? (i := 39) rfl))) (Or.inr (hw _ (List.mem_of_getElem? (i := 35) rfl))) (by decide) (t := .int) (t' := (.object "java/util/List")) (by decide) (by decide)))
  have f40 := f25.other W34 (Or.inr (slot_ne (Or.inr (hw _ (List.mem_of_getElem? (i := 41) rfl))) (Or.inr (hw _ (List.mem_of_getElem? (i := 35) rfl))) (by decide) (t := .int) (t' := (.object "java/util/List")) (by decide) (by decide)))
  have f41 := f26.other W34 (Or.inr (slot_ne (Or.inr (hw _ (List.mem_of_getElem? (i := 43) rfl))) (Or.inr (hw _ (List.mem_of_getElem? (i := 35) rfl))) (by decide) (t := (.array .byte)) (t' := (.object "java/util/List")) (by decide) (by decide)))
  have f42 := f27.other W34 (Or.inr (slot_ne (Or.inl (hw _ (List.mem_of_getElem? (i := 52) rfl))) (Or.inr (hw _ (List.mem_of_getElem? (i := 35) rfl))) (by decide) (t := (.object "java/util/List")) (t' := (.object "java/util/List")) (by decide) (by decide)))
  have f43 := f28.other W34 (Or.inr (slot_ne (Or.inl (hw _ (List.mem_of_getElem? (i := 54) rfl))) (Or.inr (hw _ (List.mem_of_getElem? (i := 35) rfl))) (by decide) (t := .long) (t' := (.object "java/util/List")) (by decide) (by decide)))
  have f44 := f29.other W34 (Or.inr (slot_ne (Or.inl (hw _ (List.mem_of_getElem? (i := 56) rfl))) (Or.inr (hw _ (List.mem_of_getElem? (i := 35) rfl))) (by decide) (t := .long) (t' := (.object "java/util/List")) (by decide) (by decide)))
  have f45 := f30.other W34 (Or.inr (slot_ne (Or.inl (hw _ (List.mem_of_getElem? (i := 58) rfl))) (Or.inr (hw _ (List.mem_of_getElem? (i := 35) rfl))) (by decide) (t := .int) (t' := (.object "java/util/List")) (by decide) (by decide)))
  have f46 := f31.wr W34
  have k47 := k32.wr W34 (Or.inl (List.mem_of_getElem? (i := 0) rfl))
  have nf48 := Fr.snoc X34 nf33 g1
  have f49 := f22.same W34
  obtain ⟨T50, h50, X50, e50, E50, A50, D50, -, st50⟩ := newO X34 hx hZ hown (hw _ (List.mem_of_getElem? (i := 10) rfl)) (hw _ (List.mem_of_getElem? (i := 11) rfl)) (hw _ (List.mem_of_getElem? (i := 12) rfl)) e34 (g := (mkF m 16 #[.val (.ref a1), .val (.int p2), .val (.int p3), .val (.ref a4)] [(.ref a1)])) rfl (hb hby own_d_prog_13_method_1_16) (by decide) (by decide)
  obtain ⟨b50, g50⟩ : ∃ z, z = h34.size := ⟨_, rfl⟩
  rw [← g50] at A50 D50 st50
  have sz_b50 : h0.size ≤ b50 := Nat.le_trans k47.1 (Nat.le_of_eq g50.symm)
  have gn_b50 : n0 ≤ b50 := Nat.le_trans Z0 sz_b50
  have ne_a1_b50 : a1 ≠ b50 := Nat.ne_of_lt (Nat.lt_of_lt_of_le f45.lt (Nat.le_of_eq g50.symm))
  have ne_b2_b50 : b2 ≠ b50 := Nat.ne_of_lt (Nat.lt_of_lt_of_le f46.lt (Nat.le_of_eq g50.symm))
  have f51 := f35.ext E50
  have f52 := f36.ext E50
  have f53 := f49.ext E50
  have f54 := f38.ext E50
  have f55 := f39.ext E50
  have f56 := f40.ext E50
  have f57 := f41.ext E50
  have f58 := f42.ext E50
  have f59 := f43.ext E50
  have f60 := f44.ext E50
  have f61 := f45.ext E50
  have f62 := f46.ext E50
  have k63 := k47.ext E50
  have f64 : Fld Z h50 b50 "java/util/AbstractList" "modCount" "I" (.int (0 : Int32)) := D50 (Or.inl (hw _ (List.mem_of_getElem? (i := 30) rfl))) (ty := .int) (by decide)
  have f65 : Fld Z h50 b50 "java/util/ArrayList" "elementData" "[Ljava/lang/Object;" .null := D50 (Or.inl (hw _ (List.mem_of_getElem? (i := 33) rfl))) (ty := (.array (.object "java/lang/Object"))) (by decide)
  have zs66 : n0 ≤ h50.size := Nat.le_trans Z0 k63.1
  obtain ⟨_, _, ⟨T67, L67, k67, n67⟩, -, X67, ⟨Lc67, hQ67, l67, y67, z67⟩, st67⟩ := X50.specialBack hx (y := (⟨"java/util/ArrayList", "<init>", "()V"⟩ : MethodName)) rfl hown (mvT hZ (hw _ (List.mem_of_getElem? (i := 13) rfl))) (mvT hZ (hw _ (List.mem_of_getElem? (i := 14) rfl))) (mvT hZ (hw _ (List.mem_of_getElem? (i := 15) rfl))) (by decide) (backOf (W := 2) (own_rm_al l Z a0 hw [] b50 aS h50 n0 zs66 f51 A50 f64 f65 gn_b50) hZ (hw _ (List.mem_of_getElem? (i := 15) rfl)) (hw _ (List.mem_of_getElem? (i := 12) rfl)) (by decide) (by decide)) (g := (mkF m 20 #[.val (.ref a1), .val (.int p2), .val (.int p3), .val (.ref a4)] [(.ref b50), (.ref b50), (.ref a1)])) rfl (by rw [hml]; rfl) (Steps.refl _) (a := b50) (argsL := []) (rest := [(.ref b50), (.ref a1)]) (lenOf own_pd0 rfl) rfl (by show 2 * 0 + _ ≤ _; exact Nat.le_of_eq rfl) (hb hby own_d_prog_13_method_1_20) (fun _ _ => ⟨rfl, e50, (by decide : 2 + 0 ≤ _), (by decide : 6 + 0 ≤ _)⟩)
  dsimp only [Pt.U, Pt.locs, Pt.cells, Pt.slots] at X67 l67 y67 z67 st67 hQ67
  subst l67 y67 z67
  obtain ⟨rfl, N68, K68⟩ := hQ67
  have f69 := own_sta_keep f51 K68 (own_pl_cons A50 all0)
  have f70 := f52.keep K68
  have f71 := f53.keep K68 (ninS ne_a1_b50 nin0)
  have f72 := f54.keep K68 (ninS ne_a1_b50 nin0)
  have f73 := f55.keep K68 (ninS ne_a1_b50 nin0)
  have f74 := f56.keep K68 (ninS ne_a1_b50 nin0)
  have f75 := f57.keep K68 (ninS ne_a1_b50 nin0)
  have f76 := f58.keep K68 (ninS ne_a1_b50 nin0)
  have f77 := f59.keep K68 (ninS ne_a1_b50 nin0)
  have f78 := f60.keep K68 (ninS ne_a1_b50 nin0)
  have f79 := f61.keep K68 (ninS ne_a1_b50 nin0)
  have f80 := f62.keep K68
  have f81 := A50.keep K68
  have k82 := k63.trans K68 (allS (Or.inr sz_b50) all0)
  have nf83 := Fr.app nf48 N68
  obtain ⟨T84, h84, X84, e84, W84, st84⟩ := putF X67 hx hZ hown (host := "") (Or.inl (hw _ (List.mem_of_getElem? (i := 36) rfl))) Via.refl rfl f72 f70 (Or.inr ⟨(hw _ (List.mem_of_getElem? (i := 37) rfl)), rfl, hnm⟩) (hw _ (List.mem_of_getElem? (i := 2) rfl)) (ty := (.object "java/util/List")) (by decide) rfl rfl (g := (mkF m 23 #[.val (.ref a1), .val (.int p2), .val (.int p3), .val (.ref a4)] [(.ref b50), (.ref a1)])) rfl rfl (hb hby own_d_prog_13_method_1_23)
  have f85 := f69.wr W84
  have f86 := f70.wr W84
  have f87 := f71.other W84 (Or.inr (slot_ne (Or.inr (hw _ (List.mem_of_getElem? (i := 35) rfl))) (Or.inr (hw _ (List.mem_of_getElem? (i := 37) rfl))) (by decide) (t := (.object "java/util/List")) (t' := (.object "java/util/List")) (by decide) (by decide)))
  have f89 := f73.other W84 (Or.inr (slot_ne (Or.inr (hw _ (List.mem_of_getElem? (i := 39) rfl))) (Or.inr (hw _ (List.mem_of_getElem? (i := 37) rfl))) (by decide) (t := .int) (t' := (.object "java/util/List")) (by decide) (by decide)))
  have f90 := f74.other W84 (Or.inr (slot_ne (Or.inr (hw _ (List.mem_of_getElem? (i := 41) rfl))) (Or.inr (hw _ (List.mem_of_getElem? (i := 37) rfl))) (by decide) (t := .int) (t' := (.object "java/util/List")) (by decide) (by decide)))
  have f91 := f75.other W84 (Or.inr (slot_ne (Or.inr (hw _ (List.mem_of_getElem? (i := 43) rfl))) (Or.inr (hw _ (List.mem_of_getElem? (i := 37) rfl))) (by decide) (t := (.array .byte)) (t' := (.object "java/util/List")) (by decide) (by decide)))
  have f92 := f76.other W84 (Or.inr (slot_ne (Or.inl (hw _ (List.mem_of_getElem? (i := 52) rfl))) (Or.inr (hw _ (List.mem_of_getElem? (i := 37) rfl))) (by decide) (t := (.object "java/util/List")) (t' := (.object "java/util/List")) (by decide) (by decide)))
  have f93 := f77.other W84 (Or.inr (slot_ne (Or.inl (hw _ (List.mem_of_getElem? (i := 54) rfl))) (Or.inr (hw _ (List.mem_of_getElem? (i := 37) rfl))) (by decide) (t := .long) (t' := (.object "java/util/List")) (by decide) (by decide)))
  have f94 := f78.other W84 (Or.inr (slot_ne (Or.inl (hw _ (List.mem_of_getElem? (i := 56) rfl))) (Or.inr (hw _ (List.mem_of_getElem? (i := 37) rfl))) (by decide) (t := .long) (t' := (.object "java/util/List")) (by decide) (by decide)))
  have f95 := f79.other W84 (Or.inr (slot_ne (Or.inl (hw _ (List.mem_of_getElem? (i := 58) rfl))) (Or.inr (hw _ (List.mem_of_getElem? (i := 37) rfl))) (by decide) (t := .int) (t' := (.object "java/util/List")) (by decide) (by decide)))
  have f96 := f80.wr W84
  have f97 := f81.wr W84
  have k98 := k82.wr W84 (Or.inl (List.mem_of_getElem? (i := 0) rfl))
  have nf99 := Fr.snoc X84 nf83 g1
  have f100 := f72.same W84
  obtain ⟨T101, h101, X101, e101, W101, st101⟩ := putF X84 hx hZ hown (host := "") (Or.inl (hw _ (List.mem_of_getElem? (i := 38) rfl))) Via.refl e84 f89 f86 (Or.inr ⟨(hw _ (List.mem_of_getElem? (i := 39) rfl)), rfl, hnm⟩) (hw _ (List.mem_of_getElem? (i := 2) rfl)) (ty := .int) (by decide) rfl rfl (g := (mkF m 28 #[.val (.ref a1), .val (.int p2), .val (.int p3), .val (.ref a4)] [(.int p2), (.ref a1)])) rfl rfl (hb hby own_d_prog_13_method_1_28)
  have f102 := f85.wr W101
  have f103 := f86.wr W101
  have f104 := f87.other W101 (Or.inr (slot_ne (Or.inr (hw _ (List.mem_of_getElem? (i := 35) rfl))) (Or.inr (hw _ (List.mem_of_getElem? (i := 39) rfl))) (by decide) (t := (.object "java/util/List")) (t' := .int) (by decide) (by decide)))
  have f105 := f100.other W101 (Or.inr (slot_ne (Or.inr (hw _ (List.mem_of_getElem? (i := 37) rfl))) (Or.inr (hw _ (List.mem_of_getElem? (i := 39) rfl))) (by decide) (t := (.object "java/util/List")) (t' := .int) (by decide) (by decide)))
  have f107 := f90.other W101 (Or.inr (slot_ne (Or.inr (hw _ (List.mem_of_getElem? (i := 41) rfl))) (Or.inr (hw _ (List.mem_of_getElem? (i := 39) rfl))) (by decide) (t := .int) (t' := .int) (by decide) (by decide)))
  have f108 := f91.other W101 (Or.inr (slot_ne (Or.inr (hw _ (List.mem_of_getElem? (i := 43) rfl))) (Or.inr (hw _ (List.mem_of_getElem? (i := 39) rfl))) (by decide) (t := (.array .byte)) (t' := .int) (by decide) (by decide)))
  have f109 := f92.other W101 (Or.inr (slot_ne (Or.inl (hw _ (List.mem_of_getElem? (i := 52) rfl))) (Or.inr (hw _ (List.mem_of_getElem? (i := 39) rfl))) (by decide) (t := (.object "java/util/List")) (t' := .int) (by decide) (by decide)))
  have f110 := f93.other W101 (Or.inr (slot_ne (Or.inl (hw _ (List.mem_of_getElem? (i := 54) rfl))) (Or.inr (hw _ (List.mem_of_getElem? (i := 39) rfl))) (by decide) (t := .long) (t' := .int) (by decide) (by decide)))
  have f111 := f94.other W101 (Or.inr (slot_ne (Or.inl (hw _ (List.mem_of_getElem? (i := 56) rfl))) (Or.inr (hw _ (List.mem_of_getElem? (i := 39) rfl))) (by decide) (t := .long) (t' := .int) (by decide) (by decide)))
  have f112 := f95.other W101 (Or.inr (slot_ne (Or.inl (hw _ (List.mem_of_getElem? (i := 58) rfl))) (Or.inr (hw _ (List.mem_of_getElem? (i := 39) rfl))) (by decide) (t := .int) (t' := .int) (by decide) (by decide)))
  have f113 := f96.wr W101
  have f114 := f97.wr W101
  have k115 := k98.wr W101 (Or.inl (List.mem_of_getElem? (i := 0) rfl))
  have nf116 := Fr.snoc X101 nf99 g1
  have f117 := f89.same W101
  obtain ⟨T118, h118, X118, e118, W118, st118⟩ := putF X101 hx hZ hown (host := "") (Or.inl (hw _ (List.mem_of_getElem? (i := 40) rfl))) Via.refl e101 f107 f103 (Or.inr ⟨(hw _ (List.mem_of_getElem? (i := 41) rfl)), rfl, hnm⟩) (hw _ (List.mem_of_getElem? (i := 2) rfl)) (ty := .int) (by decide) rfl rfl (g := (mkF m 33 #[.val (.ref a1), .val (.int p2), .val (.int p3), .val (.ref a4)] [(.int p3), (.ref a1)])) rfl rfl (hb hby own_d_prog_13_method_1_33)
  have f119 := f102.wr W118
  have f120 := f103.wr W118
  have f121 := f104.other W118 (Or.inr (slot_ne (Or.inr (hw _ (List.mem_of_getElem? (i := 35) rfl))) (Or.inr (hw _ (List.mem_of_getElem? (i := 41) rfl))) (by decide) (t := (.object "java/util/List")) (t' := .int) (by decide) (by decide)))
  have f122 := f105.other W118 (Or.inr (slot_ne (Or.inr (hw _ (List.mem_of_getElem? (i := 37) rfl))) (Or.inr (hw _ (List.mem_of_getElem? (i := 41) rfl))) (by decide) (t := (.object "java/util/List")) (t' := .int) (by decide) (by decide)))
  have f123 := f117.other W118 (Or.inr (slot_ne (Or.inr (hw _ (List.mem_of_getElem? (i := 39) rfl))) (Or.inr (hw _ (List.mem_of_getElem? (i := 41) rfl))) (by decide) (t := .int) (t' := .int) (by decide) (by decide)))
  have f125 := f108.other W118 (Or.inr (slot_ne (Or.inr (hw _ (List.mem_of_getElem? (i := 43) rfl))) (Or.inr (hw _ (List.mem_of_getElem? (i := 41) rfl))) (by decide) (t := (.array .byte)) (t' := .int) (by decide) (by decide)))
  have f126 := f109.other W118 (Or.inr (slot_ne (Or.inl (hw _ (List.mem_of_getElem? (i := 52) rfl))) (Or.inr (hw _ (List.mem_of_getElem? (i := 41) rfl))) (by decide) (t := (.object "java/util/List")) (t' := .int) (by decide) (by decide)))
  have f127 := f110.other W118 (Or.inr (slot_ne (Or.inl (hw _ (List.mem_of_getElem? (i := 54) rfl))) (Or.inr (hw _ (List.mem_of_getElem? (i := 41) rfl))) (by decide) (t := .long) (t' := .int) (by decide) (by decide)))
  have f128 := f111.other W118 (Or.inr (slot_ne (Or.inl (hw _ (List.mem_of_getElem? (i := 56) rfl))) (Or.inr (hw _ (List.mem_of_getElem? (i := 41) rfl))) (by decide) (t := .long) (t' := .int) (by decide) (by decide)))
  have f129 := f112.other W118 (Or.inr (slot_ne (Or.inl (hw _ (List.mem_of_getElem? (i := 58) rfl))) (Or.inr (hw _ (List.mem_of_getElem? (i := 41) rfl))) (by decide) (t := .int) (t' := .int) (by decide) (by decide)))
  have f130 := f113.wr W118
  have f131 := f114.wr W118
  have k132 := k115.wr W118 (Or.inl (List.mem_of_getElem? (i := 0) rfl))
  have nf133 := Fr.snoc X118 nf116 g1
  have f134 := f107.same W118
  obtain ⟨T135, h135, X135, e135, W135, st135⟩ := putF X118 hx hZ hown (host := "") (Or.inl (hw _ (List.mem_of_getElem? (i := 42) rfl))) Via.refl e118 f125 f120 (Or.inr ⟨(hw _ (List.mem_of_getElem? (i := 43) rfl)), rfl, hnm⟩) (hw _ (List.mem_of_getElem? (i := 2) rfl)) (ty := (.array .byte)) (by decide) rfl rfl (g := (mkF m 38 #[.val (.ref a1), .val (.int p2), .val (.int p3), .val (.ref a4)] [(.ref a4), (.ref a1)])) rfl rfl (hb hby own_d_prog_13_method_1_38)
  have f136 := f119.wr W135
  have f137 := f120.wr W135
  have f138 := f121.other W135 (Or.inr (slot_ne (Or.inr (hw _ (List.mem_of_getElem? (i := 35) rfl))) (Or.inr (hw _ (List.mem_of_getElem? (i := 43) rfl))) (by decide) (t := (.object "java/util/List")) (t' := (.array .byte)) (by decide) (by decide)))
  have f139 := f122.other W135 (Or.inr (slot_ne (Or.inr (hw _ (List.mem_of_getElem? (i := 37) rfl))) (Or.inr (hw _ (List.mem_of_getElem? (i := 43) rfl))) (by decide) (t := (.object "java/util/List")) (t' := (.array .byte)) (by decide) (by decide)))
  have f140 := f123.other W135 (Or.inr (slot_ne (Or.inr (hw _ (List.mem_of_getElem? (i := 39) rfl))) (Or.inr (hw _ (List.mem_of_getElem? (i := 43) rfl))) (by decide) (t := .int) (t' := (.array .byte)) (by decide) (by decide)))
  have f141 := f134.other W135 (Or.inr (slot_ne (Or.inr (hw _ (List.mem_of_getElem? (i := 41) rfl))) (Or.inr (hw _ (List.mem_of_getElem? (i := 43) rfl))) (by decide) (t := .int) (t' := (.array .byte)) (by decide) (by decide)))
  have f143 := f126.other W135 (Or.inr (slot_ne (Or.inl (hw _ (List.mem_of_getElem? (i := 52) rfl))) (Or.inr (hw _ (List.mem_of_getElem? (i := 43) rfl))) (by decide) (t := (.object "java/util/List")) (t' := (.array .byte)) (by decide) (by decide)))
  have f144 := f127.other W135 (Or.inr (slot_ne (Or.inl (hw _ (List.mem_of_getElem? (i := 54) rfl))) (Or.inr (hw _ (List.mem_of_getElem? (i := 43) rfl))) (by decide) (t := .long) (t' := (.array .byte)) (by decide) (by decide)))
  have f145 := f128.other W135 (Or.inr (slot_ne (Or.inl (hw _ (List.mem_of_getElem? (i := 56) rfl))) (Or.inr (hw _ (List.mem_of_getElem? (i := 43) rfl))) (by decide) (t := .long) (t' := (.array .byte)) (by decide) (by decide)))
  have f146 := f129.other W135 (Or.inr (slot_ne (Or.inl (hw _ (List.mem_of_getElem? (i := 58) rfl))) (Or.inr (hw _ (List.mem_of_getElem? (i := 43) rfl))) (by decide) (t := .int) (t' := (.array .byte)) (by decide) (by decide)))
  have f147 := f130.wr W135
  have f148 := f131.wr W135
  have k149 := k132.wr W135 (Or.inl (List.mem_of_getElem? (i := 0) rfl))
  have nf150 := Fr.snoc X135 nf133 g1
  have f151 := f125.same W135
  have pre152 : ∀ t, Steps p.tables e below (T135.setTop (mkF m 41 #[.val (.ref a1), .val (.int p2), .val (.int p3), .val (.ref a4)] [])) t → Steps p.tables e below (s₁.setTop (entryFrame m #[(.ref a1), (.int p2), (.int p3), (.ref a4)] 4)) t := by
    intro t kt
    refine pre0 t ?_
    show Steps p.tables e below (s₁.setTop (mkF m 0 #[.val (.ref a1), .val (.int p2), .val (.int p3), .val (.ref a4)] [])) _
    refine XS.aloadN X0.here hx rfl (hb hby own_d_prog_13_method_1_0) rfl rfl ?_
    show Steps p.tables e below (s₁.setTop (mkF m 1 #[.val (.ref a1), .val (.int p2), .val (.int p3), .val (.ref a4)] [(.ref a1)])) _
    refine st1 _ ?_
    show Steps p.tables e below (T1.setTop (mkF m 4 #[.val (.ref a1), .val (.int p2), .val (.int p3), .val (.ref a4)] [])) _
    refine XS.aloadN X1.here hx rfl (hb hby own_d_prog_13_method_1_4) rfl rfl ?_
    show Steps p.tables e below (T1.setTop (mkF m 5 #[.val (.ref a1), .val (.int p2), .val (.int p3), .val (.ref a4)] [(.ref a1)])) _
    refine st2 _ ?_
    show Steps p.tables e below (T2.setTop (mkF m 8 #[.val (.ref a1), .val (.int p2), .val (.int p3), .val (.ref a4)] [(.ref b2), (.ref a1)])) _
    refine XS.dup X2.here hx rfl (hb hby own_d_prog_13_method_1_8) rfl rfl ?_
    show Steps p.tables e below (T2.setTop (mkF m 9 #[.val (.ref a1), .val (.int p2), .val (.int p3), .val (.ref a4)] [(.ref b2), (.ref b2), (.ref a1)])) _
    refine st18.trans ?_
    show Steps p.tables e below (T18.setTop (mkF m 12 #[.val (.ref a1), .val (.int p2), .val (.int p3), .val (.ref a4)] [(.ref b2), (.ref a1)])) _
    refine st34 _ ?_
    show Steps p.tables e below (T34.setTop (mkF m 15 #[.val (.ref a1), .val (.int p2), .val (.int p3), .val (.ref a4)] [])) _
    refine XS.aloadN X34.here hx rfl (hb hby own_d_prog_13_method_1_15) rfl rfl ?_
    show Steps p.tables e below (T34.setTop (mkF m 16 #[.val (.ref a1), .val (.int p2), .val (.int p3), .val (.ref a4)] [(.ref a1)])) _
    refine st50 _ ?_
    show Steps p.tables e below (T50.setTop (mkF m 19 #[.val (.ref a1), .val (.int p2), .val (.int p3), .val (.ref a4)] [(.ref b50), (.ref a1)])) _
    refine XS.dup X50.here hx rfl (hb hby own_d_prog_13_method_1_19) rfl rfl ?_
    show Steps p.tables e below (T50.setTop (mkF m 20 #[.val (.ref a1), .val (.int p2), .val (.int p3), .val (.ref a4)] [(.ref b50), (.ref b50), (.ref a1)])) _
    refine st67.trans ?_
    show Steps p.tables e below (T67.setTop (mkF m 23 #[.val (.ref a1), .val (.int p2), .val (.int p3), .val (.ref a4)] [(.ref b50), (.ref a1)])) _
    refine st84 _ ?_
    show Steps p.tables e below (T84.setTop (mkF m 26 #[.val (.ref a1), .val (.int p2), .val (.int p3), .val (.ref a4)] [])) _
    refine XS.aloadN X84.here hx rfl (hb hby own_d_prog_13_method_1_26) rfl rfl ?_
    show Steps p.tables e below (T84.setTop (mkF m 27 #[.val (.ref a1), .val (.int p2), .val (.int p3), .val (.ref a4)] [(.ref a1)])) _
    refine XS.iloadN X84.here hx rfl (hb hby own_d_prog_13_method_1_27) rfl ?_
    show Steps p.tables e below (T84.setTop (mkF m 28 #[.val (.ref a1), .val (.int p2), .val (.int p3), .val (.ref a4)] [(.int p2), (.ref a1)])) _
    refine st101 _ ?_
    show Steps p.tables e below (T101.setTop (mkF m 31 #[.val (.ref a1), .val (.int p2), .val (.int p3), .val (.ref a4)] [])) _
    refine XS.aloadN X101.here hx rfl (hb hby own_d_prog_13_method_1_31) rfl rfl ?_
    show Steps p.tables e below (T101.setTop (mkF m 32 #[.val (.ref a1), .val (.int p2), .val (.int p3), .val (.ref a4)] [(.ref a1)])) _
    refine XS.iloadN X101.here hx rfl (hb hby own_d_prog_13_method_1_32) rfl ?_
    show Steps p.tables e below (T101.setTop (mkF m 33 #[.val (.ref a1), .val (.int p2), .val (.int p3), .val (.ref a4)] [(.int p3), (.ref a1)])) _
    refine st118 _ ?_
    show Steps p.tables e below (T118.setTop (mkF m 36 #[.val (.ref a1), .val (.int p2), .val (.int p3), .val (.ref a4)] [])) _
    refine XS.aloadN X118.here hx rfl (hb hby own_d_prog_13_method_1_36) rfl rfl ?_
    show Steps p.tables e below (T118.setTop (mkF m 37 #[.val (.ref a1), .val (.int p2), .val (.int p3), .val (.ref a4)] [(.ref a1)])) _
    refine XS.aloadN X118.here hx rfl (hb hby own_d_prog_13_method_1_37) rfl rfl ?_
    show Steps p.tables e below (T118.setTop (mkF m 38 #[.val (.ref a1), .val (.int p2), .val (.int p3), .val (.ref a4)] [(.ref a4), (.ref a1)])) _
    refine st135 _ ?_
    exact kt
  obtain ⟨fs, hr, hrun, hended, hW, hsame⟩ := X135.leave (v := none) (fun _ => rfl)
  refine ⟨_, _, pre152 _ ?_, hrun, hended, _, _, rfl, ?_, ⟨_, rfl⟩, hW, hsame.mono (by decide) (by decide)⟩
  · show Steps p.tables e below (T135.setTop (mkF m 41 #[.val (.ref a1), .val (.int p2), .val (.int p3), .val (.ref a4)] [])) _
    exact X135.returnOut hx Bd.returns (hb hby own_d_prog_13_method_1_41) hr
  · show own_Q_exR Z a1 p2 p3 a4 aS h0 n0 (none) T135.heap _
    rw [e135]
    exact ⟨rfl, nf150, k149, f140, f141, f151, f143, f144, f145, f146⟩
theorem own_ef_exN (m : MethodId) (a1 : Addr) (p2 : Int32) (p3 : Int32) : entryFrame m #[(.ref a1), (.int p2), (.int p3), .null] 4 = mkF m 0 #[.val (.ref a1), .val (.int p2), .val (.int p3), .val .null] [] := by first | (simp [entryFrame, mkF, argsToLocals, Value.category]; done) | rfl
def own_Q_exN (Z : State) (a1 : Addr) (p2 : Int32) (p3 : Int32) (aS : Addr) (h0 : Heap) (n0 : Nat) (v : Option Value) (h : Heap) (L : List Loc) : Prop := v = none ∧ Fr n0 L ∧ Keep h0 h [a1] ∧ Fld Z h a1 "com/example/interleave/interleave/check/Expansion" "sourceId" "I" (.int p2) ∧ Fld Z h a1 "com/example/interleave/interleave/check/Expansion" "sourceParent" "I" (.int p3) ∧ Fld Z h a1 "com/example/interleave/interleave/check/Expansion" "sourceBytes" "[B" .null ∧ Fld Z h a1 "com/example/interleave/interleave/check/Expansion" "fresh" "Ljava/util/List;" .null ∧ Fld Z h a1 "com/example/interleave/interleave/check/Expansion" "generated" "J" (.long (0 : Int64)) ∧ Fld Z h a1 "com/example/interleave/interleave/check/Expansion" "distinct" "J" (.long (0 : Int64)) ∧ Fld Z h a1 "com/example/interleave/interleave/check/Expansion" "depth" "I" (.int (0 : Int32))
set_option maxRecDepth 65536 in
set_option maxHeartbeats 40000000 in
theorem own_rm_exN (l : Launch) (Z : State) (a0 : Array Value) (hw : ∀ d ∈ tables_1, d.before a0 Z = true) (ws : List Jvm.Cond) (a1 : Addr) (p2 : Int32) (p3 : Int32) (aS : Addr) (h0 : Heap) (n0 : Nat) (Z0 : n0 ≤ h0.size) (S0 : Sta Z h0 "java/util/ArrayList" "DEFAULTCAPACITY_EMPTY_ELEMENTDATA" "[Ljava/lang/Object;" (.ref aS)) (E1 : Exa Z h0 a1 "com/example/interleave/interleave/check/Expansion") (F_found : Fld Z h0 a1 "com/example/interleave/interleave/check/Expansion" "found" "Ljava/util/List;" .null) (F_printed : Fld Z h0 a1 "com/example/interleave/interleave/check/Expansion" "printed" "Ljava/util/List;" .null) (F_sourceId : Fld Z h0 a1 "com/example/interleave/interleave/check/Expansion" "sourceId" "I" (.int (0 : Int32))) (F_sourceParent : Fld Z h0 a1 "com/example/interleave/interleave/check/Expansion" "sourceParent" "I" (.int (0 : Int32))) (F_sourceBytes : Fld Z h0 a1 "com/example/interleave/interleave/check/Expansion" "sourceBytes" "[B" .null) (F_fresh : Fld Z h0 a1 "com/example/interleave/interleave/check/Expansion" "fresh" "Ljava/util/List;" .null) (F_generated : Fld Z h0 a1 "com/example/interleave/interleave/check/Expansion" "generated" "J" (.long (0 : Int64))) (F_distinct : Fld Z h0 a1 "com/example/interleave/interleave/check/Expansion" "distinct" "J" (.long (0 : Int64))) (F_depth : Fld Z h0 a1 "com/example/interleave/interleave/check/Expansion" "depth" "I" (.int (0 : Int32))) (g1 : n0 ≤ a1) :
    MetFree l (⟨"com/example/interleave/interleave/check/Expansion", "<init>", "(II[B)V"⟩ : MethodName) (head1 (Jvm.Cond.code (⟨"com/example/interleave/interleave/check/Expansion", "<init>", "(II[B)V"⟩ : MethodName) prog_13_method_1_code 4 none :: ws) ({ frames := 4, cells := 2, slots := 6, locals := 50 } : Room)) (fun a U => a = #[(.ref a1), (.int p2), (.int p3), .null] ∧ Z.Warmed39 U.vm ∧ U.heap = h0) (fun _ _ _ _ _ => True) (fun _ U o U' => ∃ v L, o = .returned v ∧ own_Q_exN Z a1 p2 p3 aS h0 n0 v U'.heap L ∧ FrameEnd U o U' L ({ frames := 4, cells := 2, slots := 6, locals := 50 } : Room).cells ({ frames := 4, cells := 2, slots := 6, locals := 50 } : Room).slots) := by
  refine MetFree.of_bodySF (plainFor_of_name own_pn3) hisR ?_
  intro p e s m args below meth c s₁ Bd hml0 hP hK
  obtain ⟨rfl, hZ, hh⟩ := hP
  have hx := Bd.exec
  have hby := Bd.bytes
  have hml : c.maxLocals = 4 := hml0
  have hown : s.vm.findClass "com/example/interleave/interleave/check/Expansion" = some m.cls := findClass_of_methodNamed Bd.named
  have hnm := (name_of_methodNamed Bd.named Bd.method).1
  have X0 : Stand p l e ({ frames := 4, cells := 2, slots := 6, locals := 50 } : Room) s m #[(.ref a1), (.int p2), (.int p3), .null] below meth c s₁ [] 0 0 := Stand.of_body Bd
  have e0 : s₁.heap = h0 := by rw [← hh, Bd.state]; rfl
  have N0 := Fr.nil n0
  have K0 : Keep h0 h0 [a1] := Keep.refl _ _
  have pre0 : ∀ t, Steps p.tables e below (s₁.setTop (mkF m 0 #[.val (.ref a1), .val (.int p2), .val (.int p3), .val .null] [])) t → Steps p.tables e below (s₁.setTop (entryFrame m #[(.ref a1), (.int p2), (.int p3), .null] 4)) t := fun t k => castTop (own_ef_exN m a1 p2 p3) k
  obtain ⟨T1, X1, e1, st1⟩ := initO X0 hx hZ hown (hw _ (List.mem_of_getElem? (i := 7) rfl)) (hw _ (List.mem_of_getElem? (i := 8) rfl)) (hw _ (List.mem_of_getElem? (i := 9) rfl)) e0 (g := (mkF m 1 #[.val (.ref a1), .val (.int p2), .val (.int p3), .val .null] [(.ref a1)])) rfl (by rw [hml]; rfl) rfl (hb hby own_d_prog_13_method_1_1) (by decide) (W := 0) (by show 2 * 0 + _ ≤ _; exact Nat.le_of_eq rfl) (by decide)
  obtain ⟨T2, h2, X2, e2, E2, A2, D2, -, st2⟩ := newO X1 hx hZ hown (hw _ (List.mem_of_getElem? (i := 10) rfl)) (hw _ (List.mem_of_getElem? (i := 11) rfl)) (hw _ (List.mem_of_getElem? (i := 12) rfl)) e1 (g := (mkF m 5 #[.val (.ref a1), .val (.int p2), .val (.int p3), .val .null] [(.ref a1)])) rfl (hb hby own_d_prog_13_method_1_5) (by decide) (by decide)
  obtain ⟨b2, g2⟩ : ∃ z, z = h0.size := ⟨_, rfl⟩
  rw [← g2] at A2 D2 st2
  have sz_b2 : h0.size ≤ b2 := Nat.le_trans K0.1 (Nat.le_of_eq g2.symm)
  have gn_b2 : n0 ≤ b2 := Nat.le_trans Z0 sz_b2
  have ne_a1_b2 : a1 ≠ b2 := Nat.ne_of_lt (Nat.lt_of_lt_of_le F_depth.lt (Nat.le_of_eq g2.symm))
  have f3 := S0.ext E2
  have f4 := E1.ext E2
  have f5 := F_found.ext E2
  have f6 := F_printed.ext E2
  have f7 := F_sourceId.ext E2
  have f8 := F_sourceParent.ext E2
  have f9 := F_sourceBytes.ext E2
  have f10 := F_fresh.ext E2
  have f11 := F_generated.ext E2
  have f12 := F_distinct.ext E2
  have f13 := F_depth.ext E2
  have k14 := K0.ext E2
  have f15 : Fld Z h2 b2 "java/util/AbstractList" "modCount" "I" (.int (0 : Int32)) := D2 (Or.inl (hw _ (List.mem_of_getElem? (i := 30) rfl))) (ty := .int) (by decide)
  have f16 : Fld Z h2 b2 "java/util/ArrayList" "elementData" "[Ljava/lang/Object;" .null := D2 (Or.inl (hw _ (List.mem_of_getElem? (i := 33) rfl))) (ty := (.array (.object "java/lang/Object"))) (by decide)
  have zs17 : n0 ≤ h2.size := Nat.le_trans Z0 k14.1
  obtain ⟨_, _, ⟨T18, L18, k18, n18⟩, -, X18, ⟨Lc18, hQ18, l18, y18, z18⟩, st18⟩ := X2.specialBack hx (y := (⟨"java/util/ArrayList", "<init>", "()V"⟩ : MethodName)) rfl hown (mvT hZ (hw _ (List.mem_of_getElem? (i := 13) rfl))) (mvT hZ (hw _ (List.mem_of_getElem? (i := 14) rfl))) (mvT hZ (hw _ (List.mem_of_getElem? (i := 15) rfl))) (by decide) (backOf (W := 2) (own_rm_al l Z a0 hw [] b2 aS h2 n0 zs17 f3 A2 f15 f16 gn_b2) hZ (hw _ (List.mem_of_getElem? (i := 15) rfl)) (hw _ (List.mem_of_getElem? (i := 12) rfl)) (by decide) (by decide)) (g := (mkF m 9 #[.val (.ref a1), .val (.int p2), .val (.int p3), .val .null] [(.ref b2), (.ref b2), (.ref a1)])) rfl (by rw [hml]; rfl) (Steps.refl _) (a := b2) (argsL := []) (rest := [(.ref b2), (.ref a1)]) (lenOf own_pd0 rfl) rfl (by show 2 * 0 + _ ≤ _; exact Nat.le_of_eq rfl) (hb hby own_d_prog_13_method_1_9) (fun _ _ => ⟨rfl, e2, (by decide : 1 + 0 ≤ _), (by decide : 3 + 0 ≤ _)⟩)
  dsimp only [Pt.U, Pt.locs, Pt.cells, Pt.slots] at X18 l18 y18 z18 st18 hQ18
  subst l18 y18 z18
  obtain ⟨rfl, N19, K19⟩ := hQ18
  have f20 := own_sta_keep f3 K19 (own_pl_cons A2 all0)
  have f21 := f4.keep K19
  have f22 := f5.keep K19 (ninS ne_a1_b2 nin0)
  have f23 := f6.keep K19 (ninS ne_a1_b2 nin0)
  have f24 := f7.keep K19 (ninS ne_a1_b2 nin0)
  have f25 := f8.keep K19 (ninS ne_a1_b2 nin0)
  have f26 := f9.keep K19 (ninS ne_a1_b2 nin0)
  have f27 := f10.keep K19 (ninS ne_a1_b2 nin0)
  have f28 := f11.keep K19 (ninS ne_a1_b2 nin0)
  have f29 := f12.keep K19 (ninS ne_a1_b2 nin0)
  have f30 := f13.keep K19 (ninS ne_a1_b2 nin0)
  have f31 := A2.keep K19
  have k32 := k14.trans K19 (allS (Or.inr sz_b2) all0)
  have nf33 := Fr.app N0 N19
  obtain ⟨T34, h34, X34, e34, W34, st34⟩ := putF X18 hx hZ hown (host := "") (Or.inl (hw _ (List.mem_of_getElem? (i := 34) rfl))) Via.refl rfl f22 f21 (Or.inr ⟨(hw _ (List.mem_of_getElem? (i := 35) rfl)), rfl, hnm⟩) (hw _ (List.mem_of_getElem? (i := 2) rfl)) (ty := (.object "java/util/List")) (by decide) rfl rfl (g := (mkF m 12 #[.val (.ref a1), .val (.int p2), .val (.int p3), .val .null] [(.ref b2), (.ref a1)])) rfl rfl (hb hby own_d_prog_13_method_1_12)
  have f35 := f20.wr W34
  have f36 := f21.wr W34
  have f38 := f23.other W34 (Or.inr (slot_ne (Or.inr (hw _ (List.mem_of_getElem? (i := 37) rfl))) (Or.inr (hw _ (List.mem_of_getElem? (i := 35) rfl))) (by decide) (t := (.object "java/util/List")) (t' := (.object "java/util/List")) (by decide) (by decide)))
  have f39 := f24.other W34 (Or.inr (slot_ne (Or.inr (hw _ (List.mem_of_getElem? (i := 39) rfl))) (Or.inr (hw _ (List.mem_of_getElem? (i := 35) rfl))) (by decide) (t := .int) (t' := (.object "java/util/List")) (by decide) (by decide)))
  have f40 := f25.other W34 (Or.inr (slot_ne (Or.inr (hw _ (List.mem_of_getElem? (i := 41) rfl))) (Or.inr (hw _ (List.mem_of_getElem? (i := 35) rfl))) (by decide) (t := .int) (t' := (.object "java/util/List")) (by decide) (by decide)))
  have f41 := f26.other W34 (Or.inr (slot_ne (Or.inr (hw _ (List.mem_of_getElem? (i := 43) rfl))) (Or.inr (hw _ (List.mem_of_getElem? (i := 35) rfl))) (by decide) (t := (.array .byte)) (t' := (.object "java/util/List")) (by decide) (by decide)))
  have f42 := f27.other W34 (Or.inr (slot_ne (Or.inl (hw _ (List.mem_of_getElem? (i := 52) rfl))) (Or.inr (hw _ (List.mem_of_getElem? (i := 35) rfl))) (by decide) (t := (.object "java/util/List")) (t' := (.object "java/util/List")) (by decide) (by decide)))
  have f43 := f28.other W34 (Or.inr (slot_ne (Or.inl (hw _ (List.mem_of_getElem? (i := 54) rfl))) (Or.inr (hw _ (List.mem_of_getElem? (i := 35) rfl))) (by decide) (t := .long) (t' := (.object "java/util/List")) (by decide) (by decide)))
  have f44 := f29.other W34 (Or.inr (slot_ne (Or.inl (hw _ (List.mem_of_getElem? (i := 56) rfl))) (Or.inr (hw _ (List.mem_of_getElem? (i := 35) rfl))) (by decide) (t := .long) (t' := (.object "java/util/List")) (by decide) (by decide)))
  have f45 := f30.other W34 (Or.inr (slot_ne (Or.inl (hw _ (List.mem_of_getElem? (i := 58) rfl))) (Or.inr (hw _ (List.mem_of_getElem? (i := 35) rfl))) (by decide) (t := .int) (t' := (.object "java/util/List")) (by decide) (by decide)))
  have f46 := f31.wr W34
  have k47 := k32.wr W34 (Or.inl (List.mem_of_getElem? (i := 0) rfl))
  have nf48 := Fr.snoc X34 nf33 g1
  have f49 := f22.same W34
  obtain ⟨T50, h50, X50, e50, E50, A50, D50, -, st50⟩ := newO X34 hx hZ hown (hw _ (List.mem_of_getElem? (i := 10) rfl)) (hw _ (List.mem_of_getElem? (i := 11) rfl)) (hw _ (List.mem_of_getElem? (i := 12) rfl)) e34 (g := (mkF m 16 #[.val (.ref a1), .val (.int p2), .val (.int p3), .val .null] [(.ref a1)])) rfl (hb hby own_d_prog_13_method_1_16) (by decide) (by decide)
  obtain ⟨b50, g50⟩ : ∃ z, z = h34.size := ⟨_, rfl⟩
  rw [← g50] at A50 D50 st50
  have sz_b50 : h0.size ≤ b50 := Nat.le_trans k47.1 (Nat.le_of_eq g50.symm)
  have gn_b50 : n0 ≤ b50 := Nat.le_trans Z0 sz_b50
  have ne_a1_b50 : a1 ≠ b50 := Nat.ne_of_lt (Nat.lt_of_lt_of_le f45.lt (Nat.le_of_eq g50.symm))
  have ne_b2_b50 : b2 ≠ b50 := Nat.ne_of_lt (Nat.lt_of_lt_of_le f46.lt (Nat.le_of_eq g50.symm))
  have f51 := f35.ext E50
  have f52 := f36.ext E50
  have f53 := f49.ext E50
  have f54 := f38.ext E50
  have f55 := f39.ext E50
  have f56 := f40.ext E50
  have f57 := f41.ext E50
  have f58 := f42.ext E50
  have f59 := f43.ext E50
  have f60 := f44.ext E50
  have f61 := f45.ext E50
  have f62 := f46.ext E50
  have k63 := k47.ext E50
  have f64 : Fld Z h50 b50 "java/util/AbstractList" "modCount" "I" (.int (0 : Int32)) := D50 (Or.inl (hw _ (List.mem_of_getElem? (i := 30) rfl))) (ty := .int) (by decide)
  have f65 : Fld Z h50 b50 "java/util/ArrayList" "elementData" "[Ljava/lang/Object;" .null := D50 (Or.inl (hw _ (List.mem_of_getElem? (i := 33) rfl))) (ty := (.array (.object "java/lang/Object"))) (by decide)
  have zs66 : n0 ≤ h50.size := Nat.le_trans Z0 k63.1
  obtain ⟨_, _, ⟨T67, L67, k67, n67⟩, -, X67, ⟨Lc67, hQ67, l67, y67, z67⟩, st67⟩ := X50.specialBack hx (y := (⟨"java/util/ArrayList", "<init>", "()V"⟩ : MethodName)) rfl hown (mvT hZ (hw _ (List.mem_of_getElem? (i := 13) rfl))) (mvT hZ (hw _ (List.mem_of_getElem? (i := 14) rfl))) (mvT hZ (hw _ (List.mem_of_getElem? (i := 15) rfl))) (by decide) (backOf (W := 2) (own_rm_al l Z a0 hw [] b50 aS h50 n0 zs66 f51 A50 f64 f65 gn_b50) hZ (hw _ (List.mem_of_getElem? (i := 15) rfl)) (hw _ (List.mem_of_getElem? (i := 12) rfl)) (by decide) (by decide)) (g := (mkF m 20 #[.val (.ref a1), .val (.int p2), .val (.int p3), .val .null] [(.ref b50), (.ref b50), (.ref a1)])) rfl (by rw [hml]; rfl) (Steps.refl _) (a := b50) (argsL := []) (rest := [(.ref b50), (.ref a1)]) (lenOf own_pd0 rfl) rfl (by show 2 * 0 + _ ≤ _; exact Nat.le_of_eq rfl) (hb hby own_d_prog_13_method_1_20) (fun _ _ => ⟨rfl, e50, (by decide : 2 + 0 ≤ _), (by decide : 6 + 0 ≤ _)⟩)
  dsimp only [Pt.U, Pt.locs, Pt.cells, Pt.slots] at X67 l67 y67 z67 st67 hQ67
  subst l67 y67 z67
  obtain ⟨rfl, N68, K68⟩ := hQ67
  have f69 := own_sta_keep f51 K68 (own_pl_cons A50 all0)
  have f70 := f52.keep K68
  have f71 := f53.keep K68 (ninS ne_a1_b50 nin0)
  have f72 := f54.keep K68 (ninS ne_a1_b50 nin0)
  have f73 := f55.keep K68 (ninS ne_a1_b50 nin0)
  have f74 := f56.keep K68 (ninS ne_a1_b50 nin0)
  have f75 := f57.keep K68 (ninS ne_a1_b50 nin0)
  have f76 := f58.keep K68 (ninS ne_a1_b50 nin0)
  have f77 := f59.keep K68 (ninS ne_a1_b50 nin0)
  have f78 := f60.keep K68 (ninS ne_a1_b50 nin0)
  have f79 := f61.keep K68 (ninS ne_a1_b50 nin0)
  have f80 := f62.keep K68
  have f81 := A50.keep K68
  have k82 := k63.trans K68 (allS (Or.inr sz_b50) all0)
  have nf83 := Fr.app nf48 N68
  obtain ⟨T84, h84, X84, e84, W84, st84⟩ := putF X67 hx hZ hown (host := "") (Or.inl (hw _ (List.mem_of_getElem? (i := 36) rfl))) Via.refl rfl f72 f70 (Or.inr ⟨(hw _ (List.mem_of_getElem? (i := 37) rfl)), rfl, hnm⟩) (hw _ (List.mem_of_getElem? (i := 2) rfl)) (ty := (.object "java/util/List")) (by decide) rfl rfl (g := (mkF m 23 #[.val (.ref a1), .val (.int p2), .val (.int p3), .val .null] [(.ref b50), (.ref a1)])) rfl rfl (hb hby own_d_prog_13_method_1_23)
  have f85 := f69.wr W84
  have f86 := f70.wr W84
  have f87 := f71.other W84 (Or.inr (slot_ne (Or.inr (hw _ (List.mem_of_getElem? (i := 35) rfl))) (Or.inr (hw _ (List.mem_of_getElem? (i := 37) rfl))) (by decide) (t := (.object "java/util/List")) (t' := (.object "java/util/List")) (by decide) (by decide)))
  have f89 := f73.other W84 (Or.inr (slot_ne (Or.inr (hw _ (List.mem_of_getElem? (i := 39) rfl))) (Or.inr (hw _ (List.mem_of_getElem? (i := 37) rfl))) (by decide) (t := .int) (t' := (.object "java/util/List")) (by decide) (by decide)))
  have f90 := f74.other W84 (Or.inr (slot_ne (Or.inr (hw _ (List.mem_of_getElem? (i := 41) rfl))) (Or.inr (hw _ (List.mem_of_getElem? (i := 37) rfl))) (by decide) (t := .int) (t' := (.object "java/util/List")) (by decide) (by decide)))
  have f91 := f75.other W84 (Or.inr (slot_ne (Or.inr (hw _ (List.mem_of_getElem? (i := 43) rfl))) (Or.inr (hw _ (List.mem_of_getElem? (i := 37) rfl))) (by decide) (t := (.array .byte)) (t' := (.object "java/util/List")) (by decide) (by decide)))
  have f92 := f76.other W84 (Or.inr (slot_ne (Or.inl (hw _ (List.mem_of_getElem? (i := 52) rfl))) (Or.inr (hw _ (List.mem_of_getElem? (i := 37) rfl))) (by decide) (t := (.object "java/util/List")) (t' := (.object "java/util/List")) (by decide) (by decide)))
  have f93 := f77.other W84 (Or.inr (slot_ne (Or.inl (hw _ (List.mem_of_getElem? (i := 54) rfl))) (Or.inr (hw _ (List.mem_of_getElem? (i := 37) rfl))) (by decide) (t := .long) (t' := (.object "java/util/List")) (by decide) (by decide)))
  have f94 := f78.other W84 (Or.inr (slot_ne (Or.inl (hw _ (List.mem_of_getElem? (i := 56) rfl))) (Or.inr (hw _ (List.mem_of_getElem? (i := 37) rfl))) (by decide) (t := .long) (t' := (.object "java/util/List")) (by decide) (by decide)))
  have f95 := f79.other W84 (Or.inr (slot_ne (Or.inl (hw _ (List.mem_of_getElem? (i := 58) rfl))) (Or.inr (hw _ (List.mem_of_getElem? (i := 37) rfl))) (by decide) (t := .int) (t' := (.object "java/util/List")) (by decide) (by decide)))
  have f96 := f80.wr W84
  have f97 := f81.wr W84
  have k98 := k82.wr W84 (Or.inl (List.mem_of_getElem? (i := 0) rfl))
  have nf99 := Fr.snoc X84 nf83 g1
  have f100 := f72.same W84
  obtain ⟨T101, h101, X101, e101, W101, st101⟩ := putF X84 hx hZ hown (host := "") (Or.inl (hw _ (List.mem_of_getElem? (i := 38) rfl))) Via.refl e84 f89 f86 (Or.inr ⟨(hw _ (List.mem_of_getElem? (i := 39) rfl)), rfl, hnm⟩) (hw _ (List.mem_of_getElem? (i := 2) rfl)) (ty := .int) (by decide) rfl rfl (g := (mkF m 28 #[.val (.ref a1), .val (.int p2), .val (.int p3), .val .null] [(.int p2), (.ref a1)])) rfl rfl (hb hby own_d_prog_13_method_1_28)
  have f102 := f85.wr W101
  have f103 := f86.wr W101
  have f104 := f87.other W101 (Or.inr (slot_ne (Or.inr (hw _ (List.mem_of_getElem? (i := 35) rfl))) (Or.inr (hw _ (List.mem_of_getElem? (i := 39) rfl))) (by decide) (t := (.object "java/util/List")) (t' := .int) (by decide) (by decide)))
  have f105 := f100.other W101 (Or.inr (slot_ne (Or.inr (hw _ (List.mem_of_getElem? (i := 37) rfl))) (Or.inr (hw _ (List.mem_of_getElem? (i := 39) rfl))) (by decide) (t := (.object "java/util/List")) (t' := .int) (by decide) (by decide)))
  have f107 := f90.other W101 (Or.inr (slot_ne (Or.inr (hw _ (List.mem_of_getElem? (i := 41) rfl))) (Or.inr (hw _ (List.mem_of_getElem? (i := 39) rfl))) (by decide) (t := .int) (t' := .int) (by decide) (by decide)))
  have f108 := f91.other W101 (Or.inr (slot_ne (Or.inr (hw _ (List.mem_of_getElem? (i := 43) rfl))) (Or.inr (hw _ (List.mem_of_getElem? (i := 39) rfl))) (by decide) (t := (.array .byte)) (t' := .int) (by decide) (by decide)))
  have f109 := f92.other W101 (Or.inr (slot_ne (Or.inl (hw _ (List.mem_of_getElem? (i := 52) rfl))) (Or.inr (hw _ (List.mem_of_getElem? (i := 39) rfl))) (by decide) (t := (.object "java/util/List")) (t' := .int) (by decide) (by decide)))
  have f110 := f93.other W101 (Or.inr (slot_ne (Or.inl (hw _ (List.mem_of_getElem? (i := 54) rfl))) (Or.inr (hw _ (List.mem_of_getElem? (i := 39) rfl))) (by decide) (t := .long) (t' := .int) (by decide) (by decide)))
  have f111 := f94.other W101 (Or.inr (slot_ne (Or.inl (hw _ (List.mem_of_getElem? (i := 56) rfl))) (Or.inr (hw _ (List.mem_of_getElem? (i := 39) rfl))) (by decide) (t := .long) (t' := .int) (by decide) (by decide)))
  have f112 := f95.other W101 (Or.inr (slot_ne (Or.inl (hw _ (List.mem_of_getElem? (i := 58) rfl))) (Or.inr (hw _ (List.mem_of_getElem? (i := 39) rfl))) (by decide) (t := .int) (t' := .int) (by decide) (by decide)))
  have f113 := f96.wr W101
  have f114 := f97.wr W101
  have k115 := k98.wr W101 (Or.inl (List.mem_of_getElem? (i := 0) rfl))
  have nf116 := Fr.snoc X101 nf99 g1
  have f117 := f89.same W101
  obtain ⟨T118, h118, X118, e118, W118, st118⟩ := putF X101 hx hZ hown (host := "") (Or.inl (hw _ (List.mem_of_getElem? (i := 40) rfl))) Via.refl e101 f107 f103 (Or.inr ⟨(hw _ (List.mem_of_getElem? (i := 41) rfl)), rfl, hnm⟩) (hw _ (List.mem_of_getElem? (i := 2) rfl)) (ty := .int) (by decide) rfl rfl (g := (mkF m 33 #[.val (.ref a1), .val (.int p2), .val (.int p3), .val .null] [(.int p3), (.ref a1)])) rfl rfl (hb hby own_d_prog_13_method_1_33)
  have f119 := f102.wr W118
  have f120 := f103.wr W118
  have f121 := f104.other W118 (Or.inr (slot_ne (Or.inr (hw _ (List.mem_of_getElem? (i := 35) rfl))) (Or.inr (hw _ (List.mem_of_getElem? (i := 41) rfl))) (by decide) (t := (.object "java/util/List")) (t' := .int) (by decide) (by decide)))
  have f122 := f105.other W118 (Or.inr (slot_ne (Or.inr (hw _ (List.mem_of_getElem? (i := 37) rfl))) (Or.inr (hw _ (List.mem_of_getElem? (i := 41) rfl))) (by decide) (t := (.object "java/util/List")) (t' := .int) (by decide) (by decide)))
  have f123 := f117.other W118 (Or.inr (slot_ne (Or.inr (hw _ (List.mem_of_getElem? (i := 39) rfl))) (Or.inr (hw _ (List.mem_of_getElem? (i := 41) rfl))) (by decide) (t := .int) (t' := .int) (by decide) (by decide)))
  have f125 := f108.other W118 (Or.inr (slot_ne (Or.inr (hw _ (List.mem_of_getElem? (i := 43) rfl))) (Or.inr (hw _ (List.mem_of_getElem? (i := 41) rfl))) (by decide) (t := (.array .byte)) (t' := .int) (by decide) (by decide)))
  have f126 := f109.other W118 (Or.inr (slot_ne (Or.inl (hw _ (List.mem_of_getElem? (i := 52) rfl))) (Or.inr (hw _ (List.mem_of_getElem? (i := 41) rfl))) (by decide) (t := (.object "java/util/List")) (t' := .int) (by decide) (by decide)))
  have f127 := f110.other W118 (Or.inr (slot_ne (Or.inl (hw _ (List.mem_of_getElem? (i := 54) rfl))) (Or.inr (hw _ (List.mem_of_getElem? (i := 41) rfl))) (by decide) (t := .long) (t' := .int) (by decide) (by decide)))
  have f128 := f111.other W118 (Or.inr (slot_ne (Or.inl (hw _ (List.mem_of_getElem? (i := 56) rfl))) (Or.inr (hw _ (List.mem_of_getElem? (i := 41) rfl))) (by decide) (t := .long) (t' := .int) (by decide) (by decide)))
  have f129 := f112.other W118 (Or.inr (slot_ne (Or.inl (hw _ (List.mem_of_getElem? (i := 58) rfl))) (Or.inr (hw _ (List.mem_of_getElem? (i := 41) rfl))) (by decide) (t := .int) (t' := .int) (by decide) (by decide)))
  have f130 := f113.wr W118
  have f131 := f114.wr W118
  have k132 := k115.wr W118 (Or.inl (List.mem_of_getElem? (i := 0) rfl))
  have nf133 := Fr.snoc X118 nf116 g1
  have f134 := f107.same W118
  obtain ⟨T135, h135, X135, e135, W135, st135⟩ := putF X118 hx hZ hown (host := "") (Or.inl (hw _ (List.mem_of_getElem? (i := 42) rfl))) Via.refl e118 f125 f120 (Or.inr ⟨(hw _ (List.mem_of_getElem? (i := 43) rfl)), rfl, hnm⟩) (hw _ (List.mem_of_getElem? (i := 2) rfl)) (ty := (.array .byte)) (by decide) rfl rfl (g := (mkF m 38 #[.val (.ref a1), .val (.int p2), .val (.int p3), .val .null] [.null, (.ref a1)])) rfl rfl (hb hby own_d_prog_13_method_1_38)
  have f136 := f119.wr W135
  have f137 := f120.wr W135
  have f138 := f121.other W135 (Or.inr (slot_ne (Or.inr (hw _ (List.mem_of_getElem? (i := 35) rfl))) (Or.inr (hw _ (List.mem_of_getElem? (i := 43) rfl))) (by decide) (t := (.object "java/util/List")) (t' := (.array .byte)) (by decide) (by decide)))
  have f139 := f122.other W135 (Or.inr (slot_ne (Or.inr (hw _ (List.mem_of_getElem? (i := 37) rfl))) (Or.inr (hw _ (List.mem_of_getElem? (i := 43) rfl))) (by decide) (t := (.object "java/util/List")) (t' := (.array .byte)) (by decide) (by decide)))
  have f140 := f123.other W135 (Or.inr (slot_ne (Or.inr (hw _ (List.mem_of_getElem? (i := 39) rfl))) (Or.inr (hw _ (List.mem_of_getElem? (i := 43) rfl))) (by decide) (t := .int) (t' := (.array .byte)) (by decide) (by decide)))
  have f141 := f134.other W135 (Or.inr (slot_ne (Or.inr (hw _ (List.mem_of_getElem? (i := 41) rfl))) (Or.inr (hw _ (List.mem_of_getElem? (i := 43) rfl))) (by decide) (t := .int) (t' := (.array .byte)) (by decide) (by decide)))
  have f143 := f126.other W135 (Or.inr (slot_ne (Or.inl (hw _ (List.mem_of_getElem? (i := 52) rfl))) (Or.inr (hw _ (List.mem_of_getElem? (i := 43) rfl))) (by decide) (t := (.object "java/util/List")) (t' := (.array .byte)) (by decide) (by decide)))
  have f144 := f127.other W135 (Or.inr (slot_ne (Or.inl (hw _ (List.mem_of_getElem? (i := 54) rfl))) (Or.inr (hw _ (List.mem_of_getElem? (i := 43) rfl))) (by decide) (t := .long) (t' := (.array .byte)) (by decide) (by decide)))
  have f145 := f128.other W135 (Or.inr (slot_ne (Or.inl (hw _ (List.mem_of_getElem? (i := 56) rfl))) (Or.inr (hw _ (List.mem_of_getElem? (i := 43) rfl))) (by decide) (t := .long) (t' := (.array .byte)) (by decide) (by decide)))
  have f146 := f129.other W135 (Or.inr (slot_ne (Or.inl (hw _ (List.mem_of_getElem? (i := 58) rfl))) (Or.inr (hw _ (List.mem_of_getElem? (i := 43) rfl))) (by decide) (t := .int) (t' := (.array .byte)) (by decide) (by decide)))
  have f147 := f130.wr W135
  have f148 := f131.wr W135
  have k149 := k132.wr W135 (Or.inl (List.mem_of_getElem? (i := 0) rfl))
  have nf150 := Fr.snoc X135 nf133 g1
  have f151 := f125.same W135
  have pre152 : ∀ t, Steps p.tables e below (T135.setTop (mkF m 41 #[.val (.ref a1), .val (.int p2), .val (.int p3), .val .null] [])) t → Steps p.tables e below (s₁.setTop (entryFrame m #[(.ref a1), (.int p2), (.int p3), .null] 4)) t := by
    intro t kt
    refine pre0 t ?_
    show Steps p.tables e below (s₁.setTop (mkF m 0 #[.val (.ref a1), .val (.int p2), .val (.int p3), .val .null] [])) _
    refine XS.aloadN X0.here hx rfl (hb hby own_d_prog_13_method_1_0) rfl rfl ?_
    show Steps p.tables e below (s₁.setTop (mkF m 1 #[.val (.ref a1), .val (.int p2), .val (.int p3), .val .null] [(.ref a1)])) _
    refine st1 _ ?_
    show Steps p.tables e below (T1.setTop (mkF m 4 #[.val (.ref a1), .val (.int p2), .val (.int p3), .val .null] [])) _
    refine XS.aloadN X1.here hx rfl (hb hby own_d_prog_13_method_1_4) rfl rfl ?_
    show Steps p.tables e below (T1.setTop (mkF m 5 #[.val (.ref a1), .val (.int p2), .val (.int p3), .val .null] [(.ref a1)])) _
    refine st2 _ ?_
    show Steps p.tables e below (T2.setTop (mkF m 8 #[.val (.ref a1), .val (.int p2), .val (.int p3), .val .null] [(.ref b2), (.ref a1)])) _
    refine XS.dup X2.here hx rfl (hb hby own_d_prog_13_method_1_8) rfl rfl ?_
    show Steps p.tables e below (T2.setTop (mkF m 9 #[.val (.ref a1), .val (.int p2), .val (.int p3), .val .null] [(.ref b2), (.ref b2), (.ref a1)])) _
    refine st18.trans ?_
    show Steps p.tables e below (T18.setTop (mkF m 12 #[.val (.ref a1), .val (.int p2), .val (.int p3), .val .null] [(.ref b2), (.ref a1)])) _
    refine st34 _ ?_
    show Steps p.tables e below (T34.setTop (mkF m 15 #[.val (.ref a1), .val (.int p2), .val (.int p3), .val .null] [])) _
    refine XS.aloadN X34.here hx rfl (hb hby own_d_prog_13_method_1_15) rfl rfl ?_
    show Steps p.tables e below (T34.setTop (mkF m 16 #[.val (.ref a1), .val (.int p2), .val (.int p3), .val .null] [(.ref a1)])) _
    refine st50 _ ?_
    show Steps p.tables e below (T50.setTop (mkF m 19 #[.val (.ref a1), .val (.int p2), .val (.int p3), .val .null] [(.ref b50), (.ref a1)])) _
    refine XS.dup X50.here hx rfl (hb hby own_d_prog_13_method_1_19) rfl rfl ?_
    show Steps p.tables e below (T50.setTop (mkF m 20 #[.val (.ref a1), .val (.int p2), .val (.int p3), .val .null] [(.ref b50), (.ref b50), (.ref a1)])) _
    refine st67.trans ?_
    show Steps p.tables e below (T67.setTop (mkF m 23 #[.val (.ref a1), .val (.int p2), .val (.int p3), .val .null] [(.ref b50), (.ref a1)])) _
    refine st84 _ ?_
    show Steps p.tables e below (T84.setTop (mkF m 26 #[.val (.ref a1), .val (.int p2), .val (.int p3), .val .null] [])) _
    refine XS.aloadN X84.here hx rfl (hb hby own_d_prog_13_method_1_26) rfl rfl ?_
    show Steps p.tables e below (T84.setTop (mkF m 27 #[.val (.ref a1), .val (.int p2), .val (.int p3), .val .null] [(.ref a1)])) _
    refine XS.iloadN X84.here hx rfl (hb hby own_d_prog_13_method_1_27) rfl ?_
    show Steps p.tables e below (T84.setTop (mkF m 28 #[.val (.ref a1), .val (.int p2), .val (.int p3), .val .null] [(.int p2), (.ref a1)])) _
    refine st101 _ ?_
    show Steps p.tables e below (T101.setTop (mkF m 31 #[.val (.ref a1), .val (.int p2), .val (.int p3), .val .null] [])) _
    refine XS.aloadN X101.here hx rfl (hb hby own_d_prog_13_method_1_31) rfl rfl ?_
    show Steps p.tables e below (T101.setTop (mkF m 32 #[.val (.ref a1), .val (.int p2), .val (.int p3), .val .null] [(.ref a1)])) _
    refine XS.iloadN X101.here hx rfl (hb hby own_d_prog_13_method_1_32) rfl ?_
    show Steps p.tables e below (T101.setTop (mkF m 33 #[.val (.ref a1), .val (.int p2), .val (.int p3), .val .null] [(.int p3), (.ref a1)])) _
    refine st118 _ ?_
    show Steps p.tables e below (T118.setTop (mkF m 36 #[.val (.ref a1), .val (.int p2), .val (.int p3), .val .null] [])) _
    refine XS.aloadN X118.here hx rfl (hb hby own_d_prog_13_method_1_36) rfl rfl ?_
    show Steps p.tables e below (T118.setTop (mkF m 37 #[.val (.ref a1), .val (.int p2), .val (.int p3), .val .null] [(.ref a1)])) _
    refine XS.aloadN X118.here hx rfl (hb hby own_d_prog_13_method_1_37) rfl rfl ?_
    show Steps p.tables e below (T118.setTop (mkF m 38 #[.val (.ref a1), .val (.int p2), .val (.int p3), .val .null] [.null, (.ref a1)])) _
    refine st135 _ ?_
    exact kt
  obtain ⟨fs, hr, hrun, hended, hW, hsame⟩ := X135.leave (v := none) (fun _ => rfl)
  refine ⟨_, _, pre152 _ ?_, hrun, hended, _, _, rfl, ?_, ⟨_, rfl⟩, hW, hsame.mono (by decide) (by decide)⟩
  · show Steps p.tables e below (T135.setTop (mkF m 41 #[.val (.ref a1), .val (.int p2), .val (.int p3), .val .null] [])) _
    exact X135.returnOut hx Bd.returns (hb hby own_d_prog_13_method_1_41) hr
  · show own_Q_exN Z a1 p2 p3 aS h0 n0 (none) T135.heap _
    rw [e135]
    exact ⟨rfl, nf150, k149, f140, f141, f151, f143, f144, f145, f146⟩
theorem own_lc (x : Int64) : lcmpW x x = 0 := by simp [lcmpW]
theorem own_d_prog_13_method_21_0 : decode prog_13_method_21_code 0 = .ok (.aload_n 0, 1) := by decide +kernel
theorem own_d_prog_13_method_21_1 : decode prog_13_method_21_code 1 = .ok (.aload_n 1, 1) := by decide +kernel
theorem own_d_prog_13_method_21_2 : decode prog_13_method_21_code 2 = .ok (.putfield 64, 3) := by decide +kernel
theorem own_d_prog_13_method_21_5 : decode prog_13_method_21_code 5 = .ok (.aload_n 0, 1) := by decide +kernel
theorem own_d_prog_13_method_21_6 : decode prog_13_method_21_code 6 = .ok (.lload_n 2, 1) := by decide +kernel
theorem own_d_prog_13_method_21_7 : decode prog_13_method_21_code 7 = .ok (.putfield 67, 3) := by decide +kernel
theorem own_d_prog_13_method_21_10 : decode prog_13_method_21_code 10 = .ok (.aload_n 0, 1) := by decide +kernel
theorem own_d_prog_13_method_21_11 : decode prog_13_method_21_code 11 = .ok (.lload 4, 2) := by decide +kernel
theorem own_d_prog_13_method_21_13 : decode prog_13_method_21_code 13 = .ok (.putfield 71, 3) := by decide +kernel
theorem own_d_prog_13_method_21_16 : decode prog_13_method_21_code 16 = .ok (.aload_n 0, 1) := by decide +kernel
theorem own_d_prog_13_method_21_17 : decode prog_13_method_21_code 17 = .ok (.iload 6, 2) := by decide +kernel
theorem own_d_prog_13_method_21_19 : decode prog_13_method_21_code 19 = .ok (.putfield 74, 3) := by decide +kernel
theorem own_d_prog_13_method_21_22 : decode prog_13_method_21_code 22 = .ok (.return_, 1) := by decide +kernel
theorem own_ef_tkR (m : MethodId) (a1 : Addr) (a2 : Addr) (q3 : Int64) (q4 : Int64) (p5 : Int32) : entryFrame m #[(.ref a1), (.ref a2), (.long q3), (.long q4), (.int p5)] 7 = mkF m 0 #[.val (.ref a1), .val (.ref a2), .val (.long q3), .second, .val (.long q4), .second, .val (.int p5)] [] := by first | (simp [entryFrame, mkF, argsToLocals, Value.category]; done) | rfl
def own_Q_tkR (Z : State) (a1 : Addr) (a2 : Addr) (q3 : Int64) (q4 : Int64) (p5 : Int32) (u1 : Value) (u2 : Value) (u3 : Value) (u4 : Value) (v1 : Int32) (v2 : Int32) (v3 : Addr) (h0 : Heap) (n0 : Nat) (v : Option Value) (h : Heap) (L : List Loc) : Prop := v = none ∧ Fr n0 L ∧ Keep h0 h [a1] ∧ Fld Z h a1 "com/example/interleave/interleave/check/Expansion" "fresh" "Ljava/util/List;" (.ref a2) ∧ Fld Z h a1 "com/example/interleave/interleave/check/Expansion" "generated" "J" (.long q3) ∧ Fld Z h a1 "com/example/interleave/interleave/check/Expansion" "distinct" "J" (.long q4) ∧ Fld Z h a1 "com/example/interleave/interleave/check/Expansion" "depth" "I" (.int p5) ∧ Fld Z h a1 "com/example/interleave/interleave/check/Expansion" "sourceId" "I" (.int v1) ∧ Fld Z h a1 "com/example/interleave/interleave/check/Expansion" "sourceParent" "I" (.int v2) ∧ Fld Z h a1 "com/example/interleave/interleave/check/Expansion" "sourceBytes" "[B" (.ref v3)
set_option maxRecDepth 65536 in
set_option maxHeartbeats 40000000 in
theorem own_rm_tkR (l : Launch) (Z : State) (a0 : Array Value) (hw : ∀ d ∈ tables_1, d.before a0 Z = true) (ws : List Jvm.Cond) (a1 : Addr) (a2 : Addr) (q3 : Int64) (q4 : Int64) (p5 : Int32) (u1 : Value) (u2 : Value) (u3 : Value) (u4 : Value) (v1 : Int32) (v2 : Int32) (v3 : Addr) (h0 : Heap) (n0 : Nat) (Z0 : n0 ≤ h0.size) (E1 : Exa Z h0 a1 "com/example/interleave/interleave/check/Expansion") (F_fresh : Fld Z h0 a1 "com/example/interleave/interleave/check/Expansion" "fresh" "Ljava/util/List;" u1) (F_generated : Fld Z h0 a1 "com/example/interleave/interleave/check/Expansion" "generated" "J" u2) (F_distinct : Fld Z h0 a1 "com/example/interleave/interleave/check/Expansion" "distinct" "J" u3) (F_depth : Fld Z h0 a1 "com/example/interleave/interleave/check/Expansion" "depth" "I" u4) (F_sourceId : Fld Z h0 a1 "com/example/interleave/interleave/check/Expansion" "sourceId" "I" (.int v1)) (F_sourceParent : Fld Z h0 a1 "com/example/interleave/interleave/check/Expansion" "sourceParent" "I" (.int v2)) (F_sourceBytes : Fld Z h0 a1 "com/example/interleave/interleave/check/Expansion" "sourceBytes" "[B" (.ref v3)) (g1 : n0 ≤ a1) :
    MetFree l (⟨"com/example/interleave/interleave/check/Expansion", "tookIn", "(Ljava/util/List;JJI)V"⟩ : MethodName) (head1 (Jvm.Cond.code (⟨"com/example/interleave/interleave/check/Expansion", "tookIn", "(Ljava/util/List;JJI)V"⟩ : MethodName) prog_13_method_21_code 7 none :: ws) ({ frames := 0, cells := 0, slots := 0, locals := 0 } : Room)) (fun a U => a = #[(.ref a1), (.ref a2), (.long q3), (.long q4), (.int p5)] ∧ Z.Warmed39 U.vm ∧ U.heap = h0) (fun _ _ _ _ _ => True) (fun _ U o U' => ∃ v L, o = .returned v ∧ own_Q_tkR Z a1 a2 q3 q4 p5 u1 u2 u3 u4 v1 v2 v3 h0 n0 v U'.heap L ∧ FrameEnd U o U' L ({ frames := 0, cells := 0, slots := 0, locals := 0 } : Room).cells ({ frames := 0, cells := 0, slots := 0, locals := 0 } : Room).slots) := by
  refine MetFree.of_bodySF (plainFor_of_name own_pn3) hisR ?_
  intro p e s m args below meth c s₁ Bd hml0 hP hK
  obtain ⟨rfl, hZ, hh⟩ := hP
  have hx := Bd.exec
  have hby := Bd.bytes
  have hml : c.maxLocals = 7 := hml0
  have hown : s.vm.findClass "com/example/interleave/interleave/check/Expansion" = some m.cls := findClass_of_methodNamed Bd.named
  have hnm := (name_of_methodNamed Bd.named Bd.method).1
  have X0 : Stand p l e ({ frames := 0, cells := 0, slots := 0, locals := 0 } : Room) s m #[(.ref a1), (.ref a2), (.long q3), (.long q4), (.int p5)] below meth c s₁ [] 0 0 := Stand.of_body Bd
  have e0 : s₁.heap = h0 := by rw [← hh, Bd.state]; rfl
  have N0 := Fr.nil n0
  have K0 : Keep h0 h0 [a1] := Keep.refl _ _
  have pre0 : ∀ t, Steps p.tables e below (s₁.setTop (mkF m 0 #[.val (.ref a1), .val (.ref a2), .val (.long q3), .second, .val (.long q4), .second, .val (.int p5)] [])) t → Steps p.tables e below (s₁.setTop (entryFrame m #[(.ref a1), (.ref a2), (.long q3), (.long q4), (.int p5)] 7)) t := fun t k => castTop (own_ef_tkR m a1 a2 q3 q4 p5) k
  obtain ⟨T1, h1, X1, e1, W1, st1⟩ := putF X0 hx hZ hown (host := "") (Or.inl (hw _ (List.mem_of_getElem? (i := 51) rfl))) Via.refl e0 F_fresh E1 (Or.inl (hw _ (List.mem_of_getElem? (i := 52) rfl))) (hw _ (List.mem_of_getElem? (i := 2) rfl)) (ty := (.object "java/util/List")) (by decide) rfl rfl (g := (mkF m 2 #[.val (.ref a1), .val (.ref a2), .val (.long q3), .second, .val (.long q4), .second, .val (.int p5)] [(.ref a2), (.ref a1)])) rfl rfl (hb hby own_d_prog_13_method_21_2)
  have f2 := E1.wr W1
  have f4 := F_generated.other W1 (Or.inr (slot_ne (Or.inl (hw _ (List.mem_of_getElem? (i := 54) rfl))) (Or.inl (hw _ (List.mem_of_getElem? (i := 52) rfl))) (by decide) (t := .long) (t' := (.object "java/util/List")) (by decide) (by decide)))
  have f5 := F_distinct.other W1 (Or.inr (slot_ne (Or.inl (hw _ (List.mem_of_getElem? (i := 56) rfl))) (Or.inl (hw _ (List.mem_of_getElem? (i := 52) rfl))) (by decide) (t := .long) (t' := (.object "java/util/List")) (by decide) (by decide)))
  have f6 := F_depth.other W1 (Or.inr (slot_ne (Or.inl (hw _ (List.mem_of_getElem? (i := 58) rfl))) (Or.inl (hw _ (List.mem_of_getElem? (i := 52) rfl))) (by decide) (t := .int) (t' := (.object "java/util/List")) (by decide) (by decide)))
  have f7 := F_sourceId.other W1 (Or.inr (slot_ne (Or.inr (hw _ (List.mem_of_getElem? (i := 39) rfl))) (Or.inl (hw _ (List.mem_of_getElem? (i := 52) rfl))) (by decide) (t := .int) (t' := (.object "java/util/List")) (by decide) (by decide)))
  have f8 := F_sourceParent.other W1 (Or.inr (slot_ne (Or.inr (hw _ (List.mem_of_getElem? (i := 41) rfl))) (Or.inl (hw _ (List.mem_of_getElem? (i := 52) rfl))) (by decide) (t := .int) (t' := (.object "java/util/List")) (by decide) (by decide)))
  have f9 := F_sourceBytes.other W1 (Or.inr (slot_ne (Or.inr (hw _ (List.mem_of_getElem? (i := 43) rfl))) (Or.inl (hw _ (List.mem_of_getElem? (i := 52) rfl))) (by decide) (t := (.array .byte)) (t' := (.object "java/util/List")) (by decide) (by decide)))
  have k10 := K0.wr W1 (Or.inl (List.mem_of_getElem? (i := 0) rfl))
  have nf11 := Fr.snoc X1 N0 g1
  have f12 := F_fresh.same W1
  obtain ⟨T13, h13, X13, e13, W13, st13⟩ := putF X1 hx hZ hown (host := "") (Or.inl (hw _ (List.mem_of_getElem? (i := 53) rfl))) Via.refl e1 f4 f2 (Or.inl (hw _ (List.mem_of_getElem? (i := 54) rfl))) (hw _ (List.mem_of_getElem? (i := 2) rfl)) (ty := .long) (by decide) rfl rfl (g := (mkF m 7 #[.val (.ref a1), .val (.ref a2), .val (.long q3), .second, .val (.long q4), .second, .val (.int p5)] [(.long q3), (.ref a1)])) rfl rfl (hb hby own_d_prog_13_method_21_7)
  have f14 := f2.wr W13
  have f15 := f12.other W13 (Or.inr (slot_ne (Or.inl (hw _ (List.mem_of_getElem? (i := 52) rfl))) (Or.inl (hw _ (List.mem_of_getElem? (i := 54) rfl))) (by decide) (t := (.object "java/util/List")) (t' := .long) (by decide) (by decide)))
  have f17 := f5.other W13 (Or.inr (slot_ne (Or.inl (hw _ (List.mem_of_getElem? (i := 56) rfl))) (Or.inl (hw _ (List.mem_of_getElem? (i := 54) rfl))) (by decide) (t := .long) (t' := .long) (by decide) (by decide)))
  have f18 := f6.other W13 (Or.inr (slot_ne (Or.inl (hw _ (List.mem_of_getElem? (i := 58) rfl))) (Or.inl (hw _ (List.mem_of_getElem? (i := 54) rfl))) (by decide) (t := .int) (t' := .long) (by decide) (by decide)))
  have f19 := f7.other W13 (Or.inr (slot_ne (Or.inr (hw _ (List.mem_of_getElem? (i := 39) rfl))) (Or.inl (hw _ (List.mem_of_getElem? (i := 54) rfl))) (by decide) (t := .int) (t' := .long) (by decide) (by decide)))
  have f20 := f8.other W13 (Or.inr (slot_ne (Or.inr (hw _ (List.mem_of_getElem? (i := 41) rfl))) (Or.inl (hw _ (List.mem_of_getElem? (i := 54) rfl))) (by decide) (t := .int) (t' := .long) (by decide) (by decide)))
  have f21 := f9.other W13 (Or.inr (slot_ne (Or.inr (hw _ (List.mem_of_getElem? (i := 43) rfl))) (Or.inl (hw _ (List.mem_of_getElem? (i := 54) rfl))) (by decide) (t := (.array .byte)) (t' := .long) (by decide) (by decide)))
  have k22 := k10.wr W13 (Or.inl (List.mem_of_getElem? (i := 0) rfl))
  have nf23 := Fr.snoc X13 nf11 g1
  have f24 := f4.same W13
  obtain ⟨T25, h25, X25, e25, W25, st25⟩ := putF X13 hx hZ hown (host := "") (Or.inl (hw _ (List.mem_of_getElem? (i := 55) rfl))) Via.refl e13 f17 f14 (Or.inl (hw _ (List.mem_of_getElem? (i := 56) rfl))) (hw _ (List.mem_of_getElem? (i := 2) rfl)) (ty := .long) (by decide) rfl rfl (g := (mkF m 13 #[.val (.ref a1), .val (.ref a2), .val (.long q3), .second, .val (.long q4), .second, .val (.int p5)] [(.long q4), (.ref a1)])) rfl rfl (hb hby own_d_prog_13_method_21_13)
  have f26 := f14.wr W25
  have f27 := f15.other W25 (Or.inr (slot_ne (Or.inl (hw _ (List.mem_of_getElem? (i := 52) rfl))) (Or.inl (hw _ (List.mem_of_getElem? (i := 56) rfl))) (by decide) (t := (.object "java/util/List")) (t' := .long) (by decide) (by decide)))
  have f28 := f24.other W25 (Or.inr (slot_ne (Or.inl (hw _ (List.mem_of_getElem? (i := 54) rfl))) (Or.inl (hw _ (List.mem_of_getElem? (i := 56) rfl))) (by decide) (t := .long) (t' := .long) (by decide) (by decide)))
  have f30 := f18.other W25 (Or.inr (slot_ne (Or.inl (hw _ (List.mem_of_getElem? (i := 58) rfl))) (Or.inl (hw _ (List.mem_of_getElem? (i := 56) rfl))) (by decide) (t := .int) (t' := .long) (by decide) (by decide)))
  have f31 := f19.other W25 (Or.inr (slot_ne (Or.inr (hw _ (List.mem_of_getElem? (i := 39) rfl))) (Or.inl (hw _ (List.mem_of_getElem? (i := 56) rfl))) (by decide) (t := .int) (t' := .long) (by decide) (by decide)))
  have f32 := f20.other W25 (Or.inr (slot_ne (Or.inr (hw _ (List.mem_of_getElem? (i := 41) rfl))) (Or.inl (hw _ (List.mem_of_getElem? (i := 56) rfl))) (by decide) (t := .int) (t' := .long) (by decide) (by decide)))
  have f33 := f21.other W25 (Or.inr (slot_ne (Or.inr (hw _ (List.mem_of_getElem? (i := 43) rfl))) (Or.inl (hw _ (List.mem_of_getElem? (i := 56) rfl))) (by decide) (t := (.array .byte)) (t' := .long) (by decide) (by decide)))
  have k34 := k22.wr W25 (Or.inl (List.mem_of_getElem? (i := 0) rfl))
  have nf35 := Fr.snoc X25 nf23 g1
  have f36 := f17.same W25
  obtain ⟨T37, h37, X37, e37, W37, st37⟩ := putF X25 hx hZ hown (host := "") (Or.inl (hw _ (List.mem_of_getElem? (i := 57) rfl))) Via.refl e25 f30 f26 (Or.inl (hw _ (List.mem_of_getElem? (i := 58) rfl))) (hw _ (List.mem_of_getElem? (i := 2) rfl)) (ty := .int) (by decide) rfl rfl (g := (mkF m 19 #[.val (.ref a1), .val (.ref a2), .val (.long q3), .second, .val (.long q4), .second, .val (.int p5)] [(.int p5), (.ref a1)])) rfl rfl (hb hby own_d_prog_13_method_21_19)
  have f38 := f26.wr W37
  have f39 := f27.other W37 (Or.inr (slot_ne (Or.inl (hw _ (List.mem_of_getElem? (i := 52) rfl))) (Or.inl (hw _ (List.mem_of_getElem? (i := 58) rfl))) (by decide) (t := (.object "java/util/List")) (t' := .int) (by decide) (by decide)))
  have f40 := f28.other W37 (Or.inr (slot_ne (Or.inl (hw _ (List.mem_of_getElem? (i := 54) rfl))) (Or.inl (hw _ (List.mem_of_getElem? (i := 58) rfl))) (by decide) (t := .long) (t' := .int) (by decide) (by decide)))
  have f41 := f36.other W37 (Or.inr (slot_ne (Or.inl (hw _ (List.mem_of_getElem? (i := 56) rfl))) (Or.inl (hw _ (List.mem_of_getElem? (i := 58) rfl))) (by decide) (t := .long) (t' := .int) (by decide) (by decide)))
  have f43 := f31.other W37 (Or.inr (slot_ne (Or.inr (hw _ (List.mem_of_getElem? (i := 39) rfl))) (Or.inl (hw _ (List.mem_of_getElem? (i := 58) rfl))) (by decide) (t := .int) (t' := .int) (by decide) (by decide)))
  have f44 := f32.other W37 (Or.inr (slot_ne (Or.inr (hw _ (List.mem_of_getElem? (i := 41) rfl))) (Or.inl (hw _ (List.mem_of_getElem? (i := 58) rfl))) (by decide) (t := .int) (t' := .int) (by decide) (by decide)))
  have f45 := f33.other W37 (Or.inr (slot_ne (Or.inr (hw _ (List.mem_of_getElem? (i := 43) rfl))) (Or.inl (hw _ (List.mem_of_getElem? (i := 58) rfl))) (by decide) (t := (.array .byte)) (t' := .int) (by decide) (by decide)))
  have k46 := k34.wr W37 (Or.inl (List.mem_of_getElem? (i := 0) rfl))
  have nf47 := Fr.snoc X37 nf35 g1
  have f48 := f30.same W37
  have pre49 : ∀ t, Steps p.tables e below (T37.setTop (mkF m 22 #[.val (.ref a1), .val (.ref a2), .val (.long q3), .second, .val (.long q4), .second, .val (.int p5)] [])) t → Steps p.tables e below (s₁.setTop (entryFrame m #[(.ref a1), (.ref a2), (.long q3), (.long q4), (.int p5)] 7)) t := by
    intro t kt
    refine pre0 t ?_
    show Steps p.tables e below (s₁.setTop (mkF m 0 #[.val (.ref a1), .val (.ref a2), .val (.long q3), .second, .val (.long q4), .second, .val (.int p5)] [])) _
    refine XS.aloadN X0.here hx rfl (hb hby own_d_prog_13_method_21_0) rfl rfl ?_
    show Steps p.tables e below (s₁.setTop (mkF m 1 #[.val (.ref a1), .val (.ref a2), .val (.long q3), .second, .val (.long q4), .second, .val (.int p5)] [(.ref a1)])) _
    refine XS.aloadN X0.here hx rfl (hb hby own_d_prog_13_method_21_1) rfl rfl ?_
    show Steps p.tables e below (s₁.setTop (mkF m 2 #[.val (.ref a1), .val (.ref a2), .val (.long q3), .second, .val (.long q4), .second, .val (.int p5)] [(.ref a2), (.ref a1)])) _
    refine st1 _ ?_
    show Steps p.tables e below (T1.setTop (mkF m 5 #[.val (.ref a1), .val (.ref a2), .val (.long q3), .second, .val (.long q4), .second, .val (.int p5)] [])) _
    refine XS.aloadN X1.here hx rfl (hb hby own_d_prog_13_method_21_5) rfl rfl ?_
    show Steps p.tables e below (T1.setTop (mkF m 6 #[.val (.ref a1), .val (.ref a2), .val (.long q3), .second, .val (.long q4), .second, .val (.int p5)] [(.ref a1)])) _
    refine XS.lloadN X1.here hx rfl (hb hby own_d_prog_13_method_21_6) rfl ?_
    show Steps p.tables e below (T1.setTop (mkF m 7 #[.val (.ref a1), .val (.ref a2), .val (.long q3), .second, .val (.long q4), .second, .val (.int p5)] [(.long q3), (.ref a1)])) _
    refine st13 _ ?_
    show Steps p.tables e below (T13.setTop (mkF m 10 #[.val (.ref a1), .val (.ref a2), .val (.long q3), .second, .val (.long q4), .second, .val (.int p5)] [])) _
    refine XS.aloadN X13.here hx rfl (hb hby own_d_prog_13_method_21_10) rfl rfl ?_
    show Steps p.tables e below (T13.setTop (mkF m 11 #[.val (.ref a1), .val (.ref a2), .val (.long q3), .second, .val (.long q4), .second, .val (.int p5)] [(.ref a1)])) _
    refine XS.lload X13.here hx rfl (hb hby own_d_prog_13_method_21_11) rfl ?_
    show Steps p.tables e below (T13.setTop (mkF m 13 #[.val (.ref a1), .val (.ref a2), .val (.long q3), .second, .val (.long q4), .second, .val (.int p5)] [(.long q4), (.ref a1)])) _
    refine st25 _ ?_
    show Steps p.tables e below (T25.setTop (mkF m 16 #[.val (.ref a1), .val (.ref a2), .val (.long q3), .second, .val (.long q4), .second, .val (.int p5)] [])) _
    refine XS.aloadN X25.here hx rfl (hb hby own_d_prog_13_method_21_16) rfl rfl ?_
    show Steps p.tables e below (T25.setTop (mkF m 17 #[.val (.ref a1), .val (.ref a2), .val (.long q3), .second, .val (.long q4), .second, .val (.int p5)] [(.ref a1)])) _
    refine XS.iload X25.here hx rfl (hb hby own_d_prog_13_method_21_17) rfl ?_
    show Steps p.tables e below (T25.setTop (mkF m 19 #[.val (.ref a1), .val (.ref a2), .val (.long q3), .second, .val (.long q4), .second, .val (.int p5)] [(.int p5), (.ref a1)])) _
    refine st37 _ ?_
    exact kt
  obtain ⟨fs, hr, hrun, hended, hW, hsame⟩ := X37.leave (v := none) (fun _ => rfl)
  refine ⟨_, _, pre49 _ ?_, hrun, hended, _, _, rfl, ?_, ⟨_, rfl⟩, hW, hsame.mono (by decide) (by decide)⟩
  · show Steps p.tables e below (T37.setTop (mkF m 22 #[.val (.ref a1), .val (.ref a2), .val (.long q3), .second, .val (.long q4), .second, .val (.int p5)] [])) _
    exact X37.returnOut hx Bd.returns (hb hby own_d_prog_13_method_21_22) hr
  · show own_Q_tkR Z a1 a2 q3 q4 p5 u1 u2 u3 u4 v1 v2 v3 h0 n0 (none) T37.heap _
    rw [e37]
    exact ⟨rfl, nf47, k46, f39, f40, f41, f48, f43, f44, f45⟩
theorem own_ef_tkN (m : MethodId) (a1 : Addr) (q3 : Int64) (q4 : Int64) (p5 : Int32) : entryFrame m #[(.ref a1), .null, (.long q3), (.long q4), (.int p5)] 7 = mkF m 0 #[.val (.ref a1), .val .null, .val (.long q3), .second, .val (.long q4), .second, .val (.int p5)] [] := by first | (simp [entryFrame, mkF, argsToLocals, Value.category]; done) | rfl
def own_Q_tkN (Z : State) (a1 : Addr) (q3 : Int64) (q4 : Int64) (p5 : Int32) (u1 : Value) (u2 : Value) (u3 : Value) (u4 : Value) (v1 : Int32) (v2 : Int32) (v3 : Addr) (h0 : Heap) (n0 : Nat) (v : Option Value) (h : Heap) (L : List Loc) : Prop := v = none ∧ Fr n0 L ∧ Keep h0 h [a1] ∧ Fld Z h a1 "com/example/interleave/interleave/check/Expansion" "fresh" "Ljava/util/List;" .null ∧ Fld Z h a1 "com/example/interleave/interleave/check/Expansion" "generated" "J" (.long q3) ∧ Fld Z h a1 "com/example/interleave/interleave/check/Expansion" "distinct" "J" (.long q4) ∧ Fld Z h a1 "com/example/interleave/interleave/check/Expansion" "depth" "I" (.int p5) ∧ Fld Z h a1 "com/example/interleave/interleave/check/Expansion" "sourceId" "I" (.int v1) ∧ Fld Z h a1 "com/example/interleave/interleave/check/Expansion" "sourceParent" "I" (.int v2) ∧ Fld Z h a1 "com/example/interleave/interleave/check/Expansion" "sourceBytes" "[B" (.ref v3)
set_option maxRecDepth 65536 in
set_option maxHeartbeats 40000000 in
theorem own_rm_tkN (l : Launch) (Z : State) (a0 : Array Value) (hw : ∀ d ∈ tables_1, d.before a0 Z = true) (ws : List Jvm.Cond) (a1 : Addr) (q3 : Int64) (q4 : Int64) (p5 : Int32) (u1 : Value) (u2 : Value) (u3 : Value) (u4 : Value) (v1 : Int32) (v2 : Int32) (v3 : Addr) (h0 : Heap) (n0 : Nat) (Z0 : n0 ≤ h0.size) (E1 : Exa Z h0 a1 "com/example/interleave/interleave/check/Expansion") (F_fresh : Fld Z h0 a1 "com/example/interleave/interleave/check/Expansion" "fresh" "Ljava/util/List;" u1) (F_generated : Fld Z h0 a1 "com/example/interleave/interleave/check/Expansion" "generated" "J" u2) (F_distinct : Fld Z h0 a1 "com/example/interleave/interleave/check/Expansion" "distinct" "J" u3) (F_depth : Fld Z h0 a1 "com/example/interleave/interleave/check/Expansion" "depth" "I" u4) (F_sourceId : Fld Z h0 a1 "com/example/interleave/interleave/check/Expansion" "sourceId" "I" (.int v1)) (F_sourceParent : Fld Z h0 a1 "com/example/interleave/interleave/check/Expansion" "sourceParent" "I" (.int v2)) (F_sourceBytes : Fld Z h0 a1 "com/example/interleave/interleave/check/Expansion" "sourceBytes" "[B" (.ref v3)) (g1 : n0 ≤ a1) :
    MetFree l (⟨"com/example/interleave/interleave/check/Expansion", "tookIn", "(Ljava/util/List;JJI)V"⟩ : MethodName) (head1 (Jvm.Cond.code (⟨"com/example/interleave/interleave/check/Expansion", "tookIn", "(Ljava/util/List;JJI)V"⟩ : MethodName) prog_13_method_21_code 7 none :: ws) ({ frames := 0, cells := 0, slots := 0, locals := 0 } : Room)) (fun a U => a = #[(.ref a1), .null, (.long q3), (.long q4), (.int p5)] ∧ Z.Warmed39 U.vm ∧ U.heap = h0) (fun _ _ _ _ _ => True) (fun _ U o U' => ∃ v L, o = .returned v ∧ own_Q_tkN Z a1 q3 q4 p5 u1 u2 u3 u4 v1 v2 v3 h0 n0 v U'.heap L ∧ FrameEnd U o U' L ({ frames := 0, cells := 0, slots := 0, locals := 0 } : Room).cells ({ frames := 0, cells := 0, slots := 0, locals := 0 } : Room).slots) := by
  refine MetFree.of_bodySF (plainFor_of_name own_pn3) hisR ?_
  intro p e s m args below meth c s₁ Bd hml0 hP hK
  obtain ⟨rfl, hZ, hh⟩ := hP
  have hx := Bd.exec
  have hby := Bd.bytes
  have hml : c.maxLocals = 7 := hml0
  have hown : s.vm.findClass "com/example/interleave/interleave/check/Expansion" = some m.cls := findClass_of_methodNamed Bd.named
  have hnm := (name_of_methodNamed Bd.named Bd.method).1
  have X0 : Stand p l e ({ frames := 0, cells := 0, slots := 0, locals := 0 } : Room) s m #[(.ref a1), .null, (.long q3), (.long q4), (.int p5)] below meth c s₁ [] 0 0 := Stand.of_body Bd
  have e0 : s₁.heap = h0 := by rw [← hh, Bd.state]; rfl
  have N0 := Fr.nil n0
  have K0 : Keep h0 h0 [a1] := Keep.refl _ _
  have pre0 : ∀ t, Steps p.tables e below (s₁.setTop (mkF m 0 #[.val (.ref a1), .val .null, .val (.long q3), .second, .val (.long q4), .second, .val (.int p5)] [])) t → Steps p.tables e below (s₁.setTop (entryFrame m #[(.ref a1), .null, (.long q3), (.long q4), (.int p5)] 7)) t := fun t k => castTop (own_ef_tkN m a1 q3 q4 p5) k
  obtain ⟨T1, h1, X1, e1, W1, st1⟩ := putF X0 hx hZ hown (host := "") (Or.inl (hw _ (List.mem_of_getElem? (i := 51) rfl))) Via.refl e0 F_fresh E1 (Or.inl (hw _ (List.mem_of_getElem? (i := 52) rfl))) (hw _ (List.mem_of_getElem? (i := 2) rfl)) (ty := (.object "java/util/List")) (by decide) rfl rfl (g := (mkF m 2 #[.val (.ref a1), .val .null, .val (.long q3), .second, .val (.long q4), .second, .val (.int p5)] [.null, (.ref a1)])) rfl rfl (hb hby own_d_prog_13_method_21_2)
  have f2 := E1.wr W1
  have f4 := F_generated.other W1 (Or.inr (slot_ne (Or.inl (hw _ (List.mem_of_getElem? (i := 54) rfl))) (Or.inl (hw _ (List.mem_of_getElem? (i := 52) rfl))) (by decide) (t := .long) (t' := (.object "java/util/List")) (by decide) (by decide)))
  have f5 := F_distinct.other W1 (Or.inr (slot_ne (Or.inl (hw _ (List.mem_of_getElem? (i := 56) rfl))) (Or.inl (hw _ (List.mem_of_getElem? (i := 52) rfl))) (by decide) (t := .long) (t' := (.object "java/util/List")) (by decide) (by decide)))
  have f6 := F_depth.other W1 (Or.inr (slot_ne (Or.inl (hw _ (List.mem_of_getElem? (i := 58) rfl))) (Or.inl (hw _ (List.mem_of_getElem? (i := 52) rfl))) (by decide) (t := .int) (t' := (.object "java/util/List")) (by decide) (by decide)))
  have f7 := F_sourceId.other W1 (Or.inr (slot_ne (Or.inr (hw _ (List.mem_of_getElem? (i := 39) rfl))) (Or.inl (hw _ (List.mem_of_getElem? (i := 52) rfl))) (by decide) (t := .int) (t' := (.object "java/util/List")) (by decide) (by decide)))
  have f8 := F_sourceParent.other W1 (Or.inr (slot_ne (Or.inr (hw _ (List.mem_of_getElem? (i := 41) rfl))) (Or.inl (hw _ (List.mem_of_getElem? (i := 52) rfl))) (by decide) (t := .int) (t' := (.object "java/util/List")) (by decide) (by decide)))
  have f9 := F_sourceBytes.other W1 (Or.inr (slot_ne (Or.inr (hw _ (List.mem_of_getElem? (i := 43) rfl))) (Or.inl (hw _ (List.mem_of_getElem? (i := 52) rfl))) (by decide) (t := (.array .byte)) (t' := (.object "java/util/List")) (by decide) (by decide)))
  have k10 := K0.wr W1 (Or.inl (List.mem_of_getElem? (i := 0) rfl))
  have nf11 := Fr.snoc X1 N0 g1
  have f12 := F_fresh.same W1
  obtain ⟨T13, h13, X13, e13, W13, st13⟩ := putF X1 hx hZ hown (host := "") (Or.inl (hw _ (List.mem_of_getElem? (i := 53) rfl))) Via.refl e1 f4 f2 (Or.inl (hw _ (List.mem_of_getElem? (i := 54) rfl))) (hw _ (List.mem_of_getElem? (i := 2) rfl)) (ty := .long) (by decide) rfl rfl (g := (mkF m 7 #[.val (.ref a1), .val .null, .val (.long q3), .second, .val (.long q4), .second, .val (.int p5)] [(.long q3), (.ref a1)])) rfl rfl (hb hby own_d_prog_13_method_21_7)
  have f14 := f2.wr W13
  have f15 := f12.other W13 (Or.inr (slot_ne (Or.inl (hw _ (List.mem_of_getElem? (i := 52) rfl))) (Or.inl (hw _ (List.mem_of_getElem? (i := 54) rfl))) (by decide) (t := (.object "java/util/List")) (t' := .long) (by decide) (by decide)))
  have f17 := f5.other W13 (Or.inr (slot_ne (Or.inl (hw _ (List.mem_of_getElem? (i := 56) rfl))) (Or.inl (hw _ (List.mem_of_getElem? (i := 54) rfl))) (by decide) (t := .long) (t' := .long) (by decide) (by decide)))
  have f18 := f6.other W13 (Or.inr (slot_ne (Or.inl (hw _ (List.mem_of_getElem? (i := 58) rfl))) (Or.inl (hw _ (List.mem_of_getElem? (i := 54) rfl))) (by decide) (t := .int) (t' := .long) (by decide) (by decide)))
  have f19 := f7.other W13 (Or.inr (slot_ne (Or.inr (hw _ (List.mem_of_getElem? (i := 39) rfl))) (Or.inl (hw _ (List.mem_of_getElem? (i := 54) rfl))) (by decide) (t := .int) (t' := .long) (by decide) (by decide)))
  have f20 := f8.other W13 (Or.inr (slot_ne (Or.inr (hw _ (List.mem_of_getElem? (i := 41) rfl))) (Or.inl (hw _ (List.mem_of_getElem? (i := 54) rfl))) (by decide) (t := .int) (t' := .long) (by decide) (by decide)))
  have f21 := f9.other W13 (Or.inr (slot_ne (Or.inr (hw _ (List.mem_of_getElem? (i := 43) rfl))) (Or.inl (hw _ (List.mem_of_getElem? (i := 54) rfl))) (by decide) (t := (.array .byte)) (t' := .long) (by decide) (by decide)))
  have k22 := k10.wr W13 (Or.inl (List.mem_of_getElem? (i := 0) rfl))
  have nf23 := Fr.snoc X13 nf11 g1
  have f24 := f4.same W13
  obtain ⟨T25, h25, X25, e25, W25, st25⟩ := putF X13 hx hZ hown (host := "") (Or.inl (hw _ (List.mem_of_getElem? (i := 55) rfl))) Via.refl e13 f17 f14 (Or.inl (hw _ (List.mem_of_getElem? (i := 56) rfl))) (hw _ (List.mem_of_getElem? (i := 2) rfl)) (ty := .long) (by decide) rfl rfl (g := (mkF m 13 #[.val (.ref a1), .val .null, .val (.long q3), .second, .val (.long q4), .second, .val (.int p5)] [(.long q4), (.ref a1)])) rfl rfl (hb hby own_d_prog_13_method_21_13)
  have f26 := f14.wr W25
  have f27 := f15.other W25 (Or.inr (slot_ne (Or.inl (hw _ (List.mem_of_getElem? (i := 52) rfl))) (Or.inl (hw _ (List.mem_of_getElem? (i := 56) rfl))) (by decide) (t := (.object "java/util/List")) (t' := .long) (by decide) (by decide)))
  have f28 := f24.other W25 (Or.inr (slot_ne (Or.inl (hw _ (List.mem_of_getElem? (i := 54) rfl))) (Or.inl (hw _ (List.mem_of_getElem? (i := 56) rfl))) (by decide) (t := .long) (t' := .long) (by decide) (by decide)))
  have f30 := f18.other W25 (Or.inr (slot_ne (Or.inl (hw _ (List.mem_of_getElem? (i := 58) rfl))) (Or.inl (hw _ (List.mem_of_getElem? (i := 56) rfl))) (by decide) (t := .int) (t' := .long) (by decide) (by decide)))
  have f31 := f19.other W25 (Or.inr (slot_ne (Or.inr (hw _ (List.mem_of_getElem? (i := 39) rfl))) (Or.inl (hw _ (List.mem_of_getElem? (i := 56) rfl))) (by decide) (t := .int) (t' := .long) (by decide) (by decide)))
  have f32 := f20.other W25 (Or.inr (slot_ne (Or.inr (hw _ (List.mem_of_getElem? (i := 41) rfl))) (Or.inl (hw _ (List.mem_of_getElem? (i := 56) rfl))) (by decide) (t := .int) (t' := .long) (by decide) (by decide)))
  have f33 := f21.other W25 (Or.inr (slot_ne (Or.inr (hw _ (List.mem_of_getElem? (i := 43) rfl))) (Or.inl (hw _ (List.mem_of_getElem? (i := 56) rfl))) (by decide) (t := (.array .byte)) (t' := .long) (by decide) (by decide)))
  have k34 := k22.wr W25 (Or.inl (List.mem_of_getElem? (i := 0) rfl))
  have nf35 := Fr.snoc X25 nf23 g1
  have f36 := f17.same W25
  obtain ⟨T37, h37, X37, e37, W37, st37⟩ := putF X25 hx hZ hown (host := "") (Or.inl (hw _ (List.mem_of_getElem? (i := 57) rfl))) Via.refl e25 f30 f26 (Or.inl (hw _ (List.mem_of_getElem? (i := 58) rfl))) (hw _ (List.mem_of_getElem? (i := 2) rfl)) (ty := .int) (by decide) rfl rfl (g := (mkF m 19 #[.val (.ref a1), .val .null, .val (.long q3), .second, .val (.long q4), .second, .val (.int p5)] [(.int p5), (.ref a1)])) rfl rfl (hb hby own_d_prog_13_method_21_19)
  have f38 := f26.wr W37
  have f39 := f27.other W37 (Or.inr (slot_ne (Or.inl (hw _ (List.mem_of_getElem? (i := 52) rfl))) (Or.inl (hw _ (List.mem_of_getElem? (i := 58) rfl))) (by decide) (t := (.object "java/util/List")) (t' := .int) (by decide) (by decide)))
  have f40 := f28.other W37 (Or.inr (slot_ne (Or.inl (hw _ (List.mem_of_getElem? (i := 54) rfl))) (Or.inl (hw _ (List.mem_of_getElem? (i := 58) rfl))) (by decide) (t := .long) (t' := .int) (by decide) (by decide)))
  have f41 := f36.other W37 (Or.inr (slot_ne (Or.inl (hw _ (List.mem_of_getElem? (i := 56) rfl))) (Or.inl (hw _ (List.mem_of_getElem? (i := 58) rfl))) (by decide) (t := .long) (t' := .int) (by decide) (by decide)))
  have f43 := f31.other W37 (Or.inr (slot_ne (Or.inr (hw _ (List.mem_of_getElem? (i := 39) rfl))) (Or.inl (hw _ (List.mem_of_getElem? (i := 58) rfl))) (by decide) (t := .int) (t' := .int) (by decide) (by decide)))
  have f44 := f32.other W37 (Or.inr (slot_ne (Or.inr (hw _ (List.mem_of_getElem? (i := 41) rfl))) (Or.inl (hw _ (List.mem_of_getElem? (i := 58) rfl))) (by decide) (t := .int) (t' := .int) (by decide) (by decide)))
  have f45 := f33.other W37 (Or.inr (slot_ne (Or.inr (hw _ (List.mem_of_getElem? (i := 43) rfl))) (Or.inl (hw _ (List.mem_of_getElem? (i := 58) rfl))) (by decide) (t := (.array .byte)) (t' := .int) (by decide) (by decide)))
  have k46 := k34.wr W37 (Or.inl (List.mem_of_getElem? (i := 0) rfl))
  have nf47 := Fr.snoc X37 nf35 g1
  have f48 := f30.same W37
  have pre49 : ∀ t, Steps p.tables e below (T37.setTop (mkF m 22 #[.val (.ref a1), .val .null, .val (.long q3), .second, .val (.long q4), .second, .val (.int p5)] [])) t → Steps p.tables e below (s₁.setTop (entryFrame m #[(.ref a1), .null, (.long q3), (.long q4), (.int p5)] 7)) t := by
    intro t kt
    refine pre0 t ?_
    show Steps p.tables e below (s₁.setTop (mkF m 0 #[.val (.ref a1), .val .null, .val (.long q3), .second, .val (.long q4), .second, .val (.int p5)] [])) _
    refine XS.aloadN X0.here hx rfl (hb hby own_d_prog_13_method_21_0) rfl rfl ?_
    show Steps p.tables e below (s₁.setTop (mkF m 1 #[.val (.ref a1), .val .null, .val (.long q3), .second, .val (.long q4), .second, .val (.int p5)] [(.ref a1)])) _
    refine XS.aloadN X0.here hx rfl (hb hby own_d_prog_13_method_21_1) rfl rfl ?_
    show Steps p.tables e below (s₁.setTop (mkF m 2 #[.val (.ref a1), .val .null, .val (.long q3), .second, .val (.long q4), .second, .val (.int p5)] [.null, (.ref a1)])) _
    refine st1 _ ?_
    show Steps p.tables e below (T1.setTop (mkF m 5 #[.val (.ref a1), .val .null, .val (.long q3), .second, .val (.long q4), .second, .val (.int p5)] [])) _
    refine XS.aloadN X1.here hx rfl (hb hby own_d_prog_13_method_21_5) rfl rfl ?_
    show Steps p.tables e below (T1.setTop (mkF m 6 #[.val (.ref a1), .val .null, .val (.long q3), .second, .val (.long q4), .second, .val (.int p5)] [(.ref a1)])) _
    refine XS.lloadN X1.here hx rfl (hb hby own_d_prog_13_method_21_6) rfl ?_
    show Steps p.tables e below (T1.setTop (mkF m 7 #[.val (.ref a1), .val .null, .val (.long q3), .second, .val (.long q4), .second, .val (.int p5)] [(.long q3), (.ref a1)])) _
    refine st13 _ ?_
    show Steps p.tables e below (T13.setTop (mkF m 10 #[.val (.ref a1), .val .null, .val (.long q3), .second, .val (.long q4), .second, .val (.int p5)] [])) _
    refine XS.aloadN X13.here hx rfl (hb hby own_d_prog_13_method_21_10) rfl rfl ?_
    show Steps p.tables e below (T13.setTop (mkF m 11 #[.val (.ref a1), .val .null, .val (.long q3), .second, .val (.long q4), .second, .val (.int p5)] [(.ref a1)])) _
    refine XS.lload X13.here hx rfl (hb hby own_d_prog_13_method_21_11) rfl ?_
    show Steps p.tables e below (T13.setTop (mkF m 13 #[.val (.ref a1), .val .null, .val (.long q3), .second, .val (.long q4), .second, .val (.int p5)] [(.long q4), (.ref a1)])) _
    refine st25 _ ?_
    show Steps p.tables e below (T25.setTop (mkF m 16 #[.val (.ref a1), .val .null, .val (.long q3), .second, .val (.long q4), .second, .val (.int p5)] [])) _
    refine XS.aloadN X25.here hx rfl (hb hby own_d_prog_13_method_21_16) rfl rfl ?_
    show Steps p.tables e below (T25.setTop (mkF m 17 #[.val (.ref a1), .val .null, .val (.long q3), .second, .val (.long q4), .second, .val (.int p5)] [(.ref a1)])) _
    refine XS.iload X25.here hx rfl (hb hby own_d_prog_13_method_21_17) rfl ?_
    show Steps p.tables e below (T25.setTop (mkF m 19 #[.val (.ref a1), .val .null, .val (.long q3), .second, .val (.long q4), .second, .val (.int p5)] [(.int p5), (.ref a1)])) _
    refine st37 _ ?_
    exact kt
  obtain ⟨fs, hr, hrun, hended, hW, hsame⟩ := X37.leave (v := none) (fun _ => rfl)
  refine ⟨_, _, pre49 _ ?_, hrun, hended, _, _, rfl, ?_, ⟨_, rfl⟩, hW, hsame.mono (by decide) (by decide)⟩
  · show Steps p.tables e below (T37.setTop (mkF m 22 #[.val (.ref a1), .val .null, .val (.long q3), .second, .val (.long q4), .second, .val (.int p5)] [])) _
    exact X37.returnOut hx Bd.returns (hb hby own_d_prog_13_method_21_22) hr
  · show own_Q_tkN Z a1 q3 q4 p5 u1 u2 u3 u4 v1 v2 v3 h0 n0 (none) T37.heap _
    rw [e37]
    exact ⟨rfl, nf47, k46, f39, f40, f41, f48, f43, f44, f45⟩
theorem own_d_prog_13_method_22_0 : decode prog_13_method_22_code 0 = .ok (.aload_n 0, 1) := by decide +kernel
theorem own_d_prog_13_method_22_1 : decode prog_13_method_22_code 1 = .ok (.getfield 64, 3) := by decide +kernel
theorem own_d_prog_13_method_22_4 : decode prog_13_method_22_code 4 = .ok (.areturn, 1) := by decide +kernel
theorem own_ef_gfN (m : MethodId) (a1 : Addr) : entryFrame m #[(.ref a1)] 1 = mkF m 0 #[.val (.ref a1)] [] := by first | (simp [entryFrame, mkF, argsToLocals, Value.category]; done) | rfl
def own_Q_gfN (Z : State) (a1 : Addr) (h0 : Heap) (n0 : Nat) (v : Option Value) (h : Heap) (L : List Loc) : Prop := v = some .null ∧ Fr n0 L ∧ h = h0
set_option maxRecDepth 65536 in
set_option maxHeartbeats 40000000 in
theorem own_rm_gfN (l : Launch) (Z : State) (a0 : Array Value) (hw : ∀ d ∈ tables_1, d.before a0 Z = true) (ws : List Jvm.Cond) (a1 : Addr) (h0 : Heap) (n0 : Nat) (Z0 : n0 ≤ h0.size) (F0 : Fld Z h0 a1 "com/example/interleave/interleave/check/Expansion" "fresh" "Ljava/util/List;" .null) :
    MetFree l (⟨"com/example/interleave/interleave/check/Expansion", "fresh", "()Ljava/util/List;"⟩ : MethodName) (head1 (Jvm.Cond.code (⟨"com/example/interleave/interleave/check/Expansion", "fresh", "()Ljava/util/List;"⟩ : MethodName) prog_13_method_22_code 1 (some (.object "java/util/List")) :: ws) ({ frames := 0, cells := 0, slots := 0, locals := 0 } : Room)) (fun a U => a = #[(.ref a1)] ∧ Z.Warmed39 U.vm ∧ U.heap = h0) (fun _ _ _ _ _ => True) (fun _ U o U' => ∃ v L, o = .returned v ∧ own_Q_gfN Z a1 h0 n0 v U'.heap L ∧ FrameEnd U o U' L ({ frames := 0, cells := 0, slots := 0, locals := 0 } : Room).cells ({ frames := 0, cells := 0, slots := 0, locals := 0 } : Room).slots) := by
  refine MetFree.of_bodySF (plainFor_of_name own_pn3) hisR ?_
  intro p e s m args below meth c s₁ Bd hml0 hP hK
  obtain ⟨rfl, hZ, hh⟩ := hP
  have hx := Bd.exec
  have hby := Bd.bytes
  have hml : c.maxLocals = 1 := hml0
  have hown : s.vm.findClass "com/example/interleave/interleave/check/Expansion" = some m.cls := findClass_of_methodNamed Bd.named
  have hnm := (name_of_methodNamed Bd.named Bd.method).1
  have X0 : Stand p l e ({ frames := 0, cells := 0, slots := 0, locals := 0 } : Room) s m #[(.ref a1)] below meth c s₁ [] 0 0 := Stand.of_body Bd
  have e0 : s₁.heap = h0 := by rw [← hh, Bd.state]; rfl
  have N0 := Fr.nil n0
  have K0 : Keep h0 h0 [] := Keep.refl _ _
  have pre0 : ∀ t, Steps p.tables e below (s₁.setTop (mkF m 0 #[.val (.ref a1)] [])) t → Steps p.tables e below (s₁.setTop (entryFrame m #[(.ref a1)] 1)) t := fun t k => castTop (own_ef_gfN m a1) k
  obtain ⟨T1, X1, e1, st1⟩ := getF X0 hx hZ hown (host := "") (Or.inl (hw _ (List.mem_of_getElem? (i := 51) rfl))) Via.refl e0 F0 (g := (mkF m 1 #[.val (.ref a1)] [(.ref a1)])) rfl rfl (hb hby own_d_prog_13_method_22_1)
  have pre2 : ∀ t, Steps p.tables e below (T1.setTop (mkF m 4 #[.val (.ref a1)] [.null])) t → Steps p.tables e below (s₁.setTop (entryFrame m #[(.ref a1)] 1)) t := by
    intro t kt
    refine pre0 t ?_
    show Steps p.tables e below (s₁.setTop (mkF m 0 #[.val (.ref a1)] [])) _
    refine XS.aloadN X0.here hx rfl (hb hby own_d_prog_13_method_22_0) rfl rfl ?_
    show Steps p.tables e below (s₁.setTop (mkF m 1 #[.val (.ref a1)] [(.ref a1)])) _
    refine st1 _ ?_
    exact kt
  obtain ⟨fs, hr, hrun, hended, hW, hsame⟩ := X1.leave (v := some .null) (fun h => by rw [Bd.returns] at h; cases h)
  refine ⟨_, _, pre2 _ ?_, hrun, hended, _, _, rfl, ?_, ⟨_, rfl⟩, hW, hsame.mono (by decide) (by decide)⟩
  · show Steps p.tables e below (T1.setTop (mkF m 4 #[.val (.ref a1)] [.null])) _
    jvm_step X1.here [X1.here.top, hx, (hb hby own_d_prog_13_method_22_4), X1.method', Bd.returns, Value.isRef, FieldType.isReference]
    first | (intro acts; rw [hr _ acts rfl rfl rfl]) | rw [hr _ _ rfl rfl rfl]
    exact Steps.refl _
  · show own_Q_gfN Z a1 h0 n0 (some .null) T1.heap _
    rw [e1]
    exact ⟨rfl, N0, rfl⟩
theorem own_ef_gfR (m : MethodId) (a1 : Addr) : entryFrame m #[(.ref a1)] 1 = mkF m 0 #[.val (.ref a1)] [] := by first | (simp [entryFrame, mkF, argsToLocals, Value.category]; done) | rfl
def own_Q_gfR (Z : State) (a1 : Addr) (w : Addr) (h0 : Heap) (n0 : Nat) (v : Option Value) (h : Heap) (L : List Loc) : Prop := v = some (.ref w) ∧ Fr n0 L ∧ h = h0
set_option maxRecDepth 65536 in
set_option maxHeartbeats 40000000 in
theorem own_rm_gfR (l : Launch) (Z : State) (a0 : Array Value) (hw : ∀ d ∈ tables_1, d.before a0 Z = true) (ws : List Jvm.Cond) (a1 : Addr) (w : Addr) (h0 : Heap) (n0 : Nat) (Z0 : n0 ≤ h0.size) (F0 : Fld Z h0 a1 "com/example/interleave/interleave/check/Expansion" "fresh" "Ljava/util/List;" (.ref w)) :
    MetFree l (⟨"com/example/interleave/interleave/check/Expansion", "fresh", "()Ljava/util/List;"⟩ : MethodName) (head1 (Jvm.Cond.code (⟨"com/example/interleave/interleave/check/Expansion", "fresh", "()Ljava/util/List;"⟩ : MethodName) prog_13_method_22_code 1 (some (.object "java/util/List")) :: ws) ({ frames := 0, cells := 0, slots := 0, locals := 0 } : Room)) (fun a U => a = #[(.ref a1)] ∧ Z.Warmed39 U.vm ∧ U.heap = h0) (fun _ _ _ _ _ => True) (fun _ U o U' => ∃ v L, o = .returned v ∧ own_Q_gfR Z a1 w h0 n0 v U'.heap L ∧ FrameEnd U o U' L ({ frames := 0, cells := 0, slots := 0, locals := 0 } : Room).cells ({ frames := 0, cells := 0, slots := 0, locals := 0 } : Room).slots) := by
  refine MetFree.of_bodySF (plainFor_of_name own_pn3) hisR ?_
  intro p e s m args below meth c s₁ Bd hml0 hP hK
  obtain ⟨rfl, hZ, hh⟩ := hP
  have hx := Bd.exec
  have hby := Bd.bytes
  have hml : c.maxLocals = 1 := hml0
  have hown : s.vm.findClass "com/example/interleave/interleave/check/Expansion" = some m.cls := findClass_of_methodNamed Bd.named
  have hnm := (name_of_methodNamed Bd.named Bd.method).1
  have X0 : Stand p l e ({ frames := 0, cells := 0, slots := 0, locals := 0 } : Room) s m #[(.ref a1)] below meth c s₁ [] 0 0 := Stand.of_body Bd
  have e0 : s₁.heap = h0 := by rw [← hh, Bd.state]; rfl
  have N0 := Fr.nil n0
  have K0 : Keep h0 h0 [] := Keep.refl _ _
  have pre0 : ∀ t, Steps p.tables e below (s₁.setTop (mkF m 0 #[.val (.ref a1)] [])) t → Steps p.tables e below (s₁.setTop (entryFrame m #[(.ref a1)] 1)) t := fun t k => castTop (own_ef_gfR m a1) k
  obtain ⟨T1, X1, e1, st1⟩ := getF X0 hx hZ hown (host := "") (Or.inl (hw _ (List.mem_of_getElem? (i := 51) rfl))) Via.refl e0 F0 (g := (mkF m 1 #[.val (.ref a1)] [(.ref a1)])) rfl rfl (hb hby own_d_prog_13_method_22_1)
  have pre2 : ∀ t, Steps p.tables e below (T1.setTop (mkF m 4 #[.val (.ref a1)] [(.ref w)])) t → Steps p.tables e below (s₁.setTop (entryFrame m #[(.ref a1)] 1)) t := by
    intro t kt
    refine pre0 t ?_
    show Steps p.tables e below (s₁.setTop (mkF m 0 #[.val (.ref a1)] [])) _
    refine XS.aloadN X0.here hx rfl (hb hby own_d_prog_13_method_22_0) rfl rfl ?_
    show Steps p.tables e below (s₁.setTop (mkF m 1 #[.val (.ref a1)] [(.ref a1)])) _
    refine st1 _ ?_
    exact kt
  obtain ⟨fs, hr, hrun, hended, hW, hsame⟩ := X1.leave (v := some (.ref w)) (fun h => by rw [Bd.returns] at h; cases h)
  refine ⟨_, _, pre2 _ ?_, hrun, hended, _, _, rfl, ?_, ⟨_, rfl⟩, hW, hsame.mono (by decide) (by decide)⟩
  · show Steps p.tables e below (T1.setTop (mkF m 4 #[.val (.ref a1)] [(.ref w)])) _
    jvm_step X1.here [X1.here.top, hx, (hb hby own_d_prog_13_method_22_4), X1.method', Bd.returns, Value.isRef, FieldType.isReference]
    first | (intro acts; rw [hr _ acts rfl rfl rfl]) | rw [hr _ _ rfl rfl rfl]
    exact Steps.refl _
  · show own_Q_gfR Z a1 w h0 n0 (some (.ref w)) T1.heap _
    rw [e1]
    exact ⟨rfl, N0, rfl⟩
theorem own_d_prog_13_method_23_0 : decode prog_13_method_23_code 0 = .ok (.aload_n 0, 1) := by decide +kernel
theorem own_d_prog_13_method_23_1 : decode prog_13_method_23_code 1 = .ok (.getfield 67, 3) := by decide +kernel
theorem own_d_prog_13_method_23_4 : decode prog_13_method_23_code 4 = .ok (.lreturn, 1) := by decide +kernel
theorem own_ef_ggn (m : MethodId) (a1 : Addr) : entryFrame m #[(.ref a1)] 1 = mkF m 0 #[.val (.ref a1)] [] := by first | (simp [entryFrame, mkF, argsToLocals, Value.category]; done) | rfl
def own_Q_ggn (Z : State) (a1 : Addr) (w : Int64) (h0 : Heap) (n0 : Nat) (v : Option Value) (h : Heap) (L : List Loc) : Prop := v = some (.long w) ∧ Fr n0 L ∧ h = h0
set_option maxRecDepth 65536 in
set_option maxHeartbeats 40000000 in
theorem own_rm_ggn (l : Launch) (Z : State) (a0 : Array Value) (hw : ∀ d ∈ tables_1, d.before a0 Z = true) (ws : List Jvm.Cond) (a1 : Addr) (w : Int64) (h0 : Heap) (n0 : Nat) (Z0 : n0 ≤ h0.size) (F0 : Fld Z h0 a1 "com/example/interleave/interleave/check/Expansion" "generated" "J" (.long w)) :
    MetFree l (⟨"com/example/interleave/interleave/check/Expansion", "generated", "()J"⟩ : MethodName) (head1 (Jvm.Cond.code (⟨"com/example/interleave/interleave/check/Expansion", "generated", "()J"⟩ : MethodName) prog_13_method_23_code 1 (some .long) :: ws) ({ frames := 0, cells := 0, slots := 0, locals := 0 } : Room)) (fun a U => a = #[(.ref a1)] ∧ Z.Warmed39 U.vm ∧ U.heap = h0) (fun _ _ _ _ _ => True) (fun _ U o U' => ∃ v L, o = .returned v ∧ own_Q_ggn Z a1 w h0 n0 v U'.heap L ∧ FrameEnd U o U' L ({ frames := 0, cells := 0, slots := 0, locals := 0 } : Room).cells ({ frames := 0, cells := 0, slots := 0, locals := 0 } : Room).slots) := by
  refine MetFree.of_bodySF (plainFor_of_name own_pn3) hisR ?_
  intro p e s m args below meth c s₁ Bd hml0 hP hK
  obtain ⟨rfl, hZ, hh⟩ := hP
  have hx := Bd.exec
  have hby := Bd.bytes
  have hml : c.maxLocals = 1 := hml0
  have hown : s.vm.findClass "com/example/interleave/interleave/check/Expansion" = some m.cls := findClass_of_methodNamed Bd.named
  have hnm := (name_of_methodNamed Bd.named Bd.method).1
  have X0 : Stand p l e ({ frames := 0, cells := 0, slots := 0, locals := 0 } : Room) s m #[(.ref a1)] below meth c s₁ [] 0 0 := Stand.of_body Bd
  have e0 : s₁.heap = h0 := by rw [← hh, Bd.state]; rfl
  have N0 := Fr.nil n0
  have K0 : Keep h0 h0 [] := Keep.refl _ _
  have pre0 : ∀ t, Steps p.tables e below (s₁.setTop (mkF m 0 #[.val (.ref a1)] [])) t → Steps p.tables e below (s₁.setTop (entryFrame m #[(.ref a1)] 1)) t := fun t k => castTop (own_ef_ggn m a1) k
  obtain ⟨T1, X1, e1, st1⟩ := getF X0 hx hZ hown (host := "") (Or.inl (hw _ (List.mem_of_getElem? (i := 53) rfl))) Via.refl e0 F0 (g := (mkF m 1 #[.val (.ref a1)] [(.ref a1)])) rfl rfl (hb hby own_d_prog_13_method_23_1)
  have pre2 : ∀ t, Steps p.tables e below (T1.setTop (mkF m 4 #[.val (.ref a1)] [(.long w)])) t → Steps p.tables e below (s₁.setTop (entryFrame m #[(.ref a1)] 1)) t := by
    intro t kt
    refine pre0 t ?_
    show Steps p.tables e below (s₁.setTop (mkF m 0 #[.val (.ref a1)] [])) _
    refine XS.aloadN X0.here hx rfl (hb hby own_d_prog_13_method_23_0) rfl rfl ?_
    show Steps p.tables e below (s₁.setTop (mkF m 1 #[.val (.ref a1)] [(.ref a1)])) _
    refine st1 _ ?_
    exact kt
  obtain ⟨fs, hr, hrun, hended, hW, hsame⟩ := X1.leave (v := some (.long w)) (fun h => by rw [Bd.returns] at h; cases h)
  refine ⟨_, _, pre2 _ ?_, hrun, hended, _, _, rfl, ?_, ⟨_, rfl⟩, hW, hsame.mono (by decide) (by decide)⟩
  · show Steps p.tables e below (T1.setTop (mkF m 4 #[.val (.ref a1)] [(.long w)])) _
    jvm_step X1.here [X1.here.top, hx, (hb hby own_d_prog_13_method_23_4), X1.method', Bd.returns, narrow]
    first | (intro acts; rw [hr _ acts rfl rfl rfl]) | rw [hr _ _ rfl rfl rfl]
    exact Steps.refl _
  · show own_Q_ggn Z a1 w h0 n0 (some (.long w)) T1.heap _
    rw [e1]
    exact ⟨rfl, N0, rfl⟩
theorem own_d_prog_13_method_24_0 : decode prog_13_method_24_code 0 = .ok (.aload_n 0, 1) := by decide +kernel
theorem own_d_prog_13_method_24_1 : decode prog_13_method_24_code 1 = .ok (.getfield 71, 3) := by decide +kernel
theorem own_d_prog_13_method_24_4 : decode prog_13_method_24_code 4 = .ok (.lreturn, 1) := by decide +kernel
theorem own_ef_gdi (m : MethodId) (a1 : Addr) : entryFrame m #[(.ref a1)] 1 = mkF m 0 #[.val (.ref a1)] [] := by first | (simp [entryFrame, mkF, argsToLocals, Value.category]; done) | rfl
def own_Q_gdi (Z : State) (a1 : Addr) (w : Int64) (h0 : Heap) (n0 : Nat) (v : Option Value) (h : Heap) (L : List Loc) : Prop := v = some (.long w) ∧ Fr n0 L ∧ h = h0
set_option maxRecDepth 65536 in
set_option maxHeartbeats 40000000 in
theorem own_rm_gdi (l : Launch) (Z : State) (a0 : Array Value) (hw : ∀ d ∈ tables_1, d.before a0 Z = true) (ws : List Jvm.Cond) (a1 : Addr) (w : Int64) (h0 : Heap) (n0 : Nat) (Z0 : n0 ≤ h0.size) (F0 : Fld Z h0 a1 "com/example/interleave/interleave/check/Expansion" "distinct" "J" (.long w)) :
    MetFree l (⟨"com/example/interleave/interleave/check/Expansion", "distinct", "()J"⟩ : MethodName) (head1 (Jvm.Cond.code (⟨"com/example/interleave/interleave/check/Expansion", "distinct", "()J"⟩ : MethodName) prog_13_method_24_code 1 (some .long) :: ws) ({ frames := 0, cells := 0, slots := 0, locals := 0 } : Room)) (fun a U => a = #[(.ref a1)] ∧ Z.Warmed39 U.vm ∧ U.heap = h0) (fun _ _ _ _ _ => True) (fun _ U o U' => ∃ v L, o = .returned v ∧ own_Q_gdi Z a1 w h0 n0 v U'.heap L ∧ FrameEnd U o U' L ({ frames := 0, cells := 0, slots := 0, locals := 0 } : Room).cells ({ frames := 0, cells := 0, slots := 0, locals := 0 } : Room).slots) := by
  refine MetFree.of_bodySF (plainFor_of_name own_pn3) hisR ?_
  intro p e s m args below meth c s₁ Bd hml0 hP hK
  obtain ⟨rfl, hZ, hh⟩ := hP
  have hx := Bd.exec
  have hby := Bd.bytes
  have hml : c.maxLocals = 1 := hml0
  have hown : s.vm.findClass "com/example/interleave/interleave/check/Expansion" = some m.cls := findClass_of_methodNamed Bd.named
  have hnm := (name_of_methodNamed Bd.named Bd.method).1
  have X0 : Stand p l e ({ frames := 0, cells := 0, slots := 0, locals := 0 } : Room) s m #[(.ref a1)] below meth c s₁ [] 0 0 := Stand.of_body Bd
  have e0 : s₁.heap = h0 := by rw [← hh, Bd.state]; rfl
  have N0 := Fr.nil n0
  have K0 : Keep h0 h0 [] := Keep.refl _ _
  have pre0 : ∀ t, Steps p.tables e below (s₁.setTop (mkF m 0 #[.val (.ref a1)] [])) t → Steps p.tables e below (s₁.setTop (entryFrame m #[(.ref a1)] 1)) t := fun t k => castTop (own_ef_gdi m a1) k
  obtain ⟨T1, X1, e1, st1⟩ := getF X0 hx hZ hown (host := "") (Or.inl (hw _ (List.mem_of_getElem? (i := 55) rfl))) Via.refl e0 F0 (g := (mkF m 1 #[.val (.ref a1)] [(.ref a1)])) rfl rfl (hb hby own_d_prog_13_method_24_1)
  have pre2 : ∀ t, Steps p.tables e below (T1.setTop (mkF m 4 #[.val (.ref a1)] [(.long w)])) t → Steps p.tables e below (s₁.setTop (entryFrame m #[(.ref a1)] 1)) t := by
    intro t kt
    refine pre0 t ?_
    show Steps p.tables e below (s₁.setTop (mkF m 0 #[.val (.ref a1)] [])) _
    refine XS.aloadN X0.here hx rfl (hb hby own_d_prog_13_method_24_0) rfl rfl ?_
    show Steps p.tables e below (s₁.setTop (mkF m 1 #[.val (.ref a1)] [(.ref a1)])) _
    refine st1 _ ?_
    exact kt
  obtain ⟨fs, hr, hrun, hended, hW, hsame⟩ := X1.leave (v := some (.long w)) (fun h => by rw [Bd.returns] at h; cases h)
  refine ⟨_, _, pre2 _ ?_, hrun, hended, _, _, rfl, ?_, ⟨_, rfl⟩, hW, hsame.mono (by decide) (by decide)⟩
  · show Steps p.tables e below (T1.setTop (mkF m 4 #[.val (.ref a1)] [(.long w)])) _
    jvm_step X1.here [X1.here.top, hx, (hb hby own_d_prog_13_method_24_4), X1.method', Bd.returns, narrow]
    first | (intro acts; rw [hr _ acts rfl rfl rfl]) | rw [hr _ _ rfl rfl rfl]
    exact Steps.refl _
  · show own_Q_gdi Z a1 w h0 n0 (some (.long w)) T1.heap _
    rw [e1]
    exact ⟨rfl, N0, rfl⟩
theorem own_d_prog_13_method_25_0 : decode prog_13_method_25_code 0 = .ok (.aload_n 0, 1) := by decide +kernel
theorem own_d_prog_13_method_25_1 : decode prog_13_method_25_code 1 = .ok (.getfield 74, 3) := by decide +kernel
theorem own_d_prog_13_method_25_4 : decode prog_13_method_25_code 4 = .ok (.ireturn, 1) := by decide +kernel
theorem own_ef_gde (m : MethodId) (a1 : Addr) : entryFrame m #[(.ref a1)] 1 = mkF m 0 #[.val (.ref a1)] [] := by first | (simp [entryFrame, mkF, argsToLocals, Value.category]; done) | rfl
def own_Q_gde (Z : State) (a1 : Addr) (w : Int32) (h0 : Heap) (n0 : Nat) (v : Option Value) (h : Heap) (L : List Loc) : Prop := v = some (.int w) ∧ Fr n0 L ∧ h = h0
set_option maxRecDepth 65536 in
set_option maxHeartbeats 40000000 in
theorem own_rm_gde (l : Launch) (Z : State) (a0 : Array Value) (hw : ∀ d ∈ tables_1, d.before a0 Z = true) (ws : List Jvm.Cond) (a1 : Addr) (w : Int32) (h0 : Heap) (n0 : Nat) (Z0 : n0 ≤ h0.size) (F0 : Fld Z h0 a1 "com/example/interleave/interleave/check/Expansion" "depth" "I" (.int w)) :
    MetFree l (⟨"com/example/interleave/interleave/check/Expansion", "depth", "()I"⟩ : MethodName) (head1 (Jvm.Cond.code (⟨"com/example/interleave/interleave/check/Expansion", "depth", "()I"⟩ : MethodName) prog_13_method_25_code 1 (some .int) :: ws) ({ frames := 0, cells := 0, slots := 0, locals := 0 } : Room)) (fun a U => a = #[(.ref a1)] ∧ Z.Warmed39 U.vm ∧ U.heap = h0) (fun _ _ _ _ _ => True) (fun _ U o U' => ∃ v L, o = .returned v ∧ own_Q_gde Z a1 w h0 n0 v U'.heap L ∧ FrameEnd U o U' L ({ frames := 0, cells := 0, slots := 0, locals := 0 } : Room).cells ({ frames := 0, cells := 0, slots := 0, locals := 0 } : Room).slots) := by
  refine MetFree.of_bodySF (plainFor_of_name own_pn3) hisR ?_
  intro p e s m args below meth c s₁ Bd hml0 hP hK
  obtain ⟨rfl, hZ, hh⟩ := hP
  have hx := Bd.exec
  have hby := Bd.bytes
  have hml : c.maxLocals = 1 := hml0
  have hown : s.vm.findClass "com/example/interleave/interleave/check/Expansion" = some m.cls := findClass_of_methodNamed Bd.named
  have hnm := (name_of_methodNamed Bd.named Bd.method).1
  have X0 : Stand p l e ({ frames := 0, cells := 0, slots := 0, locals := 0 } : Room) s m #[(.ref a1)] below meth c s₁ [] 0 0 := Stand.of_body Bd
  have e0 : s₁.heap = h0 := by rw [← hh, Bd.state]; rfl
  have N0 := Fr.nil n0
  have K0 : Keep h0 h0 [] := Keep.refl _ _
  have pre0 : ∀ t, Steps p.tables e below (s₁.setTop (mkF m 0 #[.val (.ref a1)] [])) t → Steps p.tables e below (s₁.setTop (entryFrame m #[(.ref a1)] 1)) t := fun t k => castTop (own_ef_gde m a1) k
  obtain ⟨T1, X1, e1, st1⟩ := getF X0 hx hZ hown (host := "") (Or.inl (hw _ (List.mem_of_getElem? (i := 57) rfl))) Via.refl e0 F0 (g := (mkF m 1 #[.val (.ref a1)] [(.ref a1)])) rfl rfl (hb hby own_d_prog_13_method_25_1)
  have pre2 : ∀ t, Steps p.tables e below (T1.setTop (mkF m 4 #[.val (.ref a1)] [(.int w)])) t → Steps p.tables e below (s₁.setTop (entryFrame m #[(.ref a1)] 1)) t := by
    intro t kt
    refine pre0 t ?_
    show Steps p.tables e below (s₁.setTop (mkF m 0 #[.val (.ref a1)] [])) _
    refine XS.aloadN X0.here hx rfl (hb hby own_d_prog_13_method_25_0) rfl rfl ?_
    show Steps p.tables e below (s₁.setTop (mkF m 1 #[.val (.ref a1)] [(.ref a1)])) _
    refine st1 _ ?_
    exact kt
  obtain ⟨fs, hr, hrun, hended, hW, hsame⟩ := X1.leave (v := some (.int w)) (fun h => by rw [Bd.returns] at h; cases h)
  refine ⟨_, _, pre2 _ ?_, hrun, hended, _, _, rfl, ?_, ⟨_, rfl⟩, hW, hsame.mono (by decide) (by decide)⟩
  · show Steps p.tables e below (T1.setTop (mkF m 4 #[.val (.ref a1)] [(.int w)])) _
    exact retI X1 hx Bd.returns (hb hby own_d_prog_13_method_25_4) hr
  · show own_Q_gde Z a1 w h0 n0 (some (.int w)) T1.heap _
    rw [e1]
    exact ⟨rfl, N0, rfl⟩
theorem own_d_prog_13_method_4_0 : decode prog_13_method_4_code 0 = .ok (.aload_n 0, 1) := by decide +kernel
theorem own_d_prog_13_method_4_1 : decode prog_13_method_4_code 1 = .ok (.getfield 19, 3) := by decide +kernel
theorem own_d_prog_13_method_4_4 : decode prog_13_method_4_code 4 = .ok (.ireturn, 1) := by decide +kernel
theorem own_ef_gsi (m : MethodId) (a1 : Addr) : entryFrame m #[(.ref a1)] 1 = mkF m 0 #[.val (.ref a1)] [] := by first | (simp [entryFrame, mkF, argsToLocals, Value.category]; done) | rfl
def own_Q_gsi (Z : State) (a1 : Addr) (w : Int32) (h0 : Heap) (n0 : Nat) (v : Option Value) (h : Heap) (L : List Loc) : Prop := v = some (.int w) ∧ Fr n0 L ∧ h = h0
set_option maxRecDepth 65536 in
set_option maxHeartbeats 40000000 in
theorem own_rm_gsi (l : Launch) (Z : State) (a0 : Array Value) (hw : ∀ d ∈ tables_1, d.before a0 Z = true) (ws : List Jvm.Cond) (a1 : Addr) (w : Int32) (h0 : Heap) (n0 : Nat) (Z0 : n0 ≤ h0.size) (F0 : Fld Z h0 a1 "com/example/interleave/interleave/check/Expansion" "sourceId" "I" (.int w)) :
    MetFree l (⟨"com/example/interleave/interleave/check/Expansion", "sourceId", "()I"⟩ : MethodName) (head1 (Jvm.Cond.code (⟨"com/example/interleave/interleave/check/Expansion", "sourceId", "()I"⟩ : MethodName) prog_13_method_4_code 1 (some .int) :: ws) ({ frames := 0, cells := 0, slots := 0, locals := 0 } : Room)) (fun a U => a = #[(.ref a1)] ∧ Z.Warmed39 U.vm ∧ U.heap = h0) (fun _ _ _ _ _ => True) (fun _ U o U' => ∃ v L, o = .returned v ∧ own_Q_gsi Z a1 w h0 n0 v U'.heap L ∧ FrameEnd U o U' L ({ frames := 0, cells := 0, slots := 0, locals := 0 } : Room).cells ({ frames := 0, cells := 0, slots := 0, locals := 0 } : Room).slots) := by
  refine MetFree.of_bodySF (plainFor_of_name own_pn3) hisR ?_
  intro p e s m args below meth c s₁ Bd hml0 hP hK
  obtain ⟨rfl, hZ, hh⟩ := hP
  have hx := Bd.exec
  have hby := Bd.bytes
  have hml : c.maxLocals = 1 := hml0
  have hown : s.vm.findClass "com/example/interleave/interleave/check/Expansion" = some m.cls := findClass_of_methodNamed Bd.named
  have hnm := (name_of_methodNamed Bd.named Bd.method).1
  have X0 : Stand p l e ({ frames := 0, cells := 0, slots := 0, locals := 0 } : Room) s m #[(.ref a1)] below meth c s₁ [] 0 0 := Stand.of_body Bd
  have e0 : s₁.heap = h0 := by rw [← hh, Bd.state]; rfl
  have N0 := Fr.nil n0
  have K0 : Keep h0 h0 [] := Keep.refl _ _
  have pre0 : ∀ t, Steps p.tables e below (s₁.setTop (mkF m 0 #[.val (.ref a1)] [])) t → Steps p.tables e below (s₁.setTop (entryFrame m #[(.ref a1)] 1)) t := fun t k => castTop (own_ef_gsi m a1) k
  obtain ⟨T1, X1, e1, st1⟩ := getF X0 hx hZ hown (host := "") (Or.inl (hw _ (List.mem_of_getElem? (i := 38) rfl))) Via.refl e0 F0 (g := (mkF m 1 #[.val (.ref a1)] [(.ref a1)])) rfl rfl (hb hby own_d_prog_13_method_4_1)
  have pre2 : ∀ t, Steps p.tables e below (T1.setTop (mkF m 4 #[.val (.ref a1)] [(.int w)])) t → Steps p.tables e below (s₁.setTop (entryFrame m #[(.ref a1)] 1)) t := by
    intro t kt
    refine pre0 t ?_
    show Steps p.tables e below (s₁.setTop (mkF m 0 #[.val (.ref a1)] [])) _
    refine XS.aloadN X0.here hx rfl (hb hby own_d_prog_13_method_4_0) rfl rfl ?_
    show Steps p.tables e below (s₁.setTop (mkF m 1 #[.val (.ref a1)] [(.ref a1)])) _
    refine st1 _ ?_
    exact kt
  obtain ⟨fs, hr, hrun, hended, hW, hsame⟩ := X1.leave (v := some (.int w)) (fun h => by rw [Bd.returns] at h; cases h)
  refine ⟨_, _, pre2 _ ?_, hrun, hended, _, _, rfl, ?_, ⟨_, rfl⟩, hW, hsame.mono (by decide) (by decide)⟩
  · show Steps p.tables e below (T1.setTop (mkF m 4 #[.val (.ref a1)] [(.int w)])) _
    exact retI X1 hx Bd.returns (hb hby own_d_prog_13_method_4_4) hr
  · show own_Q_gsi Z a1 w h0 n0 (some (.int w)) T1.heap _
    rw [e1]
    exact ⟨rfl, N0, rfl⟩
theorem own_d_prog_13_method_5_0 : decode prog_13_method_5_code 0 = .ok (.aload_n 0, 1) := by decide +kernel
theorem own_d_prog_13_method_5_1 : decode prog_13_method_5_code 1 = .ok (.getfield 23, 3) := by decide +kernel
theorem own_d_prog_13_method_5_4 : decode prog_13_method_5_code 4 = .ok (.ireturn, 1) := by decide +kernel
theorem own_ef_gsp (m : MethodId) (a1 : Addr) : entryFrame m #[(.ref a1)] 1 = mkF m 0 #[.val (.ref a1)] [] := by first | (simp [entryFrame, mkF, argsToLocals, Value.category]; done) | rfl
def own_Q_gsp (Z : State) (a1 : Addr) (w : Int32) (h0 : Heap) (n0 : Nat) (v : Option Value) (h : Heap) (L : List Loc) : Prop := v = some (.int w) ∧ Fr n0 L ∧ h = h0
set_option maxRecDepth 65536 in
set_option maxHeartbeats 40000000 in
theorem own_rm_gsp (l : Launch) (Z : State) (a0 : Array Value) (hw : ∀ d ∈ tables_1, d.before a0 Z = true) (ws : List Jvm.Cond) (a1 : Addr) (w : Int32) (h0 : Heap) (n0 : Nat) (Z0 : n0 ≤ h0.size) (F0 : Fld Z h0 a1 "com/example/interleave/interleave/check/Expansion" "sourceParent" "I" (.int w)) :
    MetFree l (⟨"com/example/interleave/interleave/check/Expansion", "sourceParent", "()I"⟩ : MethodName) (head1 (Jvm.Cond.code (⟨"com/example/interleave/interleave/check/Expansion", "sourceParent", "()I"⟩ : MethodName) prog_13_method_5_code 1 (some .int) :: ws) ({ frames := 0, cells := 0, slots := 0, locals := 0 } : Room)) (fun a U => a = #[(.ref a1)] ∧ Z.Warmed39 U.vm ∧ U.heap = h0) (fun _ _ _ _ _ => True) (fun _ U o U' => ∃ v L, o = .returned v ∧ own_Q_gsp Z a1 w h0 n0 v U'.heap L ∧ FrameEnd U o U' L ({ frames := 0, cells := 0, slots := 0, locals := 0 } : Room).cells ({ frames := 0, cells := 0, slots := 0, locals := 0 } : Room).slots) := by
  refine MetFree.of_bodySF (plainFor_of_name own_pn3) hisR ?_
  intro p e s m args below meth c s₁ Bd hml0 hP hK
  obtain ⟨rfl, hZ, hh⟩ := hP
  have hx := Bd.exec
  have hby := Bd.bytes
  have hml : c.maxLocals = 1 := hml0
  have hown : s.vm.findClass "com/example/interleave/interleave/check/Expansion" = some m.cls := findClass_of_methodNamed Bd.named
  have hnm := (name_of_methodNamed Bd.named Bd.method).1
  have X0 : Stand p l e ({ frames := 0, cells := 0, slots := 0, locals := 0 } : Room) s m #[(.ref a1)] below meth c s₁ [] 0 0 := Stand.of_body Bd
  have e0 : s₁.heap = h0 := by rw [← hh, Bd.state]; rfl
  have N0 := Fr.nil n0
  have K0 : Keep h0 h0 [] := Keep.refl _ _
  have pre0 : ∀ t, Steps p.tables e below (s₁.setTop (mkF m 0 #[.val (.ref a1)] [])) t → Steps p.tables e below (s₁.setTop (entryFrame m #[(.ref a1)] 1)) t := fun t k => castTop (own_ef_gsp m a1) k
  obtain ⟨T1, X1, e1, st1⟩ := getF X0 hx hZ hown (host := "") (Or.inl (hw _ (List.mem_of_getElem? (i := 40) rfl))) Via.refl e0 F0 (g := (mkF m 1 #[.val (.ref a1)] [(.ref a1)])) rfl rfl (hb hby own_d_prog_13_method_5_1)
  have pre2 : ∀ t, Steps p.tables e below (T1.setTop (mkF m 4 #[.val (.ref a1)] [(.int w)])) t → Steps p.tables e below (s₁.setTop (entryFrame m #[(.ref a1)] 1)) t := by
    intro t kt
    refine pre0 t ?_
    show Steps p.tables e below (s₁.setTop (mkF m 0 #[.val (.ref a1)] [])) _
    refine XS.aloadN X0.here hx rfl (hb hby own_d_prog_13_method_5_0) rfl rfl ?_
    show Steps p.tables e below (s₁.setTop (mkF m 1 #[.val (.ref a1)] [(.ref a1)])) _
    refine st1 _ ?_
    exact kt
  obtain ⟨fs, hr, hrun, hended, hW, hsame⟩ := X1.leave (v := some (.int w)) (fun h => by rw [Bd.returns] at h; cases h)
  refine ⟨_, _, pre2 _ ?_, hrun, hended, _, _, rfl, ?_, ⟨_, rfl⟩, hW, hsame.mono (by decide) (by decide)⟩
  · show Steps p.tables e below (T1.setTop (mkF m 4 #[.val (.ref a1)] [(.int w)])) _
    exact retI X1 hx Bd.returns (hb hby own_d_prog_13_method_5_4) hr
  · show own_Q_gsp Z a1 w h0 n0 (some (.int w)) T1.heap _
    rw [e1]
    exact ⟨rfl, N0, rfl⟩
theorem own_d_prog_13_method_6_0 : decode prog_13_method_6_code 0 = .ok (.aload_n 0, 1) := by decide +kernel
theorem own_d_prog_13_method_6_1 : decode prog_13_method_6_code 1 = .ok (.getfield 26, 3) := by decide +kernel
theorem own_d_prog_13_method_6_4 : decode prog_13_method_6_code 4 = .ok (.areturn, 1) := by decide +kernel
theorem own_ef_gsb (m : MethodId) (a1 : Addr) : entryFrame m #[(.ref a1)] 1 = mkF m 0 #[.val (.ref a1)] [] := by first | (simp [entryFrame, mkF, argsToLocals, Value.category]; done) | rfl
def own_Q_gsb (Z : State) (a1 : Addr) (w : Addr) (h0 : Heap) (n0 : Nat) (v : Option Value) (h : Heap) (L : List Loc) : Prop := v = some (.ref w) ∧ Fr n0 L ∧ h = h0
set_option maxRecDepth 65536 in
set_option maxHeartbeats 40000000 in
theorem own_rm_gsb (l : Launch) (Z : State) (a0 : Array Value) (hw : ∀ d ∈ tables_1, d.before a0 Z = true) (ws : List Jvm.Cond) (a1 : Addr) (w : Addr) (h0 : Heap) (n0 : Nat) (Z0 : n0 ≤ h0.size) (F0 : Fld Z h0 a1 "com/example/interleave/interleave/check/Expansion" "sourceBytes" "[B" (.ref w)) :
    MetFree l (⟨"com/example/interleave/interleave/check/Expansion", "sourceBytes", "()[B"⟩ : MethodName) (head1 (Jvm.Cond.code (⟨"com/example/interleave/interleave/check/Expansion", "sourceBytes", "()[B"⟩ : MethodName) prog_13_method_6_code 1 (some (.array .byte)) :: ws) ({ frames := 0, cells := 0, slots := 0, locals := 0 } : Room)) (fun a U => a = #[(.ref a1)] ∧ Z.Warmed39 U.vm ∧ U.heap = h0) (fun _ _ _ _ _ => True) (fun _ U o U' => ∃ v L, o = .returned v ∧ own_Q_gsb Z a1 w h0 n0 v U'.heap L ∧ FrameEnd U o U' L ({ frames := 0, cells := 0, slots := 0, locals := 0 } : Room).cells ({ frames := 0, cells := 0, slots := 0, locals := 0 } : Room).slots) := by
  refine MetFree.of_bodySF (plainFor_of_name own_pn3) hisR ?_
  intro p e s m args below meth c s₁ Bd hml0 hP hK
  obtain ⟨rfl, hZ, hh⟩ := hP
  have hx := Bd.exec
  have hby := Bd.bytes
  have hml : c.maxLocals = 1 := hml0
  have hown : s.vm.findClass "com/example/interleave/interleave/check/Expansion" = some m.cls := findClass_of_methodNamed Bd.named
  have hnm := (name_of_methodNamed Bd.named Bd.method).1
  have X0 : Stand p l e ({ frames := 0, cells := 0, slots := 0, locals := 0 } : Room) s m #[(.ref a1)] below meth c s₁ [] 0 0 := Stand.of_body Bd
  have e0 : s₁.heap = h0 := by rw [← hh, Bd.state]; rfl
  have N0 := Fr.nil n0
  have K0 : Keep h0 h0 [] := Keep.refl _ _
  have pre0 : ∀ t, Steps p.tables e below (s₁.setTop (mkF m 0 #[.val (.ref a1)] [])) t → Steps p.tables e below (s₁.setTop (entryFrame m #[(.ref a1)] 1)) t := fun t k => castTop (own_ef_gsb m a1) k
  obtain ⟨T1, X1, e1, st1⟩ := getF X0 hx hZ hown (host := "") (Or.inl (hw _ (List.mem_of_getElem? (i := 42) rfl))) Via.refl e0 F0 (g := (mkF m 1 #[.val (.ref a1)] [(.ref a1)])) rfl rfl (hb hby own_d_prog_13_method_6_1)
  have pre2 : ∀ t, Steps p.tables e below (T1.setTop (mkF m 4 #[.val (.ref a1)] [(.ref w)])) t → Steps p.tables e below (s₁.setTop (entryFrame m #[(.ref a1)] 1)) t := by
    intro t kt
    refine pre0 t ?_
    show Steps p.tables e below (s₁.setTop (mkF m 0 #[.val (.ref a1)] [])) _
    refine XS.aloadN X0.here hx rfl (hb hby own_d_prog_13_method_6_0) rfl rfl ?_
    show Steps p.tables e below (s₁.setTop (mkF m 1 #[.val (.ref a1)] [(.ref a1)])) _
    refine st1 _ ?_
    exact kt
  obtain ⟨fs, hr, hrun, hended, hW, hsame⟩ := X1.leave (v := some (.ref w)) (fun h => by rw [Bd.returns] at h; cases h)
  refine ⟨_, _, pre2 _ ?_, hrun, hended, _, _, rfl, ?_, ⟨_, rfl⟩, hW, hsame.mono (by decide) (by decide)⟩
  · show Steps p.tables e below (T1.setTop (mkF m 4 #[.val (.ref a1)] [(.ref w)])) _
    jvm_step X1.here [X1.here.top, hx, (hb hby own_d_prog_13_method_6_4), X1.method', Bd.returns, Value.isRef, FieldType.isReference]
    first | (intro acts; rw [hr _ acts rfl rfl rfl]) | rw [hr _ _ rfl rfl rfl]
    exact Steps.refl _
  · show own_Q_gsb Z a1 w h0 n0 (some (.ref w)) T1.heap _
    rw [e1]
    exact ⟨rfl, N0, rfl⟩
theorem own_pd1 : parseMethodDescriptor "(II[B)V" = some ⟨[.int, .int, (.array .byte)], none⟩ := by decide +kernel
theorem own_pd2 : parseMethodDescriptor "(Ljava/util/List;JJI)V" = some ⟨[(.object "java/util/List"), .long, .long, .int], none⟩ := by decide +kernel
theorem own_pd3 : parseMethodDescriptor "()Ljava/util/List;" = some ⟨[], some (.object "java/util/List")⟩ := by decide +kernel
theorem own_pd4 : parseMethodDescriptor "()J" = some ⟨[], some .long⟩ := by decide +kernel
theorem own_pd5 : parseMethodDescriptor "()I" = some ⟨[], some .int⟩ := by decide +kernel
theorem own_pd6 : parseMethodDescriptor "()[B" = some ⟨[], some (.array .byte)⟩ := by decide +kernel
theorem own_pn4 : plainName "com/example/interleave/interleave/check/ExpansionTookInPinLaw" = true := by first | (simp [plainName, overriddenIn]; done) | decide +kernel
theorem own_ef_law (m : MethodId) (q0 : Int64) (q1 : Int64) (p2 : Int32) (p3 : Int32) (p4 : Int32) (p5 : Int32) : entryFrame m #[(.long q0), (.long q1), (.int p2), (.int p3), (.int p4), (.int p5)] maxLocals = mkF m 0 #[.val (.long q0), .second, .val (.long q1), .second, .val (.int p2), .val (.int p3), .val (.int p4), .val (.int p5), .unset, .unset, .unset, .unset, .unset, .unset, .unset, .unset, .unset, .unset, .unset] [] := by first | (simp [entryFrame, mkF, argsToLocals, Value.category, maxLocals]; done) | rfl
def own_Q_law (Z : State) (q0 : Int64) (q1 : Int64) (p2 : Int32) (p3 : Int32) (p4 : Int32) (p5 : Int32) (aS : Addr) (h0 : Heap) (n0 : Nat) (v : Option Value) (h : Heap) (L : List Loc) : Prop := v = some (.int 1) ∧ Fr n0 L
set_option maxRecDepth 65536 in
set_option maxHeartbeats 40000000 in
theorem own_rm_law (l : Launch) (Z : State) (a0 : Array Value) (hw : ∀ d ∈ tables_1, d.before a0 Z = true) (ws : List Jvm.Cond) (q0 : Int64) (q1 : Int64) (p2 : Int32) (p3 : Int32) (p4 : Int32) (p5 : Int32) (aS : Addr) (h0 : Heap) (n0 : Nat) (Z0 : n0 ≤ h0.size) (S0 : Sta Z h0 "java/util/ArrayList" "DEFAULTCAPACITY_EMPTY_ELEMENTDATA" "[Ljava/lang/Object;" (.ref aS)) :
    MetFree l x (head1 (Jvm.Cond.code x code maxLocals ret :: ws) room_1) (fun a U => a = #[(.long q0), (.long q1), (.int p2), (.int p3), (.int p4), (.int p5)] ∧ Z.Warmed39 U.vm ∧ U.heap = h0) (fun _ _ _ _ _ => True) (fun _ U o U' => ∃ v L, o = .returned v ∧ own_Q_law Z q0 q1 p2 p3 p4 p5 aS h0 n0 v U'.heap L ∧ FrameEnd U o U' L room_1.cells room_1.slots) := by
  refine MetFree.of_bodySF (plainFor_of_name own_pn4) hisR ?_
  intro p e s m args below meth c s₁ Bd hml0 hP hK
  obtain ⟨rfl, hZ, hh⟩ := hP
  have hx := Bd.exec
  have hby := Bd.bytes
  have hml : c.maxLocals = 19 := hml0
  have hown : s.vm.findClass "com/example/interleave/interleave/check/ExpansionTookInPinLaw" = some m.cls := findClass_of_methodNamed Bd.named
  have hnm := (name_of_methodNamed Bd.named Bd.method).1
  have X0 : Stand p l e room_1 s m #[(.long q0), (.long q1), (.int p2), (.int p3), (.int p4), (.int p5)] below meth c s₁ [] 0 0 := Stand.of_body Bd
  have e0 : s₁.heap = h0 := by rw [← hh, Bd.state]; rfl
  have N0 := Fr.nil n0
  have K0 : Keep h0 h0 [] := Keep.refl _ _
  have pre0 : ∀ t, Steps p.tables e below (s₁.setTop (mkF m 0 #[.val (.long q0), .second, .val (.long q1), .second, .val (.int p2), .val (.int p3), .val (.int p4), .val (.int p5), .unset, .unset, .unset, .unset, .unset, .unset, .unset, .unset, .unset, .unset, .unset] [])) t → Steps p.tables e below (s₁.setTop (entryFrame m #[(.long q0), (.long q1), (.int p2), (.int p3), (.int p4), (.int p5)] maxLocals)) t := fun t k => castTop (own_ef_law m q0 q1 p2 p3 p4 p5) k
  obtain ⟨T1, h1, k1, X1, e1, E1, A1, I1, st1⟩ := newPE X0 hx hZ (hw _ (List.mem_of_getElem? (i := 0) rfl)) e0 (g := (mkF m 1 #[.val (.long q0), .second, .val (.long q1), .second, .val (.int p2), .val (.int p3), .val (.int p4), .val (.int p5), .unset, .unset, .unset, .unset, .unset, .unset, .unset, .unset, .unset, .unset, .unset] [(.int (1 : Int32))])) rfl (hb hby at_1) rfl (by decide) (cap := 1) (by decide) (by decide) (by decide) (by decide) (ad := "[B") rfl
  obtain ⟨b1, g1⟩ : ∃ z, z = h0.size := ⟨_, rfl⟩
  rw [← g1] at A1 I1 st1
  have sz_b1 : h0.size ≤ b1 := Nat.le_trans K0.1 (Nat.le_of_eq g1.symm)
  have gn_b1 : n0 ≤ b1 := Nat.le_trans Z0 sz_b1
  have f2 := S0.ext E1
  have k3 := K0.ext E1
  have f4 : own_L Z h1 b1 .byte (1 : Int32) := ⟨_, A1, sz_new _ _ _⟩
  obtain ⟨T5, h5, X5, e5, E5, A5, D5, -, st5⟩ := newO X1 hx hZ hown (hw _ (List.mem_of_getElem? (i := 1) rfl)) (hw _ (List.mem_of_getElem? (i := 2) rfl)) (hw _ (List.mem_of_getElem? (i := 3) rfl)) e1 (g := (mkF m 5 #[.val (.long q0), .second, .val (.long q1), .second, .val (.int p2), .val (.int p3), .val (.int p4), .val (.int p5), .val (.ref b1), .unset, .unset, .unset, .unset, .unset, .unset, .unset, .unset, .unset, .unset] [])) rfl (hb hby at_5) (by decide) (by decide)
  obtain ⟨b5, g5⟩ : ∃ z, z = h1.size := ⟨_, rfl⟩
  rw [← g5] at A5 D5 st5
  have sz_b5 : h0.size ≤ b5 := Nat.le_trans k3.1 (Nat.le_of_eq g5.symm)
  have gn_b5 : n0 ≤ b5 := Nat.le_trans Z0 sz_b5
  have ne_b1_b5 : b1 ≠ b5 := Nat.ne_of_lt (Nat.lt_of_lt_of_le f4.lt (Nat.le_of_eq g5.symm))
  have f6 := f2.ext E5
  have f7 := I1.ext E5
  have f8 := f4.ext E5
  have k9 := k3.ext E5
  have f10 : Fld Z h5 b5 "com/example/interleave/interleave/check/Expansion" "found" "Ljava/util/List;" .null := D5 (Or.inr (hw _ (List.mem_of_getElem? (i := 35) rfl))) (ty := (.object "java/util/List")) (by decide)
  have f11 : Fld Z h5 b5 "com/example/interleave/interleave/check/Expansion" "printed" "Ljava/util/List;" .null := D5 (Or.inr (hw _ (List.mem_of_getElem? (i := 37) rfl))) (ty := (.object "java/util/List")) (by decide)
  have f12 : Fld Z h5 b5 "com/example/interleave/interleave/check/Expansion" "sourceId" "I" (.int (0 : Int32)) := D5 (Or.inr (hw _ (List.mem_of_getElem? (i := 39) rfl))) (ty := .int) (by decide)
  have f13 : Fld Z h5 b5 "com/example/interleave/interleave/check/Expansion" "sourceParent" "I" (.int (0 : Int32)) := D5 (Or.inr (hw _ (List.mem_of_getElem? (i := 41) rfl))) (ty := .int) (by decide)
  have f14 : Fld Z h5 b5 "com/example/interleave/interleave/check/Expansion" "sourceBytes" "[B" .null := D5 (Or.inr (hw _ (List.mem_of_getElem? (i := 43) rfl))) (ty := (.array .byte)) (by decide)
  have f15 : Fld Z h5 b5 "com/example/interleave/interleave/check/Expansion" "fresh" "Ljava/util/List;" .null := D5 (Or.inl (hw _ (List.mem_of_getElem? (i := 52) rfl))) (ty := (.object "java/util/List")) (by decide)
  have f16 : Fld Z h5 b5 "com/example/interleave/interleave/check/Expansion" "generated" "J" (.long (0 : Int64)) := D5 (Or.inl (hw _ (List.mem_of_getElem? (i := 54) rfl))) (ty := .long) (by decide)
  have f17 : Fld Z h5 b5 "com/example/interleave/interleave/check/Expansion" "distinct" "J" (.long (0 : Int64)) := D5 (Or.inl (hw _ (List.mem_of_getElem? (i := 56) rfl))) (ty := .long) (by decide)
  have f18 : Fld Z h5 b5 "com/example/interleave/interleave/check/Expansion" "depth" "I" (.int (0 : Int32)) := D5 (Or.inl (hw _ (List.mem_of_getElem? (i := 58) rfl))) (ty := .int) (by decide)
  have zs19 : n0 ≤ h5.size := Nat.le_trans Z0 k9.1
  obtain ⟨_, _, ⟨T20, L20, k20, n20⟩, -, X20, ⟨Lc20, hQ20, l20, y20, z20⟩, st20⟩ := X5.specialBack hx (y := (⟨"com/example/interleave/interleave/check/Expansion", "<init>", "(II[B)V"⟩ : MethodName)) rfl hown (mvT hZ (hw _ (List.mem_of_getElem? (i := 4) rfl))) (mvT hZ (hw _ (List.mem_of_getElem? (i := 5) rfl))) (mvT hZ (hw _ (List.mem_of_getElem? (i := 6) rfl))) (by decide) (backOf (W := 1) (own_rm_exR l Z a0 hw [] b5 p3 p4 b1 aS h5 n0 zs19 f6 A5 f10 f11 f12 f13 f14 f15 f16 f17 f18 gn_b5) hZ (hw _ (List.mem_of_getElem? (i := 6) rfl)) (hw _ (List.mem_of_getElem? (i := 3) rfl)) (by decide) (by decide)) (g := (mkF m 15 #[.val (.long q0), .second, .val (.long q1), .second, .val (.int p2), .val (.int p3), .val (.int p4), .val (.int p5), .val (.ref b1), .unset, .unset, .unset, .unset, .unset, .unset, .unset, .unset, .unset, .unset] [(.ref b1), (.int p4), (.int p3), (.ref b5), (.ref b5)])) rfl (by rw [hml]; rfl) (Steps.refl _) (a := b5) (argsL := [(.int p3), (.int p4), (.ref b1)]) (rest := [(.ref b5)]) (lenOf own_pd1 rfl) rfl (by show 2 * 0 + _ ≤ _; exact Nat.le_of_eq rfl) (hb hby at_15) (fun _ _ => ⟨rfl, e5, (by decide : 2 + 2 ≤ _), (by decide : 22 + 6 ≤ _)⟩)
  dsimp only [Pt.U, Pt.locs, Pt.cells, Pt.slots] at X20 l20 y20 z20 st20 hQ20
  subst l20 y20 z20
  obtain ⟨rfl, N21, K21, c21_0, c21_1, c21_2, c21_3, c21_4, c21_5, c21_6⟩ := hQ20
  have f22 := own_sta_keep f6 K21 (own_pl_cons A5 all0)
  have f23 := f7.keep K21
  have f24 := f8.keep K21 (ninS ne_b1_b5 nin0)
  have f25 := A5.keep K21
  have k26 := k9.trans K21 (allS (Or.inr sz_b5) all0)
  have nf27 := Fr.app N0 N21
  have pre28 : ∀ t, Steps p.tables e below (T20.setTop (mkF m 24 #[.val (.long q0), .second, .val (.long q1), .second, .val (.int p2), .val (.int p3), .val (.int p4), .val (.int p5), .val (.ref b1), .val (.ref b5), .unset, .unset, .unset, .unset, .unset, .unset, .unset, .unset, .unset] [(.int (p5 &&& (1 : Int32)))])) t → Steps p.tables e below (s₁.setTop (entryFrame m #[(.long q0), (.long q1), (.int p2), (.int p3), (.int p4), (.int p5)] maxLocals)) t := by
    intro t kt
    refine pre0 t ?_
    show Steps p.tables e below (s₁.setTop (mkF m 0 #[.val (.long q0), .second, .val (.long q1), .second, .val (.int p2), .val (.int p3), .val (.int p4), .val (.int p5), .unset, .unset, .unset, .unset, .unset, .unset, .unset, .unset, .unset, .unset, .unset] [])) _
    refine XS.iconst X0.here hx rfl (hb hby at_0) ?_
    show Steps p.tables e below (s₁.setTop (mkF m 1 #[.val (.long q0), .second, .val (.long q1), .second, .val (.int p2), .val (.int p3), .val (.int p4), .val (.int p5), .unset, .unset, .unset, .unset, .unset, .unset, .unset, .unset, .unset, .unset, .unset] [(.int (1 : Int32))])) _
    refine st1 _ ?_
    show Steps p.tables e below (T1.setTop (mkF m 3 #[.val (.long q0), .second, .val (.long q1), .second, .val (.int p2), .val (.int p3), .val (.int p4), .val (.int p5), .unset, .unset, .unset, .unset, .unset, .unset, .unset, .unset, .unset, .unset, .unset] [(.ref b1)])) _
    refine XS.astore X1.here hx rfl (hb hby at_3) rfl rfl (l' := #[.val (.long q0), .second, .val (.long q1), .second, .val (.int p2), .val (.int p3), .val (.int p4), .val (.int p5), .val (.ref b1), .unset, .unset, .unset, .unset, .unset, .unset, .unset, .unset, .unset, .unset]) rfl ?_
    show Steps p.tables e below (T1.setTop (mkF m 5 #[.val (.long q0), .second, .val (.long q1), .second, .val (.int p2), .val (.int p3), .val (.int p4), .val (.int p5), .val (.ref b1), .unset, .unset, .unset, .unset, .unset, .unset, .unset, .unset, .unset, .unset] [])) _
    refine st5 _ ?_
    show Steps p.tables e below (T5.setTop (mkF m 8 #[.val (.long q0), .second, .val (.long q1), .second, .val (.int p2), .val (.int p3), .val (.int p4), .val (.int p5), .val (.ref b1), .unset, .unset, .unset, .unset, .unset, .unset, .unset, .unset, .unset, .unset] [(.ref b5)])) _
    refine XS.dup X5.here hx rfl (hb hby at_8) rfl rfl ?_
    show Steps p.tables e below (T5.setTop (mkF m 9 #[.val (.long q0), .second, .val (.long q1), .second, .val (.int p2), .val (.int p3), .val (.int p4), .val (.int p5), .val (.ref b1), .unset, .unset, .unset, .unset, .unset, .unset, .unset, .unset, .unset, .unset] [(.ref b5), (.ref b5)])) _
    refine XS.iload X5.here hx rfl (hb hby at_9) rfl ?_
    show Steps p.tables e below (T5.setTop (mkF m 11 #[.val (.long q0), .second, .val (.long q1), .second, .val (.int p2), .val (.int p3), .val (.int p4), .val (.int p5), .val (.ref b1), .unset, .unset, .unset, .unset, .unset, .unset, .unset, .unset, .unset, .unset] [(.int p3), (.ref b5), (.ref b5)])) _
    refine XS.iload X5.here hx rfl (hb hby at_11) rfl ?_
    show Steps p.tables e below (T5.setTop (mkF m 13 #[.val (.long q0), .second, .val (.long q1), .second, .val (.int p2), .val (.int p3), .val (.int p4), .val (.int p5), .val (.ref b1), .unset, .unset, .unset, .unset, .unset, .unset, .unset, .unset, .unset, .unset] [(.int p4), (.int p3), (.ref b5), (.ref b5)])) _
    refine XS.aload X5.here hx rfl (hb hby at_13) rfl rfl ?_
    show Steps p.tables e below (T5.setTop (mkF m 15 #[.val (.long q0), .second, .val (.long q1), .second, .val (.int p2), .val (.int p3), .val (.int p4), .val (.int p5), .val (.ref b1), .unset, .unset, .unset, .unset, .unset, .unset, .unset, .unset, .unset, .unset] [(.ref b1), (.int p4), (.int p3), (.ref b5), (.ref b5)])) _
    refine st20.trans ?_
    show Steps p.tables e below (T20.setTop (mkF m 18 #[.val (.long q0), .second, .val (.long q1), .second, .val (.int p2), .val (.int p3), .val (.int p4), .val (.int p5), .val (.ref b1), .unset, .unset, .unset, .unset, .unset, .unset, .unset, .unset, .unset, .unset] [(.ref b5)])) _
    refine XS.astore X20.here hx rfl (hb hby at_18) rfl rfl (l' := #[.val (.long q0), .second, .val (.long q1), .second, .val (.int p2), .val (.int p3), .val (.int p4), .val (.int p5), .val (.ref b1), .val (.ref b5), .unset, .unset, .unset, .unset, .unset, .unset, .unset, .unset, .unset]) rfl ?_
    show Steps p.tables e below (T20.setTop (mkF m 20 #[.val (.long q0), .second, .val (.long q1), .second, .val (.int p2), .val (.int p3), .val (.int p4), .val (.int p5), .val (.ref b1), .val (.ref b5), .unset, .unset, .unset, .unset, .unset, .unset, .unset, .unset, .unset] [])) _
    refine XS.iload X20.here hx rfl (hb hby at_20) rfl ?_
    show Steps p.tables e below (T20.setTop (mkF m 22 #[.val (.long q0), .second, .val (.long q1), .second, .val (.int p2), .val (.int p3), .val (.int p4), .val (.int p5), .val (.ref b1), .val (.ref b5), .unset, .unset, .unset, .unset, .unset, .unset, .unset, .unset, .unset] [(.int p5)])) _
    refine XS.iconst X20.here hx rfl (hb hby at_22) ?_
    show Steps p.tables e below (T20.setTop (mkF m 23 #[.val (.long q0), .second, .val (.long q1), .second, .val (.int p2), .val (.int p3), .val (.int p4), .val (.int p5), .val (.ref b1), .val (.ref b5), .unset, .unset, .unset, .unset, .unset, .unset, .unset, .unset, .unset] [(.int (1 : Int32)), (.int p5)])) _
    refine XS.iand X20.here hx rfl (hb hby at_23) rfl ?_
    exact kt
  by_cases hc29 : (p5 &&& (1 : Int32)) = (0 : Int32)
  · obtain ⟨T30, h30, X30, e30, E30, A30, D30, -, st30⟩ := newO X20 hx hZ hown (hw _ (List.mem_of_getElem? (i := 44) rfl)) (hw _ (List.mem_of_getElem? (i := 11) rfl)) (hw _ (List.mem_of_getElem? (i := 12) rfl)) rfl (g := (mkF m 40 #[.val (.long q0), .second, .val (.long q1), .second, .val (.int p2), .val (.int p3), .val (.int p4), .val (.int p5), .val (.ref b1), .val (.ref b5), .val .null, .unset, .unset, .unset, .unset, .unset, .unset, .unset, .unset] [])) rfl (hb hby at_40) (by decide) (by decide)
    obtain ⟨b30, g30⟩ : ∃ z, z = T20.heap.size := ⟨_, rfl⟩
    rw [← g30] at A30 D30 st30
    have sz_b30 : h0.size ≤ b30 := Nat.le_trans k26.1 (Nat.le_of_eq g30.symm)
    have gn_b30 : n0 ≤ b30 := Nat.le_trans Z0 sz_b30
    have ne_b1_b30 : b1 ≠ b30 := Nat.ne_of_lt (Nat.lt_of_lt_of_le f24.lt (Nat.le_of_eq g30.symm))
    have ne_b5_b30 : b5 ≠ b30 := Nat.ne_of_lt (Nat.lt_of_lt_of_le c21_6.lt (Nat.le_of_eq g30.symm))
    have f31 := f22.ext E30
    have f32 := f23.ext E30
    have f33 := f24.ext E30
    have f34 := f25.ext E30
    have f35 := c21_0.ext E30
    have f36 := c21_1.ext E30
    have f37 := c21_2.ext E30
    have f38 := c21_3.ext E30
    have f39 := c21_4.ext E30
    have f40 := c21_5.ext E30
    have f41 := c21_6.ext E30
    have k42 := k26.ext E30
    have f43 : Fld Z h30 b30 "java/util/AbstractList" "modCount" "I" (.int (0 : Int32)) := D30 (Or.inl (hw _ (List.mem_of_getElem? (i := 30) rfl))) (ty := .int) (by decide)
    have f44 : Fld Z h30 b30 "java/util/ArrayList" "elementData" "[Ljava/lang/Object;" .null := D30 (Or.inl (hw _ (List.mem_of_getElem? (i := 33) rfl))) (ty := (.array (.object "java/lang/Object"))) (by decide)
    have zs45 : n0 ≤ h30.size := Nat.le_trans Z0 k42.1
    obtain ⟨_, _, ⟨T46, L46, k46, n46⟩, -, X46, ⟨Lc46, hQ46, l46, y46, z46⟩, st46⟩ := X30.specialBack hx (y := (⟨"java/util/ArrayList", "<init>", "()V"⟩ : MethodName)) rfl hown (mvT hZ (hw _ (List.mem_of_getElem? (i := 45) rfl))) (mvT hZ (hw _ (List.mem_of_getElem? (i := 14) rfl))) (mvT hZ (hw _ (List.mem_of_getElem? (i := 15) rfl))) (by decide) (backOf (W := 1) (own_rm_al l Z a0 hw [] b30 aS h30 n0 zs45 f31 A30 f43 f44 gn_b30) hZ (hw _ (List.mem_of_getElem? (i := 15) rfl)) (hw _ (List.mem_of_getElem? (i := 12) rfl)) (by decide) (by decide)) (g := (mkF m 44 #[.val (.long q0), .second, .val (.long q1), .second, .val (.int p2), .val (.int p3), .val (.int p4), .val (.int p5), .val (.ref b1), .val (.ref b5), .val .null, .unset, .unset, .unset, .unset, .unset, .unset, .unset, .unset] [(.ref b30), (.ref b30)])) rfl (by rw [hml]; rfl) (Steps.refl _) (a := b30) (argsL := []) (rest := [(.ref b30)]) (lenOf own_pd0 rfl) rfl (by show 2 * 0 + _ ≤ _; exact Nat.le_of_eq rfl) (hb hby at_44) (fun _ _ => ⟨rfl, e30, (by decide : 5 + 0 ≤ _), (by decide : 31 + 0 ≤ _)⟩)
    dsimp only [Pt.U, Pt.locs, Pt.cells, Pt.slots] at X46 l46 y46 z46 st46 hQ46
    subst l46 y46 z46
    obtain ⟨rfl, N47, K47⟩ := hQ46
    have f48 := own_sta_keep f31 K47 (own_pl_cons A30 all0)
    have f49 := f32.keep K47
    have f50 := f33.keep K47 (ninS ne_b1_b30 nin0)
    have f51 := f34.keep K47
    have f52 := f35.keep K47 (ninS ne_b5_b30 nin0)
    have f53 := f36.keep K47 (ninS ne_b5_b30 nin0)
    have f54 := f37.keep K47 (ninS ne_b5_b30 nin0)
    have f55 := f38.keep K47 (ninS ne_b5_b30 nin0)
    have f56 := f39.keep K47 (ninS ne_b5_b30 nin0)
    have f57 := f40.keep K47 (ninS ne_b5_b30 nin0)
    have f58 := f41.keep K47 (ninS ne_b5_b30 nin0)
    have f59 := A30.keep K47
    have k60 := k42.trans K47 (allS (Or.inr sz_b30) all0)
    have nf61 := Fr.app nf27 N47
    have pre62 : ∀ t, Steps p.tables e below (T46.setTop (mkF m 53 #[.val (.long q0), .second, .val (.long q1), .second, .val (.int p2), .val (.int p3), .val (.int p4), .val (.int p5), .val (.ref b1), .val (.ref b5), .val .null, .val (.ref b30), .unset, .unset, .unset, .unset, .unset, .unset, .unset] [(.int (p5 &&& (2 : Int32)))])) t → Steps p.tables e below (s₁.setTop (entryFrame m #[(.long q0), (.long q1), (.int p2), (.int p3), (.int p4), (.int p5)] maxLocals)) t := by
      intro t kt
      refine pre28 t ?_
      show Steps p.tables e below (T20.setTop (mkF m 24 #[.val (.long q0), .second, .val (.long q1), .second, .val (.int p2), .val (.int p3), .val (.int p4), .val (.int p5), .val (.ref b1), .val (.ref b5), .unset, .unset, .unset, .unset, .unset, .unset, .unset, .unset, .unset] [(.int (p5 &&& (1 : Int32)))])) _
      refine XS.ifYes X20.here hx rfl (pc0 := 24) (pc' := 37) rfl (hb hby at_24) rfl ((if0 _ _).trans (teq hc29).1) (by decide) (by decide) ?_
      show Steps p.tables e below (T20.setTop (mkF m 37 #[.val (.long q0), .second, .val (.long q1), .second, .val (.int p2), .val (.int p3), .val (.int p4), .val (.int p5), .val (.ref b1), .val (.ref b5), .unset, .unset, .unset, .unset, .unset, .unset, .unset, .unset, .unset] [])) _
      refine XS.aconstNull X20.here hx rfl (hb hby at_37) ?_
      show Steps p.tables e below (T20.setTop (mkF m 38 #[.val (.long q0), .second, .val (.long q1), .second, .val (.int p2), .val (.int p3), .val (.int p4), .val (.int p5), .val (.ref b1), .val (.ref b5), .unset, .unset, .unset, .unset, .unset, .unset, .unset, .unset, .unset] [.null])) _
      refine XS.astore X20.here hx rfl (hb hby at_38) rfl rfl (l' := #[.val (.long q0), .second, .val (.long q1), .second, .val (.int p2), .val (.int p3), .val (.int p4), .val (.int p5), .val (.ref b1), .val (.ref b5), .val .null, .unset, .unset, .unset, .unset, .unset, .unset, .unset, .unset]) rfl ?_
      show Steps p.tables e below (T20.setTop (mkF m 40 #[.val (.long q0), .second, .val (.long q1), .second, .val (.int p2), .val (.int p3), .val (.int p4), .val (.int p5), .val (.ref b1), .val (.ref b5), .val .null, .unset, .unset, .unset, .unset, .unset, .unset, .unset, .unset] [])) _
      refine st30 _ ?_
      show Steps p.tables e below (T30.setTop (mkF m 43 #[.val (.long q0), .second, .val (.long q1), .second, .val (.int p2), .val (.int p3), .val (.int p4), .val (.int p5), .val (.ref b1), .val (.ref b5), .val .null, .unset, .unset, .unset, .unset, .unset, .unset, .unset, .unset] [(.ref b30)])) _
      refine XS.dup X30.here hx rfl (hb hby at_43) rfl rfl ?_
      show Steps p.tables e below (T30.setTop (mkF m 44 #[.val (.long q0), .second, .val (.long q1), .second, .val (.int p2), .val (.int p3), .val (.int p4), .val (.int p5), .val (.ref b1), .val (.ref b5), .val .null, .unset, .unset, .unset, .unset, .unset, .unset, .unset, .unset] [(.ref b30), (.ref b30)])) _
      refine st46.trans ?_
      show Steps p.tables e below (T46.setTop (mkF m 47 #[.val (.long q0), .second, .val (.long q1), .second, .val (.int p2), .val (.int p3), .val (.int p4), .val (.int p5), .val (.ref b1), .val (.ref b5), .val .null, .unset, .unset, .unset, .unset, .unset, .unset, .unset, .unset] [(.ref b30)])) _
      refine XS.astore X46.here hx rfl (hb hby at_47) rfl rfl (l' := #[.val (.long q0), .second, .val (.long q1), .second, .val (.int p2), .val (.int p3), .val (.int p4), .val (.int p5), .val (.ref b1), .val (.ref b5), .val .null, .val (.ref b30), .unset, .unset, .unset, .unset, .unset, .unset, .unset]) rfl ?_
      show Steps p.tables e below (T46.setTop (mkF m 49 #[.val (.long q0), .second, .val (.long q1), .second, .val (.int p2), .val (.int p3), .val (.int p4), .val (.int p5), .val (.ref b1), .val (.ref b5), .val .null, .val (.ref b30), .unset, .unset, .unset, .unset, .unset, .unset, .unset] [])) _
      refine XS.iload X46.here hx rfl (hb hby at_49) rfl ?_
      show Steps p.tables e below (T46.setTop (mkF m 51 #[.val (.long q0), .second, .val (.long q1), .second, .val (.int p2), .val (.int p3), .val (.int p4), .val (.int p5), .val (.ref b1), .val (.ref b5), .val .null, .val (.ref b30), .unset, .unset, .unset, .unset, .unset, .unset, .unset] [(.int p5)])) _
      refine XS.iconst X46.here hx rfl (hb hby at_51) ?_
      show Steps p.tables e below (T46.setTop (mkF m 52 #[.val (.long q0), .second, .val (.long q1), .second, .val (.int p2), .val (.int p3), .val (.int p4), .val (.int p5), .val (.ref b1), .val (.ref b5), .val .null, .val (.ref b30), .unset, .unset, .unset, .unset, .unset, .unset, .unset] [(.int (2 : Int32)), (.int p5)])) _
      refine XS.iand X46.here hx rfl (hb hby at_52) rfl ?_
      exact kt
    by_cases hc63 : (p5 &&& (2 : Int32)) = (0 : Int32)
    · have zs64 : n0 ≤ T46.heap.size := Nat.le_trans Z0 k60.1
      obtain ⟨cq66, kq66, q66a, q66b, q66c⟩ := isOf hZ rfl f51
      obtain ⟨_, _, ⟨T65, L65, k65, n65⟩, -, X65, ⟨Lc65, hQ65, l65, y65, z65⟩, st65⟩ := X46.virtualBack hx (y := (⟨"com/example/interleave/interleave/check/Expansion", "tookIn", "(Ljava/util/List;JJI)V"⟩ : MethodName)) (z := (⟨"com/example/interleave/interleave/check/Expansion", "tookIn", "(Ljava/util/List;JJI)V"⟩ : MethodName)) hown (mvT hZ (hw _ (List.mem_of_getElem? (i := 46) rfl))) (mvT hZ (hw _ (List.mem_of_getElem? (i := 47) rfl))) (notFace_of_selects (args := #[]) (mvT hZ (hw _ (List.mem_of_getElem? (i := 49) rfl)))) (mvT hZ (hw _ (List.mem_of_getElem? (i := 49) rfl))) (mvT hZ (hw _ (List.mem_of_getElem? (i := 48) rfl))) (by decide) (backOf (W := 0) (own_rm_tkN l Z a0 hw [] b5 q0 q1 p2 .null (.long (0 : Int64)) (.long (0 : Int64)) (.int (0 : Int32)) p3 p4 b1 T46.heap n0 zs64 f51 f55 f56 f57 f58 f52 f53 f54 gn_b5) hZ (hw _ (List.mem_of_getElem? (i := 50) rfl)) (hw _ (List.mem_of_getElem? (i := 3) rfl)) (by decide) (by decide)) q66a q66c (g := (mkF m 71 #[.val (.long q0), .second, .val (.long q1), .second, .val (.int p2), .val (.int p3), .val (.int p4), .val (.int p5), .val (.ref b1), .val (.ref b5), .val .null, .val (.ref b30), .val (.int (0 : Int32)), .unset, .unset, .unset, .unset, .unset, .unset] [(.int p2), (.long q1), (.long q0), .null, (.ref b5)])) rfl (by rw [hml]; rfl) (Steps.refl _) (argsL := [.null, (.long q0), (.long q1), (.int p2)]) (rest := []) (lenOf own_pd2 rfl) rfl (by show 2 * 0 + _ ≤ _; exact Nat.le_of_eq rfl) (hb hby at_71) (fun _ _ => ⟨rfl, rfl, (by decide : 5 + 0 ≤ _), (by decide : 31 + 0 ≤ _)⟩)
      dsimp only [Pt.U, Pt.locs, Pt.cells, Pt.slots] at X65 l65 y65 z65 st65 hQ65
      subst l65 y65 z65
      obtain ⟨rfl, N67, K67, c67_0, c67_1, c67_2, c67_3, c67_4, c67_5, c67_6⟩ := hQ65
      have f68 := own_sta_keep f48 K67 (own_pl_cons f51 all0)
      have f69 := f49.keep K67
      have f70 := f50.keep K67 (ninS ne_b1_b5 nin0)
      have f71 := f51.keep K67
      have f72 := f59.keep K67
      have k73 := k60.trans K67 (allS (Or.inr sz_b5) all0)
      have nf74 := Fr.app nf61 N67
      have zs75 : n0 ≤ T65.heap.size := Nat.le_trans Z0 k73.1
      obtain ⟨cq77, kq77, q77a, q77b, q77c⟩ := isOf hZ rfl f71
      obtain ⟨_, _, ⟨T76, L76, k76, n76⟩, -, X76, ⟨Lc76, hQ76, l76, y76, z76⟩, st76⟩ := X65.virtualBack hx (y := (⟨"com/example/interleave/interleave/check/Expansion", "fresh", "()Ljava/util/List;"⟩ : MethodName)) (z := (⟨"com/example/interleave/interleave/check/Expansion", "fresh", "()Ljava/util/List;"⟩ : MethodName)) hown (mvT hZ (hw _ (List.mem_of_getElem? (i := 59) rfl))) (mvT hZ (hw _ (List.mem_of_getElem? (i := 60) rfl))) (notFace_of_selects (args := #[]) (mvT hZ (hw _ (List.mem_of_getElem? (i := 62) rfl)))) (mvT hZ (hw _ (List.mem_of_getElem? (i := 62) rfl))) (mvT hZ (hw _ (List.mem_of_getElem? (i := 61) rfl))) (by decide) (backOf (W := 0) (own_rm_gfN l Z a0 hw [] b5 T65.heap n0 zs75 c67_0) hZ (hw _ (List.mem_of_getElem? (i := 63) rfl)) (hw _ (List.mem_of_getElem? (i := 3) rfl)) (by decide) (by decide)) q77a q77c (g := (mkF m 120 #[.val (.long q0), .second, .val (.long q1), .second, .val (.int p2), .val (.int p3), .val (.int p4), .val (.int p5), .val (.ref b1), .val (.ref b5), .val .null, .val (.ref b30), .val (.int (0 : Int32)), .val .null, .val (.long q0), .second, .val (.long q1), .second, .val (.int p2)] [(.ref b5)])) rfl (by rw [hml]; rfl) (Steps.refl _) (argsL := []) (rest := []) (lenOf own_pd3 rfl) rfl (by show 2 * 0 + _ ≤ _; exact Nat.le_of_eq rfl) (hb hby at_120) (fun _ _ => ⟨rfl, rfl, (by decide : 5 + 0 ≤ _), (by decide : 31 + 0 ≤ _)⟩)
      dsimp only [Pt.U, Pt.locs, Pt.cells, Pt.slots] at X76 l76 y76 z76 st76 hQ76
      subst l76 y76 z76
      obtain ⟨rfl, N78, eq78⟩ := hQ76
      have nf79 := Fr.app nf74 N78
      have zs80 : n0 ≤ T65.heap.size := Nat.le_trans Z0 k73.1
      obtain ⟨cq82, kq82, q82a, q82b, q82c⟩ := isOf hZ eq78 f71
      obtain ⟨_, _, ⟨T81, L81, k81, n81⟩, -, X81, ⟨Lc81, hQ81, l81, y81, z81⟩, st81⟩ := X76.virtualBack hx (y := (⟨"com/example/interleave/interleave/check/Expansion", "generated", "()J"⟩ : MethodName)) (z := (⟨"com/example/interleave/interleave/check/Expansion", "generated", "()J"⟩ : MethodName)) hown (mvT hZ (hw _ (List.mem_of_getElem? (i := 64) rfl))) (mvT hZ (hw _ (List.mem_of_getElem? (i := 65) rfl))) (notFace_of_selects (args := #[]) (mvT hZ (hw _ (List.mem_of_getElem? (i := 67) rfl)))) (mvT hZ (hw _ (List.mem_of_getElem? (i := 67) rfl))) (mvT hZ (hw _ (List.mem_of_getElem? (i := 66) rfl))) (by decide) (backOf (W := 0) (own_rm_ggn l Z a0 hw [] b5 q0 T65.heap n0 zs80 c67_1) hZ (hw _ (List.mem_of_getElem? (i := 68) rfl)) (hw _ (List.mem_of_getElem? (i := 3) rfl)) (by decide) (by decide)) q82a q82c (g := (mkF m 130 #[.val (.long q0), .second, .val (.long q1), .second, .val (.int p2), .val (.int p3), .val (.int p4), .val (.int p5), .val (.ref b1), .val (.ref b5), .val .null, .val (.ref b30), .val (.int (0 : Int32)), .val .null, .val (.long q0), .second, .val (.long q1), .second, .val (.int p2)] [(.ref b5)])) rfl (by rw [hml]; rfl) (Steps.refl _) (argsL := []) (rest := []) (lenOf own_pd4 rfl) rfl (by show 2 * 0 + _ ≤ _; exact Nat.le_of_eq rfl) (hb hby at_130) (fun _ _ => ⟨rfl, eq78, (by decide : 5 + 0 ≤ _), (by decide : 31 + 0 ≤ _)⟩)
      dsimp only [Pt.U, Pt.locs, Pt.cells, Pt.slots] at X81 l81 y81 z81 st81 hQ81
      subst l81 y81 z81
      obtain ⟨rfl, N83, eq83⟩ := hQ81
      have nf84 := Fr.app nf79 N83
      have zs85 : n0 ≤ T65.heap.size := Nat.le_trans Z0 k73.1
      obtain ⟨cq87, kq87, q87a, q87b, q87c⟩ := isOf hZ eq83 f71
      obtain ⟨_, _, ⟨T86, L86, k86, n86⟩, -, X86, ⟨Lc86, hQ86, l86, y86, z86⟩, st86⟩ := X81.virtualBack hx (y := (⟨"com/example/interleave/interleave/check/Expansion", "distinct", "()J"⟩ : MethodName)) (z := (⟨"com/example/interleave/interleave/check/Expansion", "distinct", "()J"⟩ : MethodName)) hown (mvT hZ (hw _ (List.mem_of_getElem? (i := 69) rfl))) (mvT hZ (hw _ (List.mem_of_getElem? (i := 70) rfl))) (notFace_of_selects (args := #[]) (mvT hZ (hw _ (List.mem_of_getElem? (i := 72) rfl)))) (mvT hZ (hw _ (List.mem_of_getElem? (i := 72) rfl))) (mvT hZ (hw _ (List.mem_of_getElem? (i := 71) rfl))) (by decide) (backOf (W := 0) (own_rm_gdi l Z a0 hw [] b5 q1 T65.heap n0 zs85 c67_2) hZ (hw _ (List.mem_of_getElem? (i := 73) rfl)) (hw _ (List.mem_of_getElem? (i := 3) rfl)) (by decide) (by decide)) q87a q87c (g := (mkF m 141 #[.val (.long q0), .second, .val (.long q1), .second, .val (.int p2), .val (.int p3), .val (.int p4), .val (.int p5), .val (.ref b1), .val (.ref b5), .val .null, .val (.ref b30), .val (.int (0 : Int32)), .val .null, .val (.long q0), .second, .val (.long q1), .second, .val (.int p2)] [(.ref b5)])) rfl (by rw [hml]; rfl) (Steps.refl _) (argsL := []) (rest := []) (lenOf own_pd4 rfl) rfl (by show 2 * 0 + _ ≤ _; exact Nat.le_of_eq rfl) (hb hby at_141) (fun _ _ => ⟨rfl, eq83, (by decide : 5 + 0 ≤ _), (by decide : 31 + 0 ≤ _)⟩)
      dsimp only [Pt.U, Pt.locs, Pt.cells, Pt.slots] at X86 l86 y86 z86 st86 hQ86
      subst l86 y86 z86
      obtain ⟨rfl, N88, eq88⟩ := hQ86
      have nf89 := Fr.app nf84 N88
      have zs90 : n0 ≤ T65.heap.size := Nat.le_trans Z0 k73.1
      obtain ⟨cq92, kq92, q92a, q92b, q92c⟩ := isOf hZ eq88 f71
      obtain ⟨_, _, ⟨T91, L91, k91, n91⟩, -, X91, ⟨Lc91, hQ91, l91, y91, z91⟩, st91⟩ := X86.virtualBack hx (y := (⟨"com/example/interleave/interleave/check/Expansion", "depth", "()I"⟩ : MethodName)) (z := (⟨"com/example/interleave/interleave/check/Expansion", "depth", "()I"⟩ : MethodName)) hown (mvT hZ (hw _ (List.mem_of_getElem? (i := 74) rfl))) (mvT hZ (hw _ (List.mem_of_getElem? (i := 75) rfl))) (notFace_of_selects (args := #[]) (mvT hZ (hw _ (List.mem_of_getElem? (i := 77) rfl)))) (mvT hZ (hw _ (List.mem_of_getElem? (i := 77) rfl))) (mvT hZ (hw _ (List.mem_of_getElem? (i := 76) rfl))) (by decide) (backOf (W := 0) (own_rm_gde l Z a0 hw [] b5 p2 T65.heap n0 zs90 c67_3) hZ (hw _ (List.mem_of_getElem? (i := 78) rfl)) (hw _ (List.mem_of_getElem? (i := 3) rfl)) (by decide) (by decide)) q92a q92c (g := (mkF m 152 #[.val (.long q0), .second, .val (.long q1), .second, .val (.int p2), .val (.int p3), .val (.int p4), .val (.int p5), .val (.ref b1), .val (.ref b5), .val .null, .val (.ref b30), .val (.int (0 : Int32)), .val .null, .val (.long q0), .second, .val (.long q1), .second, .val (.int p2)] [(.ref b5)])) rfl (by rw [hml]; rfl) (Steps.refl _) (argsL := []) (rest := []) (lenOf own_pd5 rfl) rfl (by show 2 * 0 + _ ≤ _; exact Nat.le_of_eq rfl) (hb hby at_152) (fun _ _ => ⟨rfl, eq88, (by decide : 5 + 0 ≤ _), (by decide : 31 + 0 ≤ _)⟩)
      dsimp only [Pt.U, Pt.locs, Pt.cells, Pt.slots] at X91 l91 y91 z91 st91 hQ91
      subst l91 y91 z91
      obtain ⟨rfl, N93, eq93⟩ := hQ91
      have nf94 := Fr.app nf89 N93
      have zs95 : n0 ≤ T65.heap.size := Nat.le_trans Z0 k73.1
      obtain ⟨cq97, kq97, q97a, q97b, q97c⟩ := isOf hZ eq93 f71
      obtain ⟨_, _, ⟨T96, L96, k96, n96⟩, -, X96, ⟨Lc96, hQ96, l96, y96, z96⟩, st96⟩ := X91.virtualBack hx (y := (⟨"com/example/interleave/interleave/check/Expansion", "sourceId", "()I"⟩ : MethodName)) (z := (⟨"com/example/interleave/interleave/check/Expansion", "sourceId", "()I"⟩ : MethodName)) hown (mvT hZ (hw _ (List.mem_of_getElem? (i := 79) rfl))) (mvT hZ (hw _ (List.mem_of_getElem? (i := 80) rfl))) (notFace_of_selects (args := #[]) (mvT hZ (hw _ (List.mem_of_getElem? (i := 82) rfl)))) (mvT hZ (hw _ (List.mem_of_getElem? (i := 82) rfl))) (mvT hZ (hw _ (List.mem_of_getElem? (i := 81) rfl))) (by decide) (backOf (W := 0) (own_rm_gsi l Z a0 hw [] b5 p3 T65.heap n0 zs95 c67_4) hZ (hw _ (List.mem_of_getElem? (i := 83) rfl)) (hw _ (List.mem_of_getElem? (i := 3) rfl)) (by decide) (by decide)) q97a q97c (g := (mkF m 162 #[.val (.long q0), .second, .val (.long q1), .second, .val (.int p2), .val (.int p3), .val (.int p4), .val (.int p5), .val (.ref b1), .val (.ref b5), .val .null, .val (.ref b30), .val (.int (0 : Int32)), .val .null, .val (.long q0), .second, .val (.long q1), .second, .val (.int p2)] [(.ref b5)])) rfl (by rw [hml]; rfl) (Steps.refl _) (argsL := []) (rest := []) (lenOf own_pd5 rfl) rfl (by show 2 * 0 + _ ≤ _; exact Nat.le_of_eq rfl) (hb hby at_162) (fun _ _ => ⟨rfl, eq93, (by decide : 5 + 0 ≤ _), (by decide : 31 + 0 ≤ _)⟩)
      dsimp only [Pt.U, Pt.locs, Pt.cells, Pt.slots] at X96 l96 y96 z96 st96 hQ96
      subst l96 y96 z96
      obtain ⟨rfl, N98, eq98⟩ := hQ96
      have nf99 := Fr.app nf94 N98
      have zs100 : n0 ≤ T65.heap.size := Nat.le_trans Z0 k73.1
      obtain ⟨cq102, kq102, q102a, q102b, q102c⟩ := isOf hZ eq98 f71
      obtain ⟨_, _, ⟨T101, L101, k101, n101⟩, -, X101, ⟨Lc101, hQ101, l101, y101, z101⟩, st101⟩ := X96.virtualBack hx (y := (⟨"com/example/interleave/interleave/check/Expansion", "sourceParent", "()I"⟩ : MethodName)) (z := (⟨"com/example/interleave/interleave/check/Expansion", "sourceParent", "()I"⟩ : MethodName)) hown (mvT hZ (hw _ (List.mem_of_getElem? (i := 84) rfl))) (mvT hZ (hw _ (List.mem_of_getElem? (i := 85) rfl))) (notFace_of_selects (args := #[]) (mvT hZ (hw _ (List.mem_of_getElem? (i := 87) rfl)))) (mvT hZ (hw _ (List.mem_of_getElem? (i := 87) rfl))) (mvT hZ (hw _ (List.mem_of_getElem? (i := 86) rfl))) (by decide) (backOf (W := 0) (own_rm_gsp l Z a0 hw [] b5 p4 T65.heap n0 zs100 c67_5) hZ (hw _ (List.mem_of_getElem? (i := 88) rfl)) (hw _ (List.mem_of_getElem? (i := 3) rfl)) (by decide) (by decide)) q102a q102c (g := (mkF m 172 #[.val (.long q0), .second, .val (.long q1), .second, .val (.int p2), .val (.int p3), .val (.int p4), .val (.int p5), .val (.ref b1), .val (.ref b5), .val .null, .val (.ref b30), .val (.int (0 : Int32)), .val .null, .val (.long q0), .second, .val (.long q1), .second, .val (.int p2)] [(.ref b5)])) rfl (by rw [hml]; rfl) (Steps.refl _) (argsL := []) (rest := []) (lenOf own_pd5 rfl) rfl (by show 2 * 0 + _ ≤ _; exact Nat.le_of_eq rfl) (hb hby at_172) (fun _ _ => ⟨rfl, eq98, (by decide : 5 + 0 ≤ _), (by decide : 31 + 0 ≤ _)⟩)
      dsimp only [Pt.U, Pt.locs, Pt.cells, Pt.slots] at X101 l101 y101 z101 st101 hQ101
      subst l101 y101 z101
      obtain ⟨rfl, N103, eq103⟩ := hQ101
      have nf104 := Fr.app nf99 N103
      have zs105 : n0 ≤ T65.heap.size := Nat.le_trans Z0 k73.1
      obtain ⟨cq107, kq107, q107a, q107b, q107c⟩ := isOf hZ eq103 f71
      obtain ⟨_, _, ⟨T106, L106, k106, n106⟩, -, X106, ⟨Lc106, hQ106, l106, y106, z106⟩, st106⟩ := X101.virtualBack hx (y := (⟨"com/example/interleave/interleave/check/Expansion", "sourceBytes", "()[B"⟩ : MethodName)) (z := (⟨"com/example/interleave/interleave/check/Expansion", "sourceBytes", "()[B"⟩ : MethodName)) hown (mvT hZ (hw _ (List.mem_of_getElem? (i := 89) rfl))) (mvT hZ (hw _ (List.mem_of_getElem? (i := 90) rfl))) (notFace_of_selects (args := #[]) (mvT hZ (hw _ (List.mem_of_getElem? (i := 92) rfl)))) (mvT hZ (hw _ (List.mem_of_getElem? (i := 92) rfl))) (mvT hZ (hw _ (List.mem_of_getElem? (i := 91) rfl))) (by decide) (backOf (W := 0) (own_rm_gsb l Z a0 hw [] b5 b1 T65.heap n0 zs105 c67_6) hZ (hw _ (List.mem_of_getElem? (i := 93) rfl)) (hw _ (List.mem_of_getElem? (i := 3) rfl)) (by decide) (by decide)) q107a q107c (g := (mkF m 182 #[.val (.long q0), .second, .val (.long q1), .second, .val (.int p2), .val (.int p3), .val (.int p4), .val (.int p5), .val (.ref b1), .val (.ref b5), .val .null, .val (.ref b30), .val (.int (0 : Int32)), .val .null, .val (.long q0), .second, .val (.long q1), .second, .val (.int p2)] [(.ref b5)])) rfl (by rw [hml]; rfl) (Steps.refl _) (argsL := []) (rest := []) (lenOf own_pd6 rfl) rfl (by show 2 * 0 + _ ≤ _; exact Nat.le_of_eq rfl) (hb hby at_182) (fun _ _ => ⟨rfl, eq103, (by decide : 5 + 0 ≤ _), (by decide : 31 + 0 ≤ _)⟩)
      dsimp only [Pt.U, Pt.locs, Pt.cells, Pt.slots] at X106 l106 y106 z106 st106 hQ106
      subst l106 y106 z106
      obtain ⟨rfl, N108, eq108⟩ := hQ106
      have nf109 := Fr.app nf104 N108
      have pre110 : ∀ t, Steps p.tables e below (T106.setTop (mkF m 195 #[.val (.long q0), .second, .val (.long q1), .second, .val (.int p2), .val (.int p3), .val (.int p4), .val (.int p5), .val (.ref b1), .val (.ref b5), .val .null, .val (.ref b30), .val (.int (0 : Int32)), .val .null, .val (.long q0), .second, .val (.long q1), .second, .val (.int p2)] [(.int (1 : Int32))])) t → Steps p.tables e below (s₁.setTop (entryFrame m #[(.long q0), (.long q1), (.int p2), (.int p3), (.int p4), (.int p5)] maxLocals)) t := by
        intro t kt
        refine pre62 t ?_
        show Steps p.tables e below (T46.setTop (mkF m 53 #[.val (.long q0), .second, .val (.long q1), .second, .val (.int p2), .val (.int p3), .val (.int p4), .val (.int p5), .val (.ref b1), .val (.ref b5), .val .null, .val (.ref b30), .unset, .unset, .unset, .unset, .unset, .unset, .unset] [(.int (p5 &&& (2 : Int32)))])) _
        refine XS.ifYes X46.here hx rfl (pc0 := 53) (pc' := 60) rfl (hb hby at_53) rfl ((if0 _ _).trans (teq hc63).1) (by decide) (by decide) ?_
        show Steps p.tables e below (T46.setTop (mkF m 60 #[.val (.long q0), .second, .val (.long q1), .second, .val (.int p2), .val (.int p3), .val (.int p4), .val (.int p5), .val (.ref b1), .val (.ref b5), .val .null, .val (.ref b30), .unset, .unset, .unset, .unset, .unset, .unset, .unset] [])) _
        refine XS.iconst X46.here hx rfl (hb hby at_60) ?_
        show Steps p.tables e below (T46.setTop (mkF m 61 #[.val (.long q0), .second, .val (.long q1), .second, .val (.int p2), .val (.int p3), .val (.int p4), .val (.int p5), .val (.ref b1), .val (.ref b5), .val .null, .val (.ref b30), .unset, .unset, .unset, .unset, .unset, .unset, .unset] [(.int (0 : Int32))])) _
        refine XS.istore X46.here hx rfl (hb hby at_61) rfl (l' := #[.val (.long q0), .second, .val (.long q1), .second, .val (.int p2), .val (.int p3), .val (.int p4), .val (.int p5), .val (.ref b1), .val (.ref b5), .val .null, .val (.ref b30), .val (.int (0 : Int32)), .unset, .unset, .unset, .unset, .unset, .unset]) rfl ?_
        show Steps p.tables e below (T46.setTop (mkF m 63 #[.val (.long q0), .second, .val (.long q1), .second, .val (.int p2), .val (.int p3), .val (.int p4), .val (.int p5), .val (.ref b1), .val (.ref b5), .val .null, .val (.ref b30), .val (.int (0 : Int32)), .unset, .unset, .unset, .unset, .unset, .unset] [])) _
        refine XS.aload X46.here hx rfl (hb hby at_63) rfl rfl ?_
        show Steps p.tables e below (T46.setTop (mkF m 65 #[.val (.long q0), .second, .val (.long q1), .second, .val (.int p2), .val (.int p3), .val (.int p4), .val (.int p5), .val (.ref b1), .val (.ref b5), .val .null, .val (.ref b30), .val (.int (0 : Int32)), .unset, .unset, .unset, .unset, .unset, .unset] [(.ref b5)])) _
        refine XS.aload X46.here hx rfl (hb hby at_65) rfl rfl ?_
        show Steps p.tables e below (T46.setTop (mkF m 67 #[.val (.long q0), .second, .val (.long q1), .second, .val (.int p2), .val (.int p3), .val (.int p4), .val (.int p5), .val (.ref b1), .val (.ref b5), .val .null, .val (.ref b30), .val (.int (0 : Int32)), .unset, .unset, .unset, .unset, .unset, .unset] [.null, (.ref b5)])) _
        refine XS.lloadN X46.here hx rfl (hb hby at_67) rfl ?_
        show Steps p.tables e below (T46.setTop (mkF m 68 #[.val (.long q0), .second, .val (.long q1), .second, .val (.int p2), .val (.int p3), .val (.int p4), .val (.int p5), .val (.ref b1), .val (.ref b5), .val .null, .val (.ref b30), .val (.int (0 : Int32)), .unset, .unset, .unset, .unset, .unset, .unset] [(.long q0), .null, (.ref b5)])) _
        refine XS.lloadN X46.here hx rfl (hb hby at_68) rfl ?_
        show Steps p.tables e below (T46.setTop (mkF m 69 #[.val (.long q0), .second, .val (.long q1), .second, .val (.int p2), .val (.int p3), .val (.int p4), .val (.int p5), .val (.ref b1), .val (.ref b5), .val .null, .val (.ref b30), .val (.int (0 : Int32)), .unset, .unset, .unset, .unset, .unset, .unset] [(.long q1), (.long q0), .null, (.ref b5)])) _
        refine XS.iload X46.here hx rfl (hb hby at_69) rfl ?_
        show Steps p.tables e below (T46.setTop (mkF m 71 #[.val (.long q0), .second, .val (.long q1), .second, .val (.int p2), .val (.int p3), .val (.int p4), .val (.int p5), .val (.ref b1), .val (.ref b5), .val .null, .val (.ref b30), .val (.int (0 : Int32)), .unset, .unset, .unset, .unset, .unset, .unset] [(.int p2), (.long q1), (.long q0), .null, (.ref b5)])) _
        refine st65.trans ?_
        show Steps p.tables e below (T65.setTop (mkF m 74 #[.val (.long q0), .second, .val (.long q1), .second, .val (.int p2), .val (.int p3), .val (.int p4), .val (.int p5), .val (.ref b1), .val (.ref b5), .val .null, .val (.ref b30), .val (.int (0 : Int32)), .unset, .unset, .unset, .unset, .unset, .unset] [])) _
        refine XS.aload X65.here hx rfl (hb hby at_74) rfl rfl ?_
        show Steps p.tables e below (T65.setTop (mkF m 76 #[.val (.long q0), .second, .val (.long q1), .second, .val (.int p2), .val (.int p3), .val (.int p4), .val (.int p5), .val (.ref b1), .val (.ref b5), .val .null, .val (.ref b30), .val (.int (0 : Int32)), .unset, .unset, .unset, .unset, .unset, .unset] [.null])) _
        refine XS.astore X65.here hx rfl (hb hby at_76) rfl rfl (l' := #[.val (.long q0), .second, .val (.long q1), .second, .val (.int p2), .val (.int p3), .val (.int p4), .val (.int p5), .val (.ref b1), .val (.ref b5), .val .null, .val (.ref b30), .val (.int (0 : Int32)), .val .null, .unset, .unset, .unset, .unset, .unset]) rfl ?_
        show Steps p.tables e below (T65.setTop (mkF m 78 #[.val (.long q0), .second, .val (.long q1), .second, .val (.int p2), .val (.int p3), .val (.int p4), .val (.int p5), .val (.ref b1), .val (.ref b5), .val .null, .val (.ref b30), .val (.int (0 : Int32)), .val .null, .unset, .unset, .unset, .unset, .unset] [])) _
        refine XS.lloadN X65.here hx rfl (hb hby at_78) rfl ?_
        show Steps p.tables e below (T65.setTop (mkF m 79 #[.val (.long q0), .second, .val (.long q1), .second, .val (.int p2), .val (.int p3), .val (.int p4), .val (.int p5), .val (.ref b1), .val (.ref b5), .val .null, .val (.ref b30), .val (.int (0 : Int32)), .val .null, .unset, .unset, .unset, .unset, .unset] [(.long q0)])) _
        refine XS.lstore X65.here hx rfl (hb hby at_79) rfl (l' := #[.val (.long q0), .second, .val (.long q1), .second, .val (.int p2), .val (.int p3), .val (.int p4), .val (.int p5), .val (.ref b1), .val (.ref b5), .val .null, .val (.ref b30), .val (.int (0 : Int32)), .val .null, .val (.long q0), .second, .unset, .unset, .unset]) rfl ?_
        show Steps p.tables e below (T65.setTop (mkF m 81 #[.val (.long q0), .second, .val (.long q1), .second, .val (.int p2), .val (.int p3), .val (.int p4), .val (.int p5), .val (.ref b1), .val (.ref b5), .val .null, .val (.ref b30), .val (.int (0 : Int32)), .val .null, .val (.long q0), .second, .unset, .unset, .unset] [])) _
        refine XS.lloadN X65.here hx rfl (hb hby at_81) rfl ?_
        show Steps p.tables e below (T65.setTop (mkF m 82 #[.val (.long q0), .second, .val (.long q1), .second, .val (.int p2), .val (.int p3), .val (.int p4), .val (.int p5), .val (.ref b1), .val (.ref b5), .val .null, .val (.ref b30), .val (.int (0 : Int32)), .val .null, .val (.long q0), .second, .unset, .unset, .unset] [(.long q1)])) _
        refine XS.lstore X65.here hx rfl (hb hby at_82) rfl (l' := #[.val (.long q0), .second, .val (.long q1), .second, .val (.int p2), .val (.int p3), .val (.int p4), .val (.int p5), .val (.ref b1), .val (.ref b5), .val .null, .val (.ref b30), .val (.int (0 : Int32)), .val .null, .val (.long q0), .second, .val (.long q1), .second, .unset]) rfl ?_
        show Steps p.tables e below (T65.setTop (mkF m 84 #[.val (.long q0), .second, .val (.long q1), .second, .val (.int p2), .val (.int p3), .val (.int p4), .val (.int p5), .val (.ref b1), .val (.ref b5), .val .null, .val (.ref b30), .val (.int (0 : Int32)), .val .null, .val (.long q0), .second, .val (.long q1), .second, .unset] [])) _
        refine XS.iload X65.here hx rfl (hb hby at_84) rfl ?_
        show Steps p.tables e below (T65.setTop (mkF m 86 #[.val (.long q0), .second, .val (.long q1), .second, .val (.int p2), .val (.int p3), .val (.int p4), .val (.int p5), .val (.ref b1), .val (.ref b5), .val .null, .val (.ref b30), .val (.int (0 : Int32)), .val .null, .val (.long q0), .second, .val (.long q1), .second, .unset] [(.int p2)])) _
        refine XS.istore X65.here hx rfl (hb hby at_86) rfl (l' := #[.val (.long q0), .second, .val (.long q1), .second, .val (.int p2), .val (.int p3), .val (.int p4), .val (.int p5), .val (.ref b1), .val (.ref b5), .val .null, .val (.ref b30), .val (.int (0 : Int32)), .val .null, .val (.long q0), .second, .val (.long q1), .second, .val (.int p2)]) rfl ?_
        show Steps p.tables e below (T65.setTop (mkF m 88 #[.val (.long q0), .second, .val (.long q1), .second, .val (.int p2), .val (.int p3), .val (.int p4), .val (.int p5), .val (.ref b1), .val (.ref b5), .val .null, .val (.ref b30), .val (.int (0 : Int32)), .val .null, .val (.long q0), .second, .val (.long q1), .second, .val (.int p2)] [])) _
        refine XS.iload X65.here hx rfl (hb hby at_88) rfl ?_
        show Steps p.tables e below (T65.setTop (mkF m 90 #[.val (.long q0), .second, .val (.long q1), .second, .val (.int p2), .val (.int p3), .val (.int p4), .val (.int p5), .val (.ref b1), .val (.ref b5), .val .null, .val (.ref b30), .val (.int (0 : Int32)), .val .null, .val (.long q0), .second, .val (.long q1), .second, .val (.int p2)] [(.int (0 : Int32))])) _
        refine XS.ifYes X65.here hx rfl (pc0 := 90) (pc' := 118) rfl (hb hby at_90) rfl ((if0 _ _).trans (teq (rfl : (0 : Int32) = (0 : Int32))).1) (by decide) (by decide) ?_
        show Steps p.tables e below (T65.setTop (mkF m 118 #[.val (.long q0), .second, .val (.long q1), .second, .val (.int p2), .val (.int p3), .val (.int p4), .val (.int p5), .val (.ref b1), .val (.ref b5), .val .null, .val (.ref b30), .val (.int (0 : Int32)), .val .null, .val (.long q0), .second, .val (.long q1), .second, .val (.int p2)] [])) _
        refine XS.aload X65.here hx rfl (hb hby at_118) rfl rfl ?_
        show Steps p.tables e below (T65.setTop (mkF m 120 #[.val (.long q0), .second, .val (.long q1), .second, .val (.int p2), .val (.int p3), .val (.int p4), .val (.int p5), .val (.ref b1), .val (.ref b5), .val .null, .val (.ref b30), .val (.int (0 : Int32)), .val .null, .val (.long q0), .second, .val (.long q1), .second, .val (.int p2)] [(.ref b5)])) _
        refine st76.trans ?_
        show Steps p.tables e below (T76.setTop (mkF m 123 #[.val (.long q0), .second, .val (.long q1), .second, .val (.int p2), .val (.int p3), .val (.int p4), .val (.int p5), .val (.ref b1), .val (.ref b5), .val .null, .val (.ref b30), .val (.int (0 : Int32)), .val .null, .val (.long q0), .second, .val (.long q1), .second, .val (.int p2)] [.null])) _
        refine XS.aload X76.here hx rfl (hb hby at_123) rfl rfl ?_
        show Steps p.tables e below (T76.setTop (mkF m 125 #[.val (.long q0), .second, .val (.long q1), .second, .val (.int p2), .val (.int p3), .val (.int p4), .val (.int p5), .val (.ref b1), .val (.ref b5), .val .null, .val (.ref b30), .val (.int (0 : Int32)), .val .null, .val (.long q0), .second, .val (.long q1), .second, .val (.int p2)] [.null, .null])) _
        refine Jvm.RoadKit.acmp (g := (mkF m 125 #[.val (.long q0), .second, .val (.long q1), .second, .val (.int p2), .val (.int p3), .val (.int p4), .val (.int p5), .val (.ref b1), .val (.ref b5), .val .null, .val (.ref b30), .val (.int (0 : Int32)), .val .null, .val (.long q0), .second, .val (.long q1), .second, .val (.int p2)] [.null, .null])) X76 hx rfl rfl rfl (pc0 := 125) (pc' := 128) (same := true) rfl (hb hby at_125) rfl (decide_eq_true rfl) (by decide) (by decide) ?_
        show Steps p.tables e below (T76.setTop (mkF m 128 #[.val (.long q0), .second, .val (.long q1), .second, .val (.int p2), .val (.int p3), .val (.int p4), .val (.int p5), .val (.ref b1), .val (.ref b5), .val .null, .val (.ref b30), .val (.int (0 : Int32)), .val .null, .val (.long q0), .second, .val (.long q1), .second, .val (.int p2)] [])) _
        refine XS.aload X76.here hx rfl (hb hby at_128) rfl rfl ?_
        show Steps p.tables e below (T76.setTop (mkF m 130 #[.val (.long q0), .second, .val (.long q1), .second, .val (.int p2), .val (.int p3), .val (.int p4), .val (.int p5), .val (.ref b1), .val (.ref b5), .val .null, .val (.ref b30), .val (.int (0 : Int32)), .val .null, .val (.long q0), .second, .val (.long q1), .second, .val (.int p2)] [(.ref b5)])) _
        refine st81.trans ?_
        show Steps p.tables e below (T81.setTop (mkF m 133 #[.val (.long q0), .second, .val (.long q1), .second, .val (.int p2), .val (.int p3), .val (.int p4), .val (.int p5), .val (.ref b1), .val (.ref b5), .val .null, .val (.ref b30), .val (.int (0 : Int32)), .val .null, .val (.long q0), .second, .val (.long q1), .second, .val (.int p2)] [(.long q0)])) _
        refine XS.lload X81.here hx rfl (hb hby at_133) rfl ?_
        show Steps p.tables e below (T81.setTop (mkF m 135 #[.val (.long q0), .second, .val (.long q1), .second, .val (.int p2), .val (.int p3), .val (.int p4), .val (.int p5), .val (.ref b1), .val (.ref b5), .val .null, .val (.ref b30), .val (.int (0 : Int32)), .val .null, .val (.long q0), .second, .val (.long q1), .second, .val (.int p2)] [(.long q0), (.long q0)])) _
        refine XS.lcmp X81.here hx rfl (hb hby at_135) rfl ?_
        show Steps p.tables e below (T81.setTop (mkF m 136 #[.val (.long q0), .second, .val (.long q1), .second, .val (.int p2), .val (.int p3), .val (.int p4), .val (.int p5), .val (.ref b1), .val (.ref b5), .val .null, .val (.ref b30), .val (.int (0 : Int32)), .val .null, .val (.long q0), .second, .val (.long q1), .second, .val (.int p2)] [(.int (lcmpW q0 q0))])) _
        refine XS.ifNo X81.here hx rfl (hb hby at_136) rfl ((if0 _ _).trans (teq (own_lc _)).2) ?_
        show Steps p.tables e below (T81.setTop (mkF m 139 #[.val (.long q0), .second, .val (.long q1), .second, .val (.int p2), .val (.int p3), .val (.int p4), .val (.int p5), .val (.ref b1), .val (.ref b5), .val .null, .val (.ref b30), .val (.int (0 : Int32)), .val .null, .val (.long q0), .second, .val (.long q1), .second, .val (.int p2)] [])) _
        refine XS.aload X81.here hx rfl (hb hby at_139) rfl rfl ?_
        show Steps p.tables e below (T81.setTop (mkF m 141 #[.val (.long q0), .second, .val (.long q1), .second, .val (.int p2), .val (.int p3), .val (.int p4), .val (.int p5), .val (.ref b1), .val (.ref b5), .val .null, .val (.ref b30), .val (.int (0 : Int32)), .val .null, .val (.long q0), .second, .val (.long q1), .second, .val (.int p2)] [(.ref b5)])) _
        refine st86.trans ?_
        show Steps p.tables e below (T86.setTop (mkF m 144 #[.val (.long q0), .second, .val (.long q1), .second, .val (.int p2), .val (.int p3), .val (.int p4), .val (.int p5), .val (.ref b1), .val (.ref b5), .val .null, .val (.ref b30), .val (.int (0 : Int32)), .val .null, .val (.long q0), .second, .val (.long q1), .second, .val (.int p2)] [(.long q1)])) _
        refine XS.lload X86.here hx rfl (hb hby at_144) rfl ?_
        show Steps p.tables e below (T86.setTop (mkF m 146 #[.val (.long q0), .second, .val (.long q1), .second, .val (.int p2), .val (.int p3), .val (.int p4), .val (.int p5), .val (.ref b1), .val (.ref b5), .val .null, .val (.ref b30), .val (.int (0 : Int32)), .val .null, .val (.long q0), .second, .val (.long q1), .second, .val (.int p2)] [(.long q1), (.long q1)])) _
        refine XS.lcmp X86.here hx rfl (hb hby at_146) rfl ?_
        show Steps p.tables e below (T86.setTop (mkF m 147 #[.val (.long q0), .second, .val (.long q1), .second, .val (.int p2), .val (.int p3), .val (.int p4), .val (.int p5), .val (.ref b1), .val (.ref b5), .val .null, .val (.ref b30), .val (.int (0 : Int32)), .val .null, .val (.long q0), .second, .val (.long q1), .second, .val (.int p2)] [(.int (lcmpW q1 q1))])) _
        refine XS.ifNo X86.here hx rfl (hb hby at_147) rfl ((if0 _ _).trans (teq (own_lc _)).2) ?_
        show Steps p.tables e below (T86.setTop (mkF m 150 #[.val (.long q0), .second, .val (.long q1), .second, .val (.int p2), .val (.int p3), .val (.int p4), .val (.int p5), .val (.ref b1), .val (.ref b5), .val .null, .val (.ref b30), .val (.int (0 : Int32)), .val .null, .val (.long q0), .second, .val (.long q1), .second, .val (.int p2)] [])) _
        refine XS.aload X86.here hx rfl (hb hby at_150) rfl rfl ?_
        show Steps p.tables e below (T86.setTop (mkF m 152 #[.val (.long q0), .second, .val (.long q1), .second, .val (.int p2), .val (.int p3), .val (.int p4), .val (.int p5), .val (.ref b1), .val (.ref b5), .val .null, .val (.ref b30), .val (.int (0 : Int32)), .val .null, .val (.long q0), .second, .val (.long q1), .second, .val (.int p2)] [(.ref b5)])) _
        refine st91.trans ?_
        show Steps p.tables e below (T91.setTop (mkF m 155 #[.val (.long q0), .second, .val (.long q1), .second, .val (.int p2), .val (.int p3), .val (.int p4), .val (.int p5), .val (.ref b1), .val (.ref b5), .val .null, .val (.ref b30), .val (.int (0 : Int32)), .val .null, .val (.long q0), .second, .val (.long q1), .second, .val (.int p2)] [(.int p2)])) _
        refine XS.iload X91.here hx rfl (hb hby at_155) rfl ?_
        show Steps p.tables e below (T91.setTop (mkF m 157 #[.val (.long q0), .second, .val (.long q1), .second, .val (.int p2), .val (.int p3), .val (.int p4), .val (.int p5), .val (.ref b1), .val (.ref b5), .val .null, .val (.ref b30), .val (.int (0 : Int32)), .val .null, .val (.long q0), .second, .val (.long q1), .second, .val (.int p2)] [(.int p2), (.int p2)])) _
        refine XS.icmpNo X91.here hx rfl (hb hby at_157) rfl (teq (rfl : p2 = p2)).2 ?_
        show Steps p.tables e below (T91.setTop (mkF m 160 #[.val (.long q0), .second, .val (.long q1), .second, .val (.int p2), .val (.int p3), .val (.int p4), .val (.int p5), .val (.ref b1), .val (.ref b5), .val .null, .val (.ref b30), .val (.int (0 : Int32)), .val .null, .val (.long q0), .second, .val (.long q1), .second, .val (.int p2)] [])) _
        refine XS.aload X91.here hx rfl (hb hby at_160) rfl rfl ?_
        show Steps p.tables e below (T91.setTop (mkF m 162 #[.val (.long q0), .second, .val (.long q1), .second, .val (.int p2), .val (.int p3), .val (.int p4), .val (.int p5), .val (.ref b1), .val (.ref b5), .val .null, .val (.ref b30), .val (.int (0 : Int32)), .val .null, .val (.long q0), .second, .val (.long q1), .second, .val (.int p2)] [(.ref b5)])) _
        refine st96.trans ?_
        show Steps p.tables e below (T96.setTop (mkF m 165 #[.val (.long q0), .second, .val (.long q1), .second, .val (.int p2), .val (.int p3), .val (.int p4), .val (.int p5), .val (.ref b1), .val (.ref b5), .val .null, .val (.ref b30), .val (.int (0 : Int32)), .val .null, .val (.long q0), .second, .val (.long q1), .second, .val (.int p2)] [(.int p3)])) _
        refine XS.iload X96.here hx rfl (hb hby at_165) rfl ?_
        show Steps p.tables e below (T96.setTop (mkF m 167 #[.val (.long q0), .second, .val (.long q1), .second, .val (.int p2), .val (.int p3), .val (.int p4), .val (.int p5), .val (.ref b1), .val (.ref b5), .val .null, .val (.ref b30), .val (.int (0 : Int32)), .val .null, .val (.long q0), .second, .val (.long q1), .second, .val (.int p2)] [(.int p3), (.int p3)])) _
        refine XS.icmpNo X96.here hx rfl (hb hby at_167) rfl (teq (rfl : p3 = p3)).2 ?_
        show Steps p.tables e below (T96.setTop (mkF m 170 #[.val (.long q0), .second, .val (.long q1), .second, .val (.int p2), .val (.int p3), .val (.int p4), .val (.int p5), .val (.ref b1), .val (.ref b5), .val .null, .val (.ref b30), .val (.int (0 : Int32)), .val .null, .val (.long q0), .second, .val (.long q1), .second, .val (.int p2)] [])) _
        refine XS.aload X96.here hx rfl (hb hby at_170) rfl rfl ?_
        show Steps p.tables e below (T96.setTop (mkF m 172 #[.val (.long q0), .second, .val (.long q1), .second, .val (.int p2), .val (.int p3), .val (.int p4), .val (.int p5), .val (.ref b1), .val (.ref b5), .val .null, .val (.ref b30), .val (.int (0 : Int32)), .val .null, .val (.long q0), .second, .val (.long q1), .second, .val (.int p2)] [(.ref b5)])) _
        refine st101.trans ?_
        show Steps p.tables e below (T101.setTop (mkF m 175 #[.val (.long q0), .second, .val (.long q1), .second, .val (.int p2), .val (.int p3), .val (.int p4), .val (.int p5), .val (.ref b1), .val (.ref b5), .val .null, .val (.ref b30), .val (.int (0 : Int32)), .val .null, .val (.long q0), .second, .val (.long q1), .second, .val (.int p2)] [(.int p4)])) _
        refine XS.iload X101.here hx rfl (hb hby at_175) rfl ?_
        show Steps p.tables e below (T101.setTop (mkF m 177 #[.val (.long q0), .second, .val (.long q1), .second, .val (.int p2), .val (.int p3), .val (.int p4), .val (.int p5), .val (.ref b1), .val (.ref b5), .val .null, .val (.ref b30), .val (.int (0 : Int32)), .val .null, .val (.long q0), .second, .val (.long q1), .second, .val (.int p2)] [(.int p4), (.int p4)])) _
        refine XS.icmpNo X101.here hx rfl (hb hby at_177) rfl (teq (rfl : p4 = p4)).2 ?_
        show Steps p.tables e below (T101.setTop (mkF m 180 #[.val (.long q0), .second, .val (.long q1), .second, .val (.int p2), .val (.int p3), .val (.int p4), .val (.int p5), .val (.ref b1), .val (.ref b5), .val .null, .val (.ref b30), .val (.int (0 : Int32)), .val .null, .val (.long q0), .second, .val (.long q1), .second, .val (.int p2)] [])) _
        refine XS.aload X101.here hx rfl (hb hby at_180) rfl rfl ?_
        show Steps p.tables e below (T101.setTop (mkF m 182 #[.val (.long q0), .second, .val (.long q1), .second, .val (.int p2), .val (.int p3), .val (.int p4), .val (.int p5), .val (.ref b1), .val (.ref b5), .val .null, .val (.ref b30), .val (.int (0 : Int32)), .val .null, .val (.long q0), .second, .val (.long q1), .second, .val (.int p2)] [(.ref b5)])) _
        refine st106.trans ?_
        show Steps p.tables e below (T106.setTop (mkF m 185 #[.val (.long q0), .second, .val (.long q1), .second, .val (.int p2), .val (.int p3), .val (.int p4), .val (.int p5), .val (.ref b1), .val (.ref b5), .val .null, .val (.ref b30), .val (.int (0 : Int32)), .val .null, .val (.long q0), .second, .val (.long q1), .second, .val (.int p2)] [(.ref b1)])) _
        refine XS.aload X106.here hx rfl (hb hby at_185) rfl rfl ?_
        show Steps p.tables e below (T106.setTop (mkF m 187 #[.val (.long q0), .second, .val (.long q1), .second, .val (.int p2), .val (.int p3), .val (.int p4), .val (.int p5), .val (.ref b1), .val (.ref b5), .val .null, .val (.ref b30), .val (.int (0 : Int32)), .val .null, .val (.long q0), .second, .val (.long q1), .second, .val (.int p2)] [(.ref b1), (.ref b1)])) _
        refine Jvm.RoadKit.acmp (g := (mkF m 187 #[.val (.long q0), .second, .val (.long q1), .second, .val (.int p2), .val (.int p3), .val (.int p4), .val (.int p5), .val (.ref b1), .val (.ref b5), .val .null, .val (.ref b30), .val (.int (0 : Int32)), .val .null, .val (.long q0), .second, .val (.long q1), .second, .val (.int p2)] [(.ref b1), (.ref b1)])) X106 hx rfl rfl rfl (pc0 := 187) (pc' := 190) (same := true) rfl (hb hby at_187) rfl (decide_eq_true rfl) (by decide) (by decide) ?_
        show Steps p.tables e below (T106.setTop (mkF m 190 #[.val (.long q0), .second, .val (.long q1), .second, .val (.int p2), .val (.int p3), .val (.int p4), .val (.int p5), .val (.ref b1), .val (.ref b5), .val .null, .val (.ref b30), .val (.int (0 : Int32)), .val .null, .val (.long q0), .second, .val (.long q1), .second, .val (.int p2)] [])) _
        refine XS.iconst X106.here hx rfl (hb hby at_190) ?_
        show Steps p.tables e below (T106.setTop (mkF m 191 #[.val (.long q0), .second, .val (.long q1), .second, .val (.int p2), .val (.int p3), .val (.int p4), .val (.int p5), .val (.ref b1), .val (.ref b5), .val .null, .val (.ref b30), .val (.int (0 : Int32)), .val .null, .val (.long q0), .second, .val (.long q1), .second, .val (.int p2)] [(.int (1 : Int32))])) _
        refine XS.goto X106.here hx rfl (pc0 := 191) (pc' := 195) rfl (hb hby at_191) (by decide) (by decide) ?_
        exact kt
      obtain ⟨fs, hr, hrun, hended, hW, hsame⟩ := X106.leave (v := some (.int (1 : Int32))) (fun h => by rw [Bd.returns] at h; cases h)
      refine ⟨_, _, pre110 _ ?_, hrun, hended, _, _, rfl, ?_, ⟨_, rfl⟩, hW, hsame.mono (by decide) (by decide)⟩
      · show Steps p.tables e below (T106.setTop (mkF m 195 #[.val (.long q0), .second, .val (.long q1), .second, .val (.int p2), .val (.int p3), .val (.int p4), .val (.int p5), .val (.ref b1), .val (.ref b5), .val .null, .val (.ref b30), .val (.int (0 : Int32)), .val .null, .val (.long q0), .second, .val (.long q1), .second, .val (.int p2)] [(.int (1 : Int32))])) _
        exact retN X106 hx (t := .boolean) Bd.returns (by simp) (hb hby at_195) hr
      · show own_Q_law Z q0 q1 p2 p3 p4 p5 aS h0 n0 (some (.int (1 : Int32))) T106.heap _
        rw [eq108]
        exact ⟨rfl, nf109⟩
    · have zs111 : n0 ≤ T46.heap.size := Nat.le_trans Z0 k60.1
      obtain ⟨cq113, kq113, q113a, q113b, q113c⟩ := isOf hZ rfl f51
      obtain ⟨_, _, ⟨T112, L112, k112, n112⟩, -, X112, ⟨Lc112, hQ112, l112, y112, z112⟩, st112⟩ := X46.virtualBack hx (y := (⟨"com/example/interleave/interleave/check/Expansion", "tookIn", "(Ljava/util/List;JJI)V"⟩ : MethodName)) (z := (⟨"com/example/interleave/interleave/check/Expansion", "tookIn", "(Ljava/util/List;JJI)V"⟩ : MethodName)) hown (mvT hZ (hw _ (List.mem_of_getElem? (i := 46) rfl))) (mvT hZ (hw _ (List.mem_of_getElem? (i := 47) rfl))) (notFace_of_selects (args := #[]) (mvT hZ (hw _ (List.mem_of_getElem? (i := 49) rfl)))) (mvT hZ (hw _ (List.mem_of_getElem? (i := 49) rfl))) (mvT hZ (hw _ (List.mem_of_getElem? (i := 48) rfl))) (by decide) (backOf (W := 0) (own_rm_tkN l Z a0 hw [] b5 q0 q1 p2 .null (.long (0 : Int64)) (.long (0 : Int64)) (.int (0 : Int32)) p3 p4 b1 T46.heap n0 zs111 f51 f55 f56 f57 f58 f52 f53 f54 gn_b5) hZ (hw _ (List.mem_of_getElem? (i := 50) rfl)) (hw _ (List.mem_of_getElem? (i := 3) rfl)) (by decide) (by decide)) q113a q113c (g := (mkF m 71 #[.val (.long q0), .second, .val (.long q1), .second, .val (.int p2), .val (.int p3), .val (.int p4), .val (.int p5), .val (.ref b1), .val (.ref b5), .val .null, .val (.ref b30), .val (.int (1 : Int32)), .unset, .unset, .unset, .unset, .unset, .unset] [(.int p2), (.long q1), (.long q0), .null, (.ref b5)])) rfl (by rw [hml]; rfl) (Steps.refl _) (argsL := [.null, (.long q0), (.long q1), (.int p2)]) (rest := []) (lenOf own_pd2 rfl) rfl (by show 2 * 0 + _ ≤ _; exact Nat.le_of_eq rfl) (hb hby at_71) (fun _ _ => ⟨rfl, rfl, (by decide : 5 + 0 ≤ _), (by decide : 31 + 0 ≤ _)⟩)
      dsimp only [Pt.U, Pt.locs, Pt.cells, Pt.slots] at X112 l112 y112 z112 st112 hQ112
      subst l112 y112 z112
      obtain ⟨rfl, N114, K114, c114_0, c114_1, c114_2, c114_3, c114_4, c114_5, c114_6⟩ := hQ112
      have f115 := own_sta_keep f48 K114 (own_pl_cons f51 all0)
      have f116 := f49.keep K114
      have f117 := f50.keep K114 (ninS ne_b1_b5 nin0)
      have f118 := f51.keep K114
      have f119 := f59.keep K114
      have k120 := k60.trans K114 (allS (Or.inr sz_b5) all0)
      have nf121 := Fr.app nf61 N114
      have zs122 : n0 ≤ T112.heap.size := Nat.le_trans Z0 k120.1
      obtain ⟨cq124, kq124, q124a, q124b, q124c⟩ := isOf hZ rfl f118
      obtain ⟨_, _, ⟨T123, L123, k123, n123⟩, -, X123, ⟨Lc123, hQ123, l123, y123, z123⟩, st123⟩ := X112.virtualBack hx (y := (⟨"com/example/interleave/interleave/check/Expansion", "tookIn", "(Ljava/util/List;JJI)V"⟩ : MethodName)) (z := (⟨"com/example/interleave/interleave/check/Expansion", "tookIn", "(Ljava/util/List;JJI)V"⟩ : MethodName)) hown (mvT hZ (hw _ (List.mem_of_getElem? (i := 46) rfl))) (mvT hZ (hw _ (List.mem_of_getElem? (i := 47) rfl))) (notFace_of_selects (args := #[]) (mvT hZ (hw _ (List.mem_of_getElem? (i := 49) rfl)))) (mvT hZ (hw _ (List.mem_of_getElem? (i := 49) rfl))) (mvT hZ (hw _ (List.mem_of_getElem? (i := 48) rfl))) (by decide) (backOf (W := 0) (own_rm_tkR l Z a0 hw [] b5 b30 q1 q0 p4 .null (.long q0) (.long q1) (.int p2) p3 p4 b1 T112.heap n0 zs122 f118 c114_0 c114_1 c114_2 c114_3 c114_4 c114_5 c114_6 gn_b5) hZ (hw _ (List.mem_of_getElem? (i := 50) rfl)) (hw _ (List.mem_of_getElem? (i := 3) rfl)) (by decide) (by decide)) q124a q124c (g := (mkF m 101 #[.val (.long q0), .second, .val (.long q1), .second, .val (.int p2), .val (.int p3), .val (.int p4), .val (.int p5), .val (.ref b1), .val (.ref b5), .val .null, .val (.ref b30), .val (.int (1 : Int32)), .val .null, .val (.long q0), .second, .val (.long q1), .second, .val (.int p2)] [(.int p4), (.long q0), (.long q1), (.ref b30), (.ref b5)])) rfl (by rw [hml]; rfl) (Steps.refl _) (argsL := [(.ref b30), (.long q1), (.long q0), (.int p4)]) (rest := []) (lenOf own_pd2 rfl) rfl (by show 2 * 0 + _ ≤ _; exact Nat.le_of_eq rfl) (hb hby at_101) (fun _ _ => ⟨rfl, rfl, (by decide : 5 + 0 ≤ _), (by decide : 31 + 0 ≤ _)⟩)
      dsimp only [Pt.U, Pt.locs, Pt.cells, Pt.slots] at X123 l123 y123 z123 st123 hQ123
      subst l123 y123 z123
      obtain ⟨rfl, N125, K125, c125_0, c125_1, c125_2, c125_3, c125_4, c125_5, c125_6⟩ := hQ123
      have f126 := own_sta_keep f115 K125 (own_pl_cons f118 all0)
      have f127 := f116.keep K125
      have f128 := f117.keep K125 (ninS ne_b1_b5 nin0)
      have f129 := f118.keep K125
      have f130 := f119.keep K125
      have k131 := k120.trans K125 (allS (Or.inr sz_b5) all0)
      have nf132 := Fr.app nf121 N125
      have zs133 : n0 ≤ T123.heap.size := Nat.le_trans Z0 k131.1
      obtain ⟨cq135, kq135, q135a, q135b, q135c⟩ := isOf hZ rfl f129
      obtain ⟨_, _, ⟨T134, L134, k134, n134⟩, -, X134, ⟨Lc134, hQ134, l134, y134, z134⟩, st134⟩ := X123.virtualBack hx (y := (⟨"com/example/interleave/interleave/check/Expansion", "fresh", "()Ljava/util/List;"⟩ : MethodName)) (z := (⟨"com/example/interleave/interleave/check/Expansion", "fresh", "()Ljava/util/List;"⟩ : MethodName)) hown (mvT hZ (hw _ (List.mem_of_getElem? (i := 59) rfl))) (mvT hZ (hw _ (List.mem_of_getElem? (i := 60) rfl))) (notFace_of_selects (args := #[]) (mvT hZ (hw _ (List.mem_of_getElem? (i := 62) rfl)))) (mvT hZ (hw _ (List.mem_of_getElem? (i := 62) rfl))) (mvT hZ (hw _ (List.mem_of_getElem? (i := 61) rfl))) (by decide) (backOf (W := 0) (own_rm_gfR l Z a0 hw [] b5 b30 T123.heap n0 zs133 c125_0) hZ (hw _ (List.mem_of_getElem? (i := 63) rfl)) (hw _ (List.mem_of_getElem? (i := 3) rfl)) (by decide) (by decide)) q135a q135c (g := (mkF m 120 #[.val (.long q0), .second, .val (.long q1), .second, .val (.int p2), .val (.int p3), .val (.int p4), .val (.int p5), .val (.ref b1), .val (.ref b5), .val .null, .val (.ref b30), .val (.int (1 : Int32)), .val (.ref b30), .val (.long q1), .second, .val (.long q0), .second, .val (.int p4)] [(.ref b5)])) rfl (by rw [hml]; rfl) (Steps.refl _) (argsL := []) (rest := []) (lenOf own_pd3 rfl) rfl (by show 2 * 0 + _ ≤ _; exact Nat.le_of_eq rfl) (hb hby at_120) (fun _ _ => ⟨rfl, rfl, (by decide : 5 + 0 ≤ _), (by decide : 31 + 0 ≤ _)⟩)
      dsimp only [Pt.U, Pt.locs, Pt.cells, Pt.slots] at X134 l134 y134 z134 st134 hQ134
      subst l134 y134 z134
      obtain ⟨rfl, N136, eq136⟩ := hQ134
      have nf137 := Fr.app nf132 N136
      have zs138 : n0 ≤ T123.heap.size := Nat.le_trans Z0 k131.1
      obtain ⟨cq140, kq140, q140a, q140b, q140c⟩ := isOf hZ eq136 f129
      obtain ⟨_, _, ⟨T139, L139, k139, n139⟩, -, X139, ⟨Lc139, hQ139, l139, y139, z139⟩, st139⟩ := X134.virtualBack hx (y := (⟨"com/example/interleave/interleave/check/Expansion", "generated", "()J"⟩ : MethodName)) (z := (⟨"com/example/interleave/interleave/check/Expansion", "generated", "()J"⟩ : MethodName)) hown (mvT hZ (hw _ (List.mem_of_getElem? (i := 64) rfl))) (mvT hZ (hw _ (List.mem_of_getElem? (i := 65) rfl))) (notFace_of_selects (args := #[]) (mvT hZ (hw _ (List.mem_of_getElem? (i := 67) rfl)))) (mvT hZ (hw _ (List.mem_of_getElem? (i := 67) rfl))) (mvT hZ (hw _ (List.mem_of_getElem? (i := 66) rfl))) (by decide) (backOf (W := 0) (own_rm_ggn l Z a0 hw [] b5 q1 T123.heap n0 zs138 c125_1) hZ (hw _ (List.mem_of_getElem? (i := 68) rfl)) (hw _ (List.mem_of_getElem? (i := 3) rfl)) (by decide) (by decide)) q140a q140c (g := (mkF m 130 #[.val (.long q0), .second, .val (.long q1), .second, .val (.int p2), .val (.int p3), .val (.int p4), .val (.int p5), .val (.ref b1), .val (.ref b5), .val .null, .val (.ref b30), .val (.int (1 : Int32)), .val (.ref b30), .val (.long q1), .second, .val (.long q0), .second, .val (.int p4)] [(.ref b5)])) rfl (by rw [hml]; rfl) (Steps.refl _) (argsL := []) (rest := []) (lenOf own_pd4 rfl) rfl (by show 2 * 0 + _ ≤ _; exact Nat.le_of_eq rfl) (hb hby at_130) (fun _ _ => ⟨rfl, eq136, (by decide : 5 + 0 ≤ _), (by decide : 31 + 0 ≤ _)⟩)
      dsimp only [Pt.U, Pt.locs, Pt.cells, Pt.slots] at X139 l139 y139 z139 st139 hQ139
      subst l139 y139 z139
      obtain ⟨rfl, N141, eq141⟩ := hQ139
      have nf142 := Fr.app nf137 N141
      have zs143 : n0 ≤ T123.heap.size := Nat.le_trans Z0 k131.1
      obtain ⟨cq145, kq145, q145a, q145b, q145c⟩ := isOf hZ eq141 f129
      obtain ⟨_, _, ⟨T144, L144, k144, n144⟩, -, X144, ⟨Lc144, hQ144, l144, y144, z144⟩, st144⟩ := X139.virtualBack hx (y := (⟨"com/example/interleave/interleave/check/Expansion", "distinct", "()J"⟩ : MethodName)) (z := (⟨"com/example/interleave/interleave/check/Expansion", "distinct", "()J"⟩ : MethodName)) hown (mvT hZ (hw _ (List.mem_of_getElem? (i := 69) rfl))) (mvT hZ (hw _ (List.mem_of_getElem? (i := 70) rfl))) (notFace_of_selects (args := #[]) (mvT hZ (hw _ (List.mem_of_getElem? (i := 72) rfl)))) (mvT hZ (hw _ (List.mem_of_getElem? (i := 72) rfl))) (mvT hZ (hw _ (List.mem_of_getElem? (i := 71) rfl))) (by decide) (backOf (W := 0) (own_rm_gdi l Z a0 hw [] b5 q0 T123.heap n0 zs143 c125_2) hZ (hw _ (List.mem_of_getElem? (i := 73) rfl)) (hw _ (List.mem_of_getElem? (i := 3) rfl)) (by decide) (by decide)) q145a q145c (g := (mkF m 141 #[.val (.long q0), .second, .val (.long q1), .second, .val (.int p2), .val (.int p3), .val (.int p4), .val (.int p5), .val (.ref b1), .val (.ref b5), .val .null, .val (.ref b30), .val (.int (1 : Int32)), .val (.ref b30), .val (.long q1), .second, .val (.long q0), .second, .val (.int p4)] [(.ref b5)])) rfl (by rw [hml]; rfl) (Steps.refl _) (argsL := []) (rest := []) (lenOf own_pd4 rfl) rfl (by show 2 * 0 + _ ≤ _; exact Nat.le_of_eq rfl) (hb hby at_141) (fun _ _ => ⟨rfl, eq141, (by decide : 5 + 0 ≤ _), (by decide : 31 + 0 ≤ _)⟩)
      dsimp only [Pt.U, Pt.locs, Pt.cells, Pt.slots] at X144 l144 y144 z144 st144 hQ144
      subst l144 y144 z144
      obtain ⟨rfl, N146, eq146⟩ := hQ144
      have nf147 := Fr.app nf142 N146
      have zs148 : n0 ≤ T123.heap.size := Nat.le_trans Z0 k131.1
      obtain ⟨cq150, kq150, q150a, q150b, q150c⟩ := isOf hZ eq146 f129
      obtain ⟨_, _, ⟨T149, L149, k149, n149⟩, -, X149, ⟨Lc149, hQ149, l149, y149, z149⟩, st149⟩ := X144.virtualBack hx (y := (⟨"com/example/interleave/interleave/check/Expansion", "depth", "()I"⟩ : MethodName)) (z := (⟨"com/example/interleave/interleave/check/Expansion", "depth", "()I"⟩ : MethodName)) hown (mvT hZ (hw _ (List.mem_of_getElem? (i := 74) rfl))) (mvT hZ (hw _ (List.mem_of_getElem? (i := 75) rfl))) (notFace_of_selects (args := #[]) (mvT hZ (hw _ (List.mem_of_getElem? (i := 77) rfl)))) (mvT hZ (hw _ (List.mem_of_getElem? (i := 77) rfl))) (mvT hZ (hw _ (List.mem_of_getElem? (i := 76) rfl))) (by decide) (backOf (W := 0) (own_rm_gde l Z a0 hw [] b5 p4 T123.heap n0 zs148 c125_3) hZ (hw _ (List.mem_of_getElem? (i := 78) rfl)) (hw _ (List.mem_of_getElem? (i := 3) rfl)) (by decide) (by decide)) q150a q150c (g := (mkF m 152 #[.val (.long q0), .second, .val (.long q1), .second, .val (.int p2), .val (.int p3), .val (.int p4), .val (.int p5), .val (.ref b1), .val (.ref b5), .val .null, .val (.ref b30), .val (.int (1 : Int32)), .val (.ref b30), .val (.long q1), .second, .val (.long q0), .second, .val (.int p4)] [(.ref b5)])) rfl (by rw [hml]; rfl) (Steps.refl _) (argsL := []) (rest := []) (lenOf own_pd5 rfl) rfl (by show 2 * 0 + _ ≤ _; exact Nat.le_of_eq rfl) (hb hby at_152) (fun _ _ => ⟨rfl, eq146, (by decide : 5 + 0 ≤ _), (by decide : 31 + 0 ≤ _)⟩)
      dsimp only [Pt.U, Pt.locs, Pt.cells, Pt.slots] at X149 l149 y149 z149 st149 hQ149
      subst l149 y149 z149
      obtain ⟨rfl, N151, eq151⟩ := hQ149
      have nf152 := Fr.app nf147 N151
      have zs153 : n0 ≤ T123.heap.size := Nat.le_trans Z0 k131.1
      obtain ⟨cq155, kq155, q155a, q155b, q155c⟩ := isOf hZ eq151 f129
      obtain ⟨_, _, ⟨T154, L154, k154, n154⟩, -, X154, ⟨Lc154, hQ154, l154, y154, z154⟩, st154⟩ := X149.virtualBack hx (y := (⟨"com/example/interleave/interleave/check/Expansion", "sourceId", "()I"⟩ : MethodName)) (z := (⟨"com/example/interleave/interleave/check/Expansion", "sourceId", "()I"⟩ : MethodName)) hown (mvT hZ (hw _ (List.mem_of_getElem? (i := 79) rfl))) (mvT hZ (hw _ (List.mem_of_getElem? (i := 80) rfl))) (notFace_of_selects (args := #[]) (mvT hZ (hw _ (List.mem_of_getElem? (i := 82) rfl)))) (mvT hZ (hw _ (List.mem_of_getElem? (i := 82) rfl))) (mvT hZ (hw _ (List.mem_of_getElem? (i := 81) rfl))) (by decide) (backOf (W := 0) (own_rm_gsi l Z a0 hw [] b5 p3 T123.heap n0 zs153 c125_4) hZ (hw _ (List.mem_of_getElem? (i := 83) rfl)) (hw _ (List.mem_of_getElem? (i := 3) rfl)) (by decide) (by decide)) q155a q155c (g := (mkF m 162 #[.val (.long q0), .second, .val (.long q1), .second, .val (.int p2), .val (.int p3), .val (.int p4), .val (.int p5), .val (.ref b1), .val (.ref b5), .val .null, .val (.ref b30), .val (.int (1 : Int32)), .val (.ref b30), .val (.long q1), .second, .val (.long q0), .second, .val (.int p4)] [(.ref b5)])) rfl (by rw [hml]; rfl) (Steps.refl _) (argsL := []) (rest := []) (lenOf own_pd5 rfl) rfl (by show 2 * 0 + _ ≤ _; exact Nat.le_of_eq rfl) (hb hby at_162) (fun _ _ => ⟨rfl, eq151, (by decide : 5 + 0 ≤ _), (by decide : 31 + 0 ≤ _)⟩)
      dsimp only [Pt.U, Pt.locs, Pt.cells, Pt.slots] at X154 l154 y154 z154 st154 hQ154
      subst l154 y154 z154
      obtain ⟨rfl, N156, eq156⟩ := hQ154
      have nf157 := Fr.app nf152 N156
      have zs158 : n0 ≤ T123.heap.size := Nat.le_trans Z0 k131.1
      obtain ⟨cq160, kq160, q160a, q160b, q160c⟩ := isOf hZ eq156 f129
      obtain ⟨_, _, ⟨T159, L159, k159, n159⟩, -, X159, ⟨Lc159, hQ159, l159, y159, z159⟩, st159⟩ := X154.virtualBack hx (y := (⟨"com/example/interleave/interleave/check/Expansion", "sourceParent", "()I"⟩ : MethodName)) (z := (⟨"com/example/interleave/interleave/check/Expansion", "sourceParent", "()I"⟩ : MethodName)) hown (mvT hZ (hw _ (List.mem_of_getElem? (i := 84) rfl))) (mvT hZ (hw _ (List.mem_of_getElem? (i := 85) rfl))) (notFace_of_selects (args := #[]) (mvT hZ (hw _ (List.mem_of_getElem? (i := 87) rfl)))) (mvT hZ (hw _ (List.mem_of_getElem? (i := 87) rfl))) (mvT hZ (hw _ (List.mem_of_getElem? (i := 86) rfl))) (by decide) (backOf (W := 0) (own_rm_gsp l Z a0 hw [] b5 p4 T123.heap n0 zs158 c125_5) hZ (hw _ (List.mem_of_getElem? (i := 88) rfl)) (hw _ (List.mem_of_getElem? (i := 3) rfl)) (by decide) (by decide)) q160a q160c (g := (mkF m 172 #[.val (.long q0), .second, .val (.long q1), .second, .val (.int p2), .val (.int p3), .val (.int p4), .val (.int p5), .val (.ref b1), .val (.ref b5), .val .null, .val (.ref b30), .val (.int (1 : Int32)), .val (.ref b30), .val (.long q1), .second, .val (.long q0), .second, .val (.int p4)] [(.ref b5)])) rfl (by rw [hml]; rfl) (Steps.refl _) (argsL := []) (rest := []) (lenOf own_pd5 rfl) rfl (by show 2 * 0 + _ ≤ _; exact Nat.le_of_eq rfl) (hb hby at_172) (fun _ _ => ⟨rfl, eq156, (by decide : 5 + 0 ≤ _), (by decide : 31 + 0 ≤ _)⟩)
      dsimp only [Pt.U, Pt.locs, Pt.cells, Pt.slots] at X159 l159 y159 z159 st159 hQ159
      subst l159 y159 z159
      obtain ⟨rfl, N161, eq161⟩ := hQ159
      have nf162 := Fr.app nf157 N161
      have zs163 : n0 ≤ T123.heap.size := Nat.le_trans Z0 k131.1
      obtain ⟨cq165, kq165, q165a, q165b, q165c⟩ := isOf hZ eq161 f129
      obtain ⟨_, _, ⟨T164, L164, k164, n164⟩, -, X164, ⟨Lc164, hQ164, l164, y164, z164⟩, st164⟩ := X159.virtualBack hx (y := (⟨"com/example/interleave/interleave/check/Expansion", "sourceBytes", "()[B"⟩ : MethodName)) (z := (⟨"com/example/interleave/interleave/check/Expansion", "sourceBytes", "()[B"⟩ : MethodName)) hown (mvT hZ (hw _ (List.mem_of_getElem? (i := 89) rfl))) (mvT hZ (hw _ (List.mem_of_getElem? (i := 90) rfl))) (notFace_of_selects (args := #[]) (mvT hZ (hw _ (List.mem_of_getElem? (i := 92) rfl)))) (mvT hZ (hw _ (List.mem_of_getElem? (i := 92) rfl))) (mvT hZ (hw _ (List.mem_of_getElem? (i := 91) rfl))) (by decide) (backOf (W := 0) (own_rm_gsb l Z a0 hw [] b5 b1 T123.heap n0 zs163 c125_6) hZ (hw _ (List.mem_of_getElem? (i := 93) rfl)) (hw _ (List.mem_of_getElem? (i := 3) rfl)) (by decide) (by decide)) q165a q165c (g := (mkF m 182 #[.val (.long q0), .second, .val (.long q1), .second, .val (.int p2), .val (.int p3), .val (.int p4), .val (.int p5), .val (.ref b1), .val (.ref b5), .val .null, .val (.ref b30), .val (.int (1 : Int32)), .val (.ref b30), .val (.long q1), .second, .val (.long q0), .second, .val (.int p4)] [(.ref b5)])) rfl (by rw [hml]; rfl) (Steps.refl _) (argsL := []) (rest := []) (lenOf own_pd6 rfl) rfl (by show 2 * 0 + _ ≤ _; exact Nat.le_of_eq rfl) (hb hby at_182) (fun _ _ => ⟨rfl, eq161, (by decide : 5 + 0 ≤ _), (by decide : 31 + 0 ≤ _)⟩)
      dsimp only [Pt.U, Pt.locs, Pt.cells, Pt.slots] at X164 l164 y164 z164 st164 hQ164
      subst l164 y164 z164
      obtain ⟨rfl, N166, eq166⟩ := hQ164
      have nf167 := Fr.app nf162 N166
      have pre168 : ∀ t, Steps p.tables e below (T164.setTop (mkF m 195 #[.val (.long q0), .second, .val (.long q1), .second, .val (.int p2), .val (.int p3), .val (.int p4), .val (.int p5), .val (.ref b1), .val (.ref b5), .val .null, .val (.ref b30), .val (.int (1 : Int32)), .val (.ref b30), .val (.long q1), .second, .val (.long q0), .second, .val (.int p4)] [(.int (1 : Int32))])) t → Steps p.tables e below (s₁.setTop (entryFrame m #[(.long q0), (.long q1), (.int p2), (.int p3), (.int p4), (.int p5)] maxLocals)) t := by
        intro t kt
        refine pre62 t ?_
        show Steps p.tables e below (T46.setTop (mkF m 53 #[.val (.long q0), .second, .val (.long q1), .second, .val (.int p2), .val (.int p3), .val (.int p4), .val (.int p5), .val (.ref b1), .val (.ref b5), .val .null, .val (.ref b30), .unset, .unset, .unset, .unset, .unset, .unset, .unset] [(.int (p5 &&& (2 : Int32)))])) _
        refine XS.ifNo X46.here hx rfl (hb hby at_53) rfl ((if0 _ _).trans (feq hc63).1) ?_
        show Steps p.tables e below (T46.setTop (mkF m 56 #[.val (.long q0), .second, .val (.long q1), .second, .val (.int p2), .val (.int p3), .val (.int p4), .val (.int p5), .val (.ref b1), .val (.ref b5), .val .null, .val (.ref b30), .unset, .unset, .unset, .unset, .unset, .unset, .unset] [])) _
        refine XS.iconst X46.here hx rfl (hb hby at_56) ?_
        show Steps p.tables e below (T46.setTop (mkF m 57 #[.val (.long q0), .second, .val (.long q1), .second, .val (.int p2), .val (.int p3), .val (.int p4), .val (.int p5), .val (.ref b1), .val (.ref b5), .val .null, .val (.ref b30), .unset, .unset, .unset, .unset, .unset, .unset, .unset] [(.int (1 : Int32))])) _
        refine XS.goto X46.here hx rfl (pc0 := 57) (pc' := 61) rfl (hb hby at_57) (by decide) (by decide) ?_
        show Steps p.tables e below (T46.setTop (mkF m 61 #[.val (.long q0), .second, .val (.long q1), .second, .val (.int p2), .val (.int p3), .val (.int p4), .val (.int p5), .val (.ref b1), .val (.ref b5), .val .null, .val (.ref b30), .unset, .unset, .unset, .unset, .unset, .unset, .unset] [(.int (1 : Int32))])) _
        refine XS.istore X46.here hx rfl (hb hby at_61) rfl (l' := #[.val (.long q0), .second, .val (.long q1), .second, .val (.int p2), .val (.int p3), .val (.int p4), .val (.int p5), .val (.ref b1), .val (.ref b5), .val .null, .val (.ref b30), .val (.int (1 : Int32)), .unset, .unset, .unset, .unset, .unset, .unset]) rfl ?_
        show Steps p.tables e below (T46.setTop (mkF m 63 #[.val (.long q0), .second, .val (.long q1), .second, .val (.int p2), .val (.int p3), .val (.int p4), .val (.int p5), .val (.ref b1), .val (.ref b5), .val .null, .val (.ref b30), .val (.int (1 : Int32)), .unset, .unset, .unset, .unset, .unset, .unset] [])) _
        refine XS.aload X46.here hx rfl (hb hby at_63) rfl rfl ?_
        show Steps p.tables e below (T46.setTop (mkF m 65 #[.val (.long q0), .second, .val (.long q1), .second, .val (.int p2), .val (.int p3), .val (.int p4), .val (.int p5), .val (.ref b1), .val (.ref b5), .val .null, .val (.ref b30), .val (.int (1 : Int32)), .unset, .unset, .unset, .unset, .unset, .unset] [(.ref b5)])) _
        refine XS.aload X46.here hx rfl (hb hby at_65) rfl rfl ?_
        show Steps p.tables e below (T46.setTop (mkF m 67 #[.val (.long q0), .second, .val (.long q1), .second, .val (.int p2), .val (.int p3), .val (.int p4), .val (.int p5), .val (.ref b1), .val (.ref b5), .val .null, .val (.ref b30), .val (.int (1 : Int32)), .unset, .unset, .unset, .unset, .unset, .unset] [.null, (.ref b5)])) _
        refine XS.lloadN X46.here hx rfl (hb hby at_67) rfl ?_
        show Steps p.tables e below (T46.setTop (mkF m 68 #[.val (.long q0), .second, .val (.long q1), .second, .val (.int p2), .val (.int p3), .val (.int p4), .val (.int p5), .val (.ref b1), .val (.ref b5), .val .null, .val (.ref b30), .val (.int (1 : Int32)), .unset, .unset, .unset, .unset, .unset, .unset] [(.long q0), .null, (.ref b5)])) _
        refine XS.lloadN X46.here hx rfl (hb hby at_68) rfl ?_
        show Steps p.tables e below (T46.setTop (mkF m 69 #[.val (.long q0), .second, .val (.long q1), .second, .val (.int p2), .val (.int p3), .val (.int p4), .val (.int p5), .val (.ref b1), .val (.ref b5), .val .null, .val (.ref b30), .val (.int (1 : Int32)), .unset, .unset, .unset, .unset, .unset, .unset] [(.long q1), (.long q0), .null, (.ref b5)])) _
        refine XS.iload X46.here hx rfl (hb hby at_69) rfl ?_
        show Steps p.tables e below (T46.setTop (mkF m 71 #[.val (.long q0), .second, .val (.long q1), .second, .val (.int p2), .val (.int p3), .val (.int p4), .val (.int p5), .val (.ref b1), .val (.ref b5), .val .null, .val (.ref b30), .val (.int (1 : Int32)), .unset, .unset, .unset, .unset, .unset, .unset] [(.int p2), (.long q1), (.long q0), .null, (.ref b5)])) _
        refine st112.trans ?_
        show Steps p.tables e below (T112.setTop (mkF m 74 #[.val (.long q0), .second, .val (.long q1), .second, .val (.int p2), .val (.int p3), .val (.int p4), .val (.int p5), .val (.ref b1), .val (.ref b5), .val .null, .val (.ref b30), .val (.int (1 : Int32)), .unset, .unset, .unset, .unset, .unset, .unset] [])) _
        refine XS.aload X112.here hx rfl (hb hby at_74) rfl rfl ?_
        show Steps p.tables e below (T112.setTop (mkF m 76 #[.val (.long q0), .second, .val (.long q1), .second, .val (.int p2), .val (.int p3), .val (.int p4), .val (.int p5), .val (.ref b1), .val (.ref b5), .val .null, .val (.ref b30), .val (.int (1 : Int32)), .unset, .unset, .unset, .unset, .unset, .unset] [.null])) _
        refine XS.astore X112.here hx rfl (hb hby at_76) rfl rfl (l' := #[.val (.long q0), .second, .val (.long q1), .second, .val (.int p2), .val (.int p3), .val (.int p4), .val (.int p5), .val (.ref b1), .val (.ref b5), .val .null, .val (.ref b30), .val (.int (1 : Int32)), .val .null, .unset, .unset, .unset, .unset, .unset]) rfl ?_
        show Steps p.tables e below (T112.setTop (mkF m 78 #[.val (.long q0), .second, .val (.long q1), .second, .val (.int p2), .val (.int p3), .val (.int p4), .val (.int p5), .val (.ref b1), .val (.ref b5), .val .null, .val (.ref b30), .val (.int (1 : Int32)), .val .null, .unset, .unset, .unset, .unset, .unset] [])) _
        refine XS.lloadN X112.here hx rfl (hb hby at_78) rfl ?_
        show Steps p.tables e below (T112.setTop (mkF m 79 #[.val (.long q0), .second, .val (.long q1), .second, .val (.int p2), .val (.int p3), .val (.int p4), .val (.int p5), .val (.ref b1), .val (.ref b5), .val .null, .val (.ref b30), .val (.int (1 : Int32)), .val .null, .unset, .unset, .unset, .unset, .unset] [(.long q0)])) _
        refine XS.lstore X112.here hx rfl (hb hby at_79) rfl (l' := #[.val (.long q0), .second, .val (.long q1), .second, .val (.int p2), .val (.int p3), .val (.int p4), .val (.int p5), .val (.ref b1), .val (.ref b5), .val .null, .val (.ref b30), .val (.int (1 : Int32)), .val .null, .val (.long q0), .second, .unset, .unset, .unset]) rfl ?_
        show Steps p.tables e below (T112.setTop (mkF m 81 #[.val (.long q0), .second, .val (.long q1), .second, .val (.int p2), .val (.int p3), .val (.int p4), .val (.int p5), .val (.ref b1), .val (.ref b5), .val .null, .val (.ref b30), .val (.int (1 : Int32)), .val .null, .val (.long q0), .second, .unset, .unset, .unset] [])) _
        refine XS.lloadN X112.here hx rfl (hb hby at_81) rfl ?_
        show Steps p.tables e below (T112.setTop (mkF m 82 #[.val (.long q0), .second, .val (.long q1), .second, .val (.int p2), .val (.int p3), .val (.int p4), .val (.int p5), .val (.ref b1), .val (.ref b5), .val .null, .val (.ref b30), .val (.int (1 : Int32)), .val .null, .val (.long q0), .second, .unset, .unset, .unset] [(.long q1)])) _
        refine XS.lstore X112.here hx rfl (hb hby at_82) rfl (l' := #[.val (.long q0), .second, .val (.long q1), .second, .val (.int p2), .val (.int p3), .val (.int p4), .val (.int p5), .val (.ref b1), .val (.ref b5), .val .null, .val (.ref b30), .val (.int (1 : Int32)), .val .null, .val (.long q0), .second, .val (.long q1), .second, .unset]) rfl ?_
        show Steps p.tables e below (T112.setTop (mkF m 84 #[.val (.long q0), .second, .val (.long q1), .second, .val (.int p2), .val (.int p3), .val (.int p4), .val (.int p5), .val (.ref b1), .val (.ref b5), .val .null, .val (.ref b30), .val (.int (1 : Int32)), .val .null, .val (.long q0), .second, .val (.long q1), .second, .unset] [])) _
        refine XS.iload X112.here hx rfl (hb hby at_84) rfl ?_
        show Steps p.tables e below (T112.setTop (mkF m 86 #[.val (.long q0), .second, .val (.long q1), .second, .val (.int p2), .val (.int p3), .val (.int p4), .val (.int p5), .val (.ref b1), .val (.ref b5), .val .null, .val (.ref b30), .val (.int (1 : Int32)), .val .null, .val (.long q0), .second, .val (.long q1), .second, .unset] [(.int p2)])) _
        refine XS.istore X112.here hx rfl (hb hby at_86) rfl (l' := #[.val (.long q0), .second, .val (.long q1), .second, .val (.int p2), .val (.int p3), .val (.int p4), .val (.int p5), .val (.ref b1), .val (.ref b5), .val .null, .val (.ref b30), .val (.int (1 : Int32)), .val .null, .val (.long q0), .second, .val (.long q1), .second, .val (.int p2)]) rfl ?_
        show Steps p.tables e below (T112.setTop (mkF m 88 #[.val (.long q0), .second, .val (.long q1), .second, .val (.int p2), .val (.int p3), .val (.int p4), .val (.int p5), .val (.ref b1), .val (.ref b5), .val .null, .val (.ref b30), .val (.int (1 : Int32)), .val .null, .val (.long q0), .second, .val (.long q1), .second, .val (.int p2)] [])) _
        refine XS.iload X112.here hx rfl (hb hby at_88) rfl ?_
        show Steps p.tables e below (T112.setTop (mkF m 90 #[.val (.long q0), .second, .val (.long q1), .second, .val (.int p2), .val (.int p3), .val (.int p4), .val (.int p5), .val (.ref b1), .val (.ref b5), .val .null, .val (.ref b30), .val (.int (1 : Int32)), .val .null, .val (.long q0), .second, .val (.long q1), .second, .val (.int p2)] [(.int (1 : Int32))])) _
        refine XS.ifNo X112.here hx rfl (hb hby at_90) rfl ((if0 _ _).trans (feq (by decide : ¬ ((1 : Int32) = (0 : Int32)))).1) ?_
        show Steps p.tables e below (T112.setTop (mkF m 93 #[.val (.long q0), .second, .val (.long q1), .second, .val (.int p2), .val (.int p3), .val (.int p4), .val (.int p5), .val (.ref b1), .val (.ref b5), .val .null, .val (.ref b30), .val (.int (1 : Int32)), .val .null, .val (.long q0), .second, .val (.long q1), .second, .val (.int p2)] [])) _
        refine XS.aload X112.here hx rfl (hb hby at_93) rfl rfl ?_
        show Steps p.tables e below (T112.setTop (mkF m 95 #[.val (.long q0), .second, .val (.long q1), .second, .val (.int p2), .val (.int p3), .val (.int p4), .val (.int p5), .val (.ref b1), .val (.ref b5), .val .null, .val (.ref b30), .val (.int (1 : Int32)), .val .null, .val (.long q0), .second, .val (.long q1), .second, .val (.int p2)] [(.ref b5)])) _
        refine XS.aload X112.here hx rfl (hb hby at_95) rfl rfl ?_
        show Steps p.tables e below (T112.setTop (mkF m 97 #[.val (.long q0), .second, .val (.long q1), .second, .val (.int p2), .val (.int p3), .val (.int p4), .val (.int p5), .val (.ref b1), .val (.ref b5), .val .null, .val (.ref b30), .val (.int (1 : Int32)), .val .null, .val (.long q0), .second, .val (.long q1), .second, .val (.int p2)] [(.ref b30), (.ref b5)])) _
        refine XS.lloadN X112.here hx rfl (hb hby at_97) rfl ?_
        show Steps p.tables e below (T112.setTop (mkF m 98 #[.val (.long q0), .second, .val (.long q1), .second, .val (.int p2), .val (.int p3), .val (.int p4), .val (.int p5), .val (.ref b1), .val (.ref b5), .val .null, .val (.ref b30), .val (.int (1 : Int32)), .val .null, .val (.long q0), .second, .val (.long q1), .second, .val (.int p2)] [(.long q1), (.ref b30), (.ref b5)])) _
        refine XS.lloadN X112.here hx rfl (hb hby at_98) rfl ?_
        show Steps p.tables e below (T112.setTop (mkF m 99 #[.val (.long q0), .second, .val (.long q1), .second, .val (.int p2), .val (.int p3), .val (.int p4), .val (.int p5), .val (.ref b1), .val (.ref b5), .val .null, .val (.ref b30), .val (.int (1 : Int32)), .val .null, .val (.long q0), .second, .val (.long q1), .second, .val (.int p2)] [(.long q0), (.long q1), (.ref b30), (.ref b5)])) _
        refine XS.iload X112.here hx rfl (hb hby at_99) rfl ?_
        show Steps p.tables e below (T112.setTop (mkF m 101 #[.val (.long q0), .second, .val (.long q1), .second, .val (.int p2), .val (.int p3), .val (.int p4), .val (.int p5), .val (.ref b1), .val (.ref b5), .val .null, .val (.ref b30), .val (.int (1 : Int32)), .val .null, .val (.long q0), .second, .val (.long q1), .second, .val (.int p2)] [(.int p4), (.long q0), (.long q1), (.ref b30), (.ref b5)])) _
        refine st123.trans ?_
        show Steps p.tables e below (T123.setTop (mkF m 104 #[.val (.long q0), .second, .val (.long q1), .second, .val (.int p2), .val (.int p3), .val (.int p4), .val (.int p5), .val (.ref b1), .val (.ref b5), .val .null, .val (.ref b30), .val (.int (1 : Int32)), .val .null, .val (.long q0), .second, .val (.long q1), .second, .val (.int p2)] [])) _
        refine XS.aload X123.here hx rfl (hb hby at_104) rfl rfl ?_
        show Steps p.tables e below (T123.setTop (mkF m 106 #[.val (.long q0), .second, .val (.long q1), .second, .val (.int p2), .val (.int p3), .val (.int p4), .val (.int p5), .val (.ref b1), .val (.ref b5), .val .null, .val (.ref b30), .val (.int (1 : Int32)), .val .null, .val (.long q0), .second, .val (.long q1), .second, .val (.int p2)] [(.ref b30)])) _
        refine XS.astore X123.here hx rfl (hb hby at_106) rfl rfl (l' := #[.val (.long q0), .second, .val (.long q1), .second, .val (.int p2), .val (.int p3), .val (.int p4), .val (.int p5), .val (.ref b1), .val (.ref b5), .val .null, .val (.ref b30), .val (.int (1 : Int32)), .val (.ref b30), .val (.long q0), .second, .val (.long q1), .second, .val (.int p2)]) rfl ?_
        show Steps p.tables e below (T123.setTop (mkF m 108 #[.val (.long q0), .second, .val (.long q1), .second, .val (.int p2), .val (.int p3), .val (.int p4), .val (.int p5), .val (.ref b1), .val (.ref b5), .val .null, .val (.ref b30), .val (.int (1 : Int32)), .val (.ref b30), .val (.long q0), .second, .val (.long q1), .second, .val (.int p2)] [])) _
        refine XS.lloadN X123.here hx rfl (hb hby at_108) rfl ?_
        show Steps p.tables e below (T123.setTop (mkF m 109 #[.val (.long q0), .second, .val (.long q1), .second, .val (.int p2), .val (.int p3), .val (.int p4), .val (.int p5), .val (.ref b1), .val (.ref b5), .val .null, .val (.ref b30), .val (.int (1 : Int32)), .val (.ref b30), .val (.long q0), .second, .val (.long q1), .second, .val (.int p2)] [(.long q1)])) _
        refine XS.lstore X123.here hx rfl (hb hby at_109) rfl (l' := #[.val (.long q0), .second, .val (.long q1), .second, .val (.int p2), .val (.int p3), .val (.int p4), .val (.int p5), .val (.ref b1), .val (.ref b5), .val .null, .val (.ref b30), .val (.int (1 : Int32)), .val (.ref b30), .val (.long q1), .second, .val (.long q1), .second, .val (.int p2)]) rfl ?_
        show Steps p.tables e below (T123.setTop (mkF m 111 #[.val (.long q0), .second, .val (.long q1), .second, .val (.int p2), .val (.int p3), .val (.int p4), .val (.int p5), .val (.ref b1), .val (.ref b5), .val .null, .val (.ref b30), .val (.int (1 : Int32)), .val (.ref b30), .val (.long q1), .second, .val (.long q1), .second, .val (.int p2)] [])) _
        refine XS.lloadN X123.here hx rfl (hb hby at_111) rfl ?_
        show Steps p.tables e below (T123.setTop (mkF m 112 #[.val (.long q0), .second, .val (.long q1), .second, .val (.int p2), .val (.int p3), .val (.int p4), .val (.int p5), .val (.ref b1), .val (.ref b5), .val .null, .val (.ref b30), .val (.int (1 : Int32)), .val (.ref b30), .val (.long q1), .second, .val (.long q1), .second, .val (.int p2)] [(.long q0)])) _
        refine XS.lstore X123.here hx rfl (hb hby at_112) rfl (l' := #[.val (.long q0), .second, .val (.long q1), .second, .val (.int p2), .val (.int p3), .val (.int p4), .val (.int p5), .val (.ref b1), .val (.ref b5), .val .null, .val (.ref b30), .val (.int (1 : Int32)), .val (.ref b30), .val (.long q1), .second, .val (.long q0), .second, .val (.int p2)]) rfl ?_
        show Steps p.tables e below (T123.setTop (mkF m 114 #[.val (.long q0), .second, .val (.long q1), .second, .val (.int p2), .val (.int p3), .val (.int p4), .val (.int p5), .val (.ref b1), .val (.ref b5), .val .null, .val (.ref b30), .val (.int (1 : Int32)), .val (.ref b30), .val (.long q1), .second, .val (.long q0), .second, .val (.int p2)] [])) _
        refine XS.iload X123.here hx rfl (hb hby at_114) rfl ?_
        show Steps p.tables e below (T123.setTop (mkF m 116 #[.val (.long q0), .second, .val (.long q1), .second, .val (.int p2), .val (.int p3), .val (.int p4), .val (.int p5), .val (.ref b1), .val (.ref b5), .val .null, .val (.ref b30), .val (.int (1 : Int32)), .val (.ref b30), .val (.long q1), .second, .val (.long q0), .second, .val (.int p2)] [(.int p4)])) _
        refine XS.istore X123.here hx rfl (hb hby at_116) rfl (l' := #[.val (.long q0), .second, .val (.long q1), .second, .val (.int p2), .val (.int p3), .val (.int p4), .val (.int p5), .val (.ref b1), .val (.ref b5), .val .null, .val (.ref b30), .val (.int (1 : Int32)), .val (.ref b30), .val (.long q1), .second, .val (.long q0), .second, .val (.int p4)]) rfl ?_
        show Steps p.tables e below (T123.setTop (mkF m 118 #[.val (.long q0), .second, .val (.long q1), .second, .val (.int p2), .val (.int p3), .val (.int p4), .val (.int p5), .val (.ref b1), .val (.ref b5), .val .null, .val (.ref b30), .val (.int (1 : Int32)), .val (.ref b30), .val (.long q1), .second, .val (.long q0), .second, .val (.int p4)] [])) _
        refine XS.aload X123.here hx rfl (hb hby at_118) rfl rfl ?_
        show Steps p.tables e below (T123.setTop (mkF m 120 #[.val (.long q0), .second, .val (.long q1), .second, .val (.int p2), .val (.int p3), .val (.int p4), .val (.int p5), .val (.ref b1), .val (.ref b5), .val .null, .val (.ref b30), .val (.int (1 : Int32)), .val (.ref b30), .val (.long q1), .second, .val (.long q0), .second, .val (.int p4)] [(.ref b5)])) _
        refine st134.trans ?_
        show Steps p.tables e below (T134.setTop (mkF m 123 #[.val (.long q0), .second, .val (.long q1), .second, .val (.int p2), .val (.int p3), .val (.int p4), .val (.int p5), .val (.ref b1), .val (.ref b5), .val .null, .val (.ref b30), .val (.int (1 : Int32)), .val (.ref b30), .val (.long q1), .second, .val (.long q0), .second, .val (.int p4)] [(.ref b30)])) _
        refine XS.aload X134.here hx rfl (hb hby at_123) rfl rfl ?_
        show Steps p.tables e below (T134.setTop (mkF m 125 #[.val (.long q0), .second, .val (.long q1), .second, .val (.int p2), .val (.int p3), .val (.int p4), .val (.int p5), .val (.ref b1), .val (.ref b5), .val .null, .val (.ref b30), .val (.int (1 : Int32)), .val (.ref b30), .val (.long q1), .second, .val (.long q0), .second, .val (.int p4)] [(.ref b30), (.ref b30)])) _
        refine Jvm.RoadKit.acmp (g := (mkF m 125 #[.val (.long q0), .second, .val (.long q1), .second, .val (.int p2), .val (.int p3), .val (.int p4), .val (.int p5), .val (.ref b1), .val (.ref b5), .val .null, .val (.ref b30), .val (.int (1 : Int32)), .val (.ref b30), .val (.long q1), .second, .val (.long q0), .second, .val (.int p4)] [(.ref b30), (.ref b30)])) X134 hx rfl rfl rfl (pc0 := 125) (pc' := 128) (same := true) rfl (hb hby at_125) rfl (decide_eq_true rfl) (by decide) (by decide) ?_
        show Steps p.tables e below (T134.setTop (mkF m 128 #[.val (.long q0), .second, .val (.long q1), .second, .val (.int p2), .val (.int p3), .val (.int p4), .val (.int p5), .val (.ref b1), .val (.ref b5), .val .null, .val (.ref b30), .val (.int (1 : Int32)), .val (.ref b30), .val (.long q1), .second, .val (.long q0), .second, .val (.int p4)] [])) _
        refine XS.aload X134.here hx rfl (hb hby at_128) rfl rfl ?_
        show Steps p.tables e below (T134.setTop (mkF m 130 #[.val (.long q0), .second, .val (.long q1), .second, .val (.int p2), .val (.int p3), .val (.int p4), .val (.int p5), .val (.ref b1), .val (.ref b5), .val .null, .val (.ref b30), .val (.int (1 : Int32)), .val (.ref b30), .val (.long q1), .second, .val (.long q0), .second, .val (.int p4)] [(.ref b5)])) _
        refine st139.trans ?_
        show Steps p.tables e below (T139.setTop (mkF m 133 #[.val (.long q0), .second, .val (.long q1), .second, .val (.int p2), .val (.int p3), .val (.int p4), .val (.int p5), .val (.ref b1), .val (.ref b5), .val .null, .val (.ref b30), .val (.int (1 : Int32)), .val (.ref b30), .val (.long q1), .second, .val (.long q0), .second, .val (.int p4)] [(.long q1)])) _
        refine XS.lload X139.here hx rfl (hb hby at_133) rfl ?_
        show Steps p.tables e below (T139.setTop (mkF m 135 #[.val (.long q0), .second, .val (.long q1), .second, .val (.int p2), .val (.int p3), .val (.int p4), .val (.int p5), .val (.ref b1), .val (.ref b5), .val .null, .val (.ref b30), .val (.int (1 : Int32)), .val (.ref b30), .val (.long q1), .second, .val (.long q0), .second, .val (.int p4)] [(.long q1), (.long q1)])) _
        refine XS.lcmp X139.here hx rfl (hb hby at_135) rfl ?_
        show Steps p.tables e below (T139.setTop (mkF m 136 #[.val (.long q0), .second, .val (.long q1), .second, .val (.int p2), .val (.int p3), .val (.int p4), .val (.int p5), .val (.ref b1), .val (.ref b5), .val .null, .val (.ref b30), .val (.int (1 : Int32)), .val (.ref b30), .val (.long q1), .second, .val (.long q0), .second, .val (.int p4)] [(.int (lcmpW q1 q1))])) _
        refine XS.ifNo X139.here hx rfl (hb hby at_136) rfl ((if0 _ _).trans (teq (own_lc _)).2) ?_
        show Steps p.tables e below (T139.setTop (mkF m 139 #[.val (.long q0), .second, .val (.long q1), .second, .val (.int p2), .val (.int p3), .val (.int p4), .val (.int p5), .val (.ref b1), .val (.ref b5), .val .null, .val (.ref b30), .val (.int (1 : Int32)), .val (.ref b30), .val (.long q1), .second, .val (.long q0), .second, .val (.int p4)] [])) _
        refine XS.aload X139.here hx rfl (hb hby at_139) rfl rfl ?_
        show Steps p.tables e below (T139.setTop (mkF m 141 #[.val (.long q0), .second, .val (.long q1), .second, .val (.int p2), .val (.int p3), .val (.int p4), .val (.int p5), .val (.ref b1), .val (.ref b5), .val .null, .val (.ref b30), .val (.int (1 : Int32)), .val (.ref b30), .val (.long q1), .second, .val (.long q0), .second, .val (.int p4)] [(.ref b5)])) _
        refine st144.trans ?_
        show Steps p.tables e below (T144.setTop (mkF m 144 #[.val (.long q0), .second, .val (.long q1), .second, .val (.int p2), .val (.int p3), .val (.int p4), .val (.int p5), .val (.ref b1), .val (.ref b5), .val .null, .val (.ref b30), .val (.int (1 : Int32)), .val (.ref b30), .val (.long q1), .second, .val (.long q0), .second, .val (.int p4)] [(.long q0)])) _
        refine XS.lload X144.here hx rfl (hb hby at_144) rfl ?_
        show Steps p.tables e below (T144.setTop (mkF m 146 #[.val (.long q0), .second, .val (.long q1), .second, .val (.int p2), .val (.int p3), .val (.int p4), .val (.int p5), .val (.ref b1), .val (.ref b5), .val .null, .val (.ref b30), .val (.int (1 : Int32)), .val (.ref b30), .val (.long q1), .second, .val (.long q0), .second, .val (.int p4)] [(.long q0), (.long q0)])) _
        refine XS.lcmp X144.here hx rfl (hb hby at_146) rfl ?_
        show Steps p.tables e below (T144.setTop (mkF m 147 #[.val (.long q0), .second, .val (.long q1), .second, .val (.int p2), .val (.int p3), .val (.int p4), .val (.int p5), .val (.ref b1), .val (.ref b5), .val .null, .val (.ref b30), .val (.int (1 : Int32)), .val (.ref b30), .val (.long q1), .second, .val (.long q0), .second, .val (.int p4)] [(.int (lcmpW q0 q0))])) _
        refine XS.ifNo X144.here hx rfl (hb hby at_147) rfl ((if0 _ _).trans (teq (own_lc _)).2) ?_
        show Steps p.tables e below (T144.setTop (mkF m 150 #[.val (.long q0), .second, .val (.long q1), .second, .val (.int p2), .val (.int p3), .val (.int p4), .val (.int p5), .val (.ref b1), .val (.ref b5), .val .null, .val (.ref b30), .val (.int (1 : Int32)), .val (.ref b30), .val (.long q1), .second, .val (.long q0), .second, .val (.int p4)] [])) _
        refine XS.aload X144.here hx rfl (hb hby at_150) rfl rfl ?_
        show Steps p.tables e below (T144.setTop (mkF m 152 #[.val (.long q0), .second, .val (.long q1), .second, .val (.int p2), .val (.int p3), .val (.int p4), .val (.int p5), .val (.ref b1), .val (.ref b5), .val .null, .val (.ref b30), .val (.int (1 : Int32)), .val (.ref b30), .val (.long q1), .second, .val (.long q0), .second, .val (.int p4)] [(.ref b5)])) _
        refine st149.trans ?_
        show Steps p.tables e below (T149.setTop (mkF m 155 #[.val (.long q0), .second, .val (.long q1), .second, .val (.int p2), .val (.int p3), .val (.int p4), .val (.int p5), .val (.ref b1), .val (.ref b5), .val .null, .val (.ref b30), .val (.int (1 : Int32)), .val (.ref b30), .val (.long q1), .second, .val (.long q0), .second, .val (.int p4)] [(.int p4)])) _
        refine XS.iload X149.here hx rfl (hb hby at_155) rfl ?_
        show Steps p.tables e below (T149.setTop (mkF m 157 #[.val (.long q0), .second, .val (.long q1), .second, .val (.int p2), .val (.int p3), .val (.int p4), .val (.int p5), .val (.ref b1), .val (.ref b5), .val .null, .val (.ref b30), .val (.int (1 : Int32)), .val (.ref b30), .val (.long q1), .second, .val (.long q0), .second, .val (.int p4)] [(.int p4), (.int p4)])) _
        refine XS.icmpNo X149.here hx rfl (hb hby at_157) rfl (teq (rfl : p4 = p4)).2 ?_
        show Steps p.tables e below (T149.setTop (mkF m 160 #[.val (.long q0), .second, .val (.long q1), .second, .val (.int p2), .val (.int p3), .val (.int p4), .val (.int p5), .val (.ref b1), .val (.ref b5), .val .null, .val (.ref b30), .val (.int (1 : Int32)), .val (.ref b30), .val (.long q1), .second, .val (.long q0), .second, .val (.int p4)] [])) _
        refine XS.aload X149.here hx rfl (hb hby at_160) rfl rfl ?_
        show Steps p.tables e below (T149.setTop (mkF m 162 #[.val (.long q0), .second, .val (.long q1), .second, .val (.int p2), .val (.int p3), .val (.int p4), .val (.int p5), .val (.ref b1), .val (.ref b5), .val .null, .val (.ref b30), .val (.int (1 : Int32)), .val (.ref b30), .val (.long q1), .second, .val (.long q0), .second, .val (.int p4)] [(.ref b5)])) _
        refine st154.trans ?_
        show Steps p.tables e below (T154.setTop (mkF m 165 #[.val (.long q0), .second, .val (.long q1), .second, .val (.int p2), .val (.int p3), .val (.int p4), .val (.int p5), .val (.ref b1), .val (.ref b5), .val .null, .val (.ref b30), .val (.int (1 : Int32)), .val (.ref b30), .val (.long q1), .second, .val (.long q0), .second, .val (.int p4)] [(.int p3)])) _
        refine XS.iload X154.here hx rfl (hb hby at_165) rfl ?_
        show Steps p.tables e below (T154.setTop (mkF m 167 #[.val (.long q0), .second, .val (.long q1), .second, .val (.int p2), .val (.int p3), .val (.int p4), .val (.int p5), .val (.ref b1), .val (.ref b5), .val .null, .val (.ref b30), .val (.int (1 : Int32)), .val (.ref b30), .val (.long q1), .second, .val (.long q0), .second, .val (.int p4)] [(.int p3), (.int p3)])) _
        refine XS.icmpNo X154.here hx rfl (hb hby at_167) rfl (teq (rfl : p3 = p3)).2 ?_
        show Steps p.tables e below (T154.setTop (mkF m 170 #[.val (.long q0), .second, .val (.long q1), .second, .val (.int p2), .val (.int p3), .val (.int p4), .val (.int p5), .val (.ref b1), .val (.ref b5), .val .null, .val (.ref b30), .val (.int (1 : Int32)), .val (.ref b30), .val (.long q1), .second, .val (.long q0), .second, .val (.int p4)] [])) _
        refine XS.aload X154.here hx rfl (hb hby at_170) rfl rfl ?_
        show Steps p.tables e below (T154.setTop (mkF m 172 #[.val (.long q0), .second, .val (.long q1), .second, .val (.int p2), .val (.int p3), .val (.int p4), .val (.int p5), .val (.ref b1), .val (.ref b5), .val .null, .val (.ref b30), .val (.int (1 : Int32)), .val (.ref b30), .val (.long q1), .second, .val (.long q0), .second, .val (.int p4)] [(.ref b5)])) _
        refine st159.trans ?_
        show Steps p.tables e below (T159.setTop (mkF m 175 #[.val (.long q0), .second, .val (.long q1), .second, .val (.int p2), .val (.int p3), .val (.int p4), .val (.int p5), .val (.ref b1), .val (.ref b5), .val .null, .val (.ref b30), .val (.int (1 : Int32)), .val (.ref b30), .val (.long q1), .second, .val (.long q0), .second, .val (.int p4)] [(.int p4)])) _
        refine XS.iload X159.here hx rfl (hb hby at_175) rfl ?_
        show Steps p.tables e below (T159.setTop (mkF m 177 #[.val (.long q0), .second, .val (.long q1), .second, .val (.int p2), .val (.int p3), .val (.int p4), .val (.int p5), .val (.ref b1), .val (.ref b5), .val .null, .val (.ref b30), .val (.int (1 : Int32)), .val (.ref b30), .val (.long q1), .second, .val (.long q0), .second, .val (.int p4)] [(.int p4), (.int p4)])) _
        refine XS.icmpNo X159.here hx rfl (hb hby at_177) rfl (teq (rfl : p4 = p4)).2 ?_
        show Steps p.tables e below (T159.setTop (mkF m 180 #[.val (.long q0), .second, .val (.long q1), .second, .val (.int p2), .val (.int p3), .val (.int p4), .val (.int p5), .val (.ref b1), .val (.ref b5), .val .null, .val (.ref b30), .val (.int (1 : Int32)), .val (.ref b30), .val (.long q1), .second, .val (.long q0), .second, .val (.int p4)] [])) _
        refine XS.aload X159.here hx rfl (hb hby at_180) rfl rfl ?_
        show Steps p.tables e below (T159.setTop (mkF m 182 #[.val (.long q0), .second, .val (.long q1), .second, .val (.int p2), .val (.int p3), .val (.int p4), .val (.int p5), .val (.ref b1), .val (.ref b5), .val .null, .val (.ref b30), .val (.int (1 : Int32)), .val (.ref b30), .val (.long q1), .second, .val (.long q0), .second, .val (.int p4)] [(.ref b5)])) _
        refine st164.trans ?_
        show Steps p.tables e below (T164.setTop (mkF m 185 #[.val (.long q0), .second, .val (.long q1), .second, .val (.int p2), .val (.int p3), .val (.int p4), .val (.int p5), .val (.ref b1), .val (.ref b5), .val .null, .val (.ref b30), .val (.int (1 : Int32)), .val (.ref b30), .val (.long q1), .second, .val (.long q0), .second, .val (.int p4)] [(.ref b1)])) _
        refine XS.aload X164.here hx rfl (hb hby at_185) rfl rfl ?_
        show Steps p.tables e below (T164.setTop (mkF m 187 #[.val (.long q0), .second, .val (.long q1), .second, .val (.int p2), .val (.int p3), .val (.int p4), .val (.int p5), .val (.ref b1), .val (.ref b5), .val .null, .val (.ref b30), .val (.int (1 : Int32)), .val (.ref b30), .val (.long q1), .second, .val (.long q0), .second, .val (.int p4)] [(.ref b1), (.ref b1)])) _
        refine Jvm.RoadKit.acmp (g := (mkF m 187 #[.val (.long q0), .second, .val (.long q1), .second, .val (.int p2), .val (.int p3), .val (.int p4), .val (.int p5), .val (.ref b1), .val (.ref b5), .val .null, .val (.ref b30), .val (.int (1 : Int32)), .val (.ref b30), .val (.long q1), .second, .val (.long q0), .second, .val (.int p4)] [(.ref b1), (.ref b1)])) X164 hx rfl rfl rfl (pc0 := 187) (pc' := 190) (same := true) rfl (hb hby at_187) rfl (decide_eq_true rfl) (by decide) (by decide) ?_
        show Steps p.tables e below (T164.setTop (mkF m 190 #[.val (.long q0), .second, .val (.long q1), .second, .val (.int p2), .val (.int p3), .val (.int p4), .val (.int p5), .val (.ref b1), .val (.ref b5), .val .null, .val (.ref b30), .val (.int (1 : Int32)), .val (.ref b30), .val (.long q1), .second, .val (.long q0), .second, .val (.int p4)] [])) _
        refine XS.iconst X164.here hx rfl (hb hby at_190) ?_
        show Steps p.tables e below (T164.setTop (mkF m 191 #[.val (.long q0), .second, .val (.long q1), .second, .val (.int p2), .val (.int p3), .val (.int p4), .val (.int p5), .val (.ref b1), .val (.ref b5), .val .null, .val (.ref b30), .val (.int (1 : Int32)), .val (.ref b30), .val (.long q1), .second, .val (.long q0), .second, .val (.int p4)] [(.int (1 : Int32))])) _
        refine XS.goto X164.here hx rfl (pc0 := 191) (pc' := 195) rfl (hb hby at_191) (by decide) (by decide) ?_
        exact kt
      obtain ⟨fs, hr, hrun, hended, hW, hsame⟩ := X164.leave (v := some (.int (1 : Int32))) (fun h => by rw [Bd.returns] at h; cases h)
      refine ⟨_, _, pre168 _ ?_, hrun, hended, _, _, rfl, ?_, ⟨_, rfl⟩, hW, hsame.mono (by decide) (by decide)⟩
      · show Steps p.tables e below (T164.setTop (mkF m 195 #[.val (.long q0), .second, .val (.long q1), .second, .val (.int p2), .val (.int p3), .val (.int p4), .val (.int p5), .val (.ref b1), .val (.ref b5), .val .null, .val (.ref b30), .val (.int (1 : Int32)), .val (.ref b30), .val (.long q1), .second, .val (.long q0), .second, .val (.int p4)] [(.int (1 : Int32))])) _
        exact retN X164 hx (t := .boolean) Bd.returns (by simp) (hb hby at_195) hr
      · show own_Q_law Z q0 q1 p2 p3 p4 p5 aS h0 n0 (some (.int (1 : Int32))) T164.heap _
        rw [eq166]
        exact ⟨rfl, nf167⟩
  · obtain ⟨T169, h169, X169, e169, E169, A169, D169, -, st169⟩ := newO X20 hx hZ hown (hw _ (List.mem_of_getElem? (i := 44) rfl)) (hw _ (List.mem_of_getElem? (i := 11) rfl)) (hw _ (List.mem_of_getElem? (i := 12) rfl)) rfl (g := (mkF m 27 #[.val (.long q0), .second, .val (.long q1), .second, .val (.int p2), .val (.int p3), .val (.int p4), .val (.int p5), .val (.ref b1), .val (.ref b5), .unset, .unset, .unset, .unset, .unset, .unset, .unset, .unset, .unset] [])) rfl (hb hby at_27) (by decide) (by decide)
    obtain ⟨b169, g169⟩ : ∃ z, z = T20.heap.size := ⟨_, rfl⟩
    rw [← g169] at A169 D169 st169
    have sz_b169 : h0.size ≤ b169 := Nat.le_trans k26.1 (Nat.le_of_eq g169.symm)
    have gn_b169 : n0 ≤ b169 := Nat.le_trans Z0 sz_b169
    have ne_b1_b169 : b1 ≠ b169 := Nat.ne_of_lt (Nat.lt_of_lt_of_le f24.lt (Nat.le_of_eq g169.symm))
    have ne_b5_b169 : b5 ≠ b169 := Nat.ne_of_lt (Nat.lt_of_lt_of_le c21_6.lt (Nat.le_of_eq g169.symm))
    have f170 := f22.ext E169
    have f171 := f23.ext E169
    have f172 := f24.ext E169
    have f173 := f25.ext E169
    have f174 := c21_0.ext E169
    have f175 := c21_1.ext E169
    have f176 := c21_2.ext E169
    have f177 := c21_3.ext E169
    have f178 := c21_4.ext E169
    have f179 := c21_5.ext E169
    have f180 := c21_6.ext E169
    have k181 := k26.ext E169
    have f182 : Fld Z h169 b169 "java/util/AbstractList" "modCount" "I" (.int (0 : Int32)) := D169 (Or.inl (hw _ (List.mem_of_getElem? (i := 30) rfl))) (ty := .int) (by decide)
    have f183 : Fld Z h169 b169 "java/util/ArrayList" "elementData" "[Ljava/lang/Object;" .null := D169 (Or.inl (hw _ (List.mem_of_getElem? (i := 33) rfl))) (ty := (.array (.object "java/lang/Object"))) (by decide)
    have zs184 : n0 ≤ h169.size := Nat.le_trans Z0 k181.1
    obtain ⟨_, _, ⟨T185, L185, k185, n185⟩, -, X185, ⟨Lc185, hQ185, l185, y185, z185⟩, st185⟩ := X169.specialBack hx (y := (⟨"java/util/ArrayList", "<init>", "()V"⟩ : MethodName)) rfl hown (mvT hZ (hw _ (List.mem_of_getElem? (i := 45) rfl))) (mvT hZ (hw _ (List.mem_of_getElem? (i := 14) rfl))) (mvT hZ (hw _ (List.mem_of_getElem? (i := 15) rfl))) (by decide) (backOf (W := 1) (own_rm_al l Z a0 hw [] b169 aS h169 n0 zs184 f170 A169 f182 f183 gn_b169) hZ (hw _ (List.mem_of_getElem? (i := 15) rfl)) (hw _ (List.mem_of_getElem? (i := 12) rfl)) (by decide) (by decide)) (g := (mkF m 31 #[.val (.long q0), .second, .val (.long q1), .second, .val (.int p2), .val (.int p3), .val (.int p4), .val (.int p5), .val (.ref b1), .val (.ref b5), .unset, .unset, .unset, .unset, .unset, .unset, .unset, .unset, .unset] [(.ref b169), (.ref b169)])) rfl (by rw [hml]; rfl) (Steps.refl _) (a := b169) (argsL := []) (rest := [(.ref b169)]) (lenOf own_pd0 rfl) rfl (by show 2 * 0 + _ ≤ _; exact Nat.le_of_eq rfl) (hb hby at_31) (fun _ _ => ⟨rfl, e169, (by decide : 5 + 0 ≤ _), (by decide : 31 + 0 ≤ _)⟩)
    dsimp only [Pt.U, Pt.locs, Pt.cells, Pt.slots] at X185 l185 y185 z185 st185 hQ185
    subst l185 y185 z185
    obtain ⟨rfl, N186, K186⟩ := hQ185
    have f187 := own_sta_keep f170 K186 (own_pl_cons A169 all0)
    have f188 := f171.keep K186
    have f189 := f172.keep K186 (ninS ne_b1_b169 nin0)
    have f190 := f173.keep K186
    have f191 := f174.keep K186 (ninS ne_b5_b169 nin0)
    have f192 := f175.keep K186 (ninS ne_b5_b169 nin0)
    have f193 := f176.keep K186 (ninS ne_b5_b169 nin0)
    have f194 := f177.keep K186 (ninS ne_b5_b169 nin0)
    have f195 := f178.keep K186 (ninS ne_b5_b169 nin0)
    have f196 := f179.keep K186 (ninS ne_b5_b169 nin0)
    have f197 := f180.keep K186 (ninS ne_b5_b169 nin0)
    have f198 := A169.keep K186
    have k199 := k181.trans K186 (allS (Or.inr sz_b169) all0)
    have nf200 := Fr.app nf27 N186
    obtain ⟨T201, h201, X201, e201, E201, A201, D201, -, st201⟩ := newO X185 hx hZ hown (hw _ (List.mem_of_getElem? (i := 44) rfl)) (hw _ (List.mem_of_getElem? (i := 11) rfl)) (hw _ (List.mem_of_getElem? (i := 12) rfl)) rfl (g := (mkF m 40 #[.val (.long q0), .second, .val (.long q1), .second, .val (.int p2), .val (.int p3), .val (.int p4), .val (.int p5), .val (.ref b1), .val (.ref b5), .val (.ref b169), .unset, .unset, .unset, .unset, .unset, .unset, .unset, .unset] [])) rfl (hb hby at_40) (by decide) (by decide)
    obtain ⟨b201, g201⟩ : ∃ z, z = T185.heap.size := ⟨_, rfl⟩
    rw [← g201] at A201 D201 st201
    have sz_b201 : h0.size ≤ b201 := Nat.le_trans k199.1 (Nat.le_of_eq g201.symm)
    have gn_b201 : n0 ≤ b201 := Nat.le_trans Z0 sz_b201
    have ne_b1_b201 : b1 ≠ b201 := Nat.ne_of_lt (Nat.lt_of_lt_of_le f189.lt (Nat.le_of_eq g201.symm))
    have ne_b5_b201 : b5 ≠ b201 := Nat.ne_of_lt (Nat.lt_of_lt_of_le f197.lt (Nat.le_of_eq g201.symm))
    have ne_b169_b201 : b169 ≠ b201 := Nat.ne_of_lt (Nat.lt_of_lt_of_le f198.lt (Nat.le_of_eq g201.symm))
    have f202 := f187.ext E201
    have f203 := f188.ext E201
    have f204 := f189.ext E201
    have f205 := f190.ext E201
    have f206 := f191.ext E201
    have f207 := f192.ext E201
    have f208 := f193.ext E201
    have f209 := f194.ext E201
    have f210 := f195.ext E201
    have f211 := f196.ext E201
    have f212 := f197.ext E201
    have f213 := f198.ext E201
    have k214 := k199.ext E201
    have f215 : Fld Z h201 b201 "java/util/AbstractList" "modCount" "I" (.int (0 : Int32)) := D201 (Or.inl (hw _ (List.mem_of_getElem? (i := 30) rfl))) (ty := .int) (by decide)
    have f216 : Fld Z h201 b201 "java/util/ArrayList" "elementData" "[Ljava/lang/Object;" .null := D201 (Or.inl (hw _ (List.mem_of_getElem? (i := 33) rfl))) (ty := (.array (.object "java/lang/Object"))) (by decide)
    have zs217 : n0 ≤ h201.size := Nat.le_trans Z0 k214.1
    obtain ⟨_, _, ⟨T218, L218, k218, n218⟩, -, X218, ⟨Lc218, hQ218, l218, y218, z218⟩, st218⟩ := X201.specialBack hx (y := (⟨"java/util/ArrayList", "<init>", "()V"⟩ : MethodName)) rfl hown (mvT hZ (hw _ (List.mem_of_getElem? (i := 45) rfl))) (mvT hZ (hw _ (List.mem_of_getElem? (i := 14) rfl))) (mvT hZ (hw _ (List.mem_of_getElem? (i := 15) rfl))) (by decide) (backOf (W := 1) (own_rm_al l Z a0 hw [] b201 aS h201 n0 zs217 f202 A201 f215 f216 gn_b201) hZ (hw _ (List.mem_of_getElem? (i := 15) rfl)) (hw _ (List.mem_of_getElem? (i := 12) rfl)) (by decide) (by decide)) (g := (mkF m 44 #[.val (.long q0), .second, .val (.long q1), .second, .val (.int p2), .val (.int p3), .val (.int p4), .val (.int p5), .val (.ref b1), .val (.ref b5), .val (.ref b169), .unset, .unset, .unset, .unset, .unset, .unset, .unset, .unset] [(.ref b201), (.ref b201)])) rfl (by rw [hml]; rfl) (Steps.refl _) (a := b201) (argsL := []) (rest := [(.ref b201)]) (lenOf own_pd0 rfl) rfl (by show 2 * 0 + _ ≤ _; exact Nat.le_of_eq rfl) (hb hby at_44) (fun _ _ => ⟨rfl, e201, (by decide : 6 + 0 ≤ _), (by decide : 34 + 0 ≤ _)⟩)
    dsimp only [Pt.U, Pt.locs, Pt.cells, Pt.slots] at X218 l218 y218 z218 st218 hQ218
    subst l218 y218 z218
    obtain ⟨rfl, N219, K219⟩ := hQ218
    have f220 := own_sta_keep f202 K219 (own_pl_cons A201 all0)
    have f221 := f203.keep K219
    have f222 := f204.keep K219 (ninS ne_b1_b201 nin0)
    have f223 := f205.keep K219
    have f224 := f206.keep K219 (ninS ne_b5_b201 nin0)
    have f225 := f207.keep K219 (ninS ne_b5_b201 nin0)
    have f226 := f208.keep K219 (ninS ne_b5_b201 nin0)
    have f227 := f209.keep K219 (ninS ne_b5_b201 nin0)
    have f228 := f210.keep K219 (ninS ne_b5_b201 nin0)
    have f229 := f211.keep K219 (ninS ne_b5_b201 nin0)
    have f230 := f212.keep K219 (ninS ne_b5_b201 nin0)
    have f231 := f213.keep K219
    have f232 := A201.keep K219
    have k233 := k214.trans K219 (allS (Or.inr sz_b201) all0)
    have nf234 := Fr.app nf200 N219
    have pre235 : ∀ t, Steps p.tables e below (T218.setTop (mkF m 53 #[.val (.long q0), .second, .val (.long q1), .second, .val (.int p2), .val (.int p3), .val (.int p4), .val (.int p5), .val (.ref b1), .val (.ref b5), .val (.ref b169), .val (.ref b201), .unset, .unset, .unset, .unset, .unset, .unset, .unset] [(.int (p5 &&& (2 : Int32)))])) t → Steps p.tables e below (s₁.setTop (entryFrame m #[(.long q0), (.long q1), (.int p2), (.int p3), (.int p4), (.int p5)] maxLocals)) t := by
      intro t kt
      refine pre28 t ?_
      show Steps p.tables e below (T20.setTop (mkF m 24 #[.val (.long q0), .second, .val (.long q1), .second, .val (.int p2), .val (.int p3), .val (.int p4), .val (.int p5), .val (.ref b1), .val (.ref b5), .unset, .unset, .unset, .unset, .unset, .unset, .unset, .unset, .unset] [(.int (p5 &&& (1 : Int32)))])) _
      refine XS.ifNo X20.here hx rfl (hb hby at_24) rfl ((if0 _ _).trans (feq hc29).1) ?_
      show Steps p.tables e below (T20.setTop (mkF m 27 #[.val (.long q0), .second, .val (.long q1), .second, .val (.int p2), .val (.int p3), .val (.int p4), .val (.int p5), .val (.ref b1), .val (.ref b5), .unset, .unset, .unset, .unset, .unset, .unset, .unset, .unset, .unset] [])) _
      refine st169 _ ?_
      show Steps p.tables e below (T169.setTop (mkF m 30 #[.val (.long q0), .second, .val (.long q1), .second, .val (.int p2), .val (.int p3), .val (.int p4), .val (.int p5), .val (.ref b1), .val (.ref b5), .unset, .unset, .unset, .unset, .unset, .unset, .unset, .unset, .unset] [(.ref b169)])) _
      refine XS.dup X169.here hx rfl (hb hby at_30) rfl rfl ?_
      show Steps p.tables e below (T169.setTop (mkF m 31 #[.val (.long q0), .second, .val (.long q1), .second, .val (.int p2), .val (.int p3), .val (.int p4), .val (.int p5), .val (.ref b1), .val (.ref b5), .unset, .unset, .unset, .unset, .unset, .unset, .unset, .unset, .unset] [(.ref b169), (.ref b169)])) _
      refine st185.trans ?_
      show Steps p.tables e below (T185.setTop (mkF m 34 #[.val (.long q0), .second, .val (.long q1), .second, .val (.int p2), .val (.int p3), .val (.int p4), .val (.int p5), .val (.ref b1), .val (.ref b5), .unset, .unset, .unset, .unset, .unset, .unset, .unset, .unset, .unset] [(.ref b169)])) _
      refine XS.goto X185.here hx rfl (pc0 := 34) (pc' := 38) rfl (hb hby at_34) (by decide) (by decide) ?_
      show Steps p.tables e below (T185.setTop (mkF m 38 #[.val (.long q0), .second, .val (.long q1), .second, .val (.int p2), .val (.int p3), .val (.int p4), .val (.int p5), .val (.ref b1), .val (.ref b5), .unset, .unset, .unset, .unset, .unset, .unset, .unset, .unset, .unset] [(.ref b169)])) _
      refine XS.astore X185.here hx rfl (hb hby at_38) rfl rfl (l' := #[.val (.long q0), .second, .val (.long q1), .second, .val (.int p2), .val (.int p3), .val (.int p4), .val (.int p5), .val (.ref b1), .val (.ref b5), .val (.ref b169), .unset, .unset, .unset, .unset, .unset, .unset, .unset, .unset]) rfl ?_
      show Steps p.tables e below (T185.setTop (mkF m 40 #[.val (.long q0), .second, .val (.long q1), .second, .val (.int p2), .val (.int p3), .val (.int p4), .val (.int p5), .val (.ref b1), .val (.ref b5), .val (.ref b169), .unset, .unset, .unset, .unset, .unset, .unset, .unset, .unset] [])) _
      refine st201 _ ?_
      show Steps p.tables e below (T201.setTop (mkF m 43 #[.val (.long q0), .second, .val (.long q1), .second, .val (.int p2), .val (.int p3), .val (.int p4), .val (.int p5), .val (.ref b1), .val (.ref b5), .val (.ref b169), .unset, .unset, .unset, .unset, .unset, .unset, .unset, .unset] [(.ref b201)])) _
      refine XS.dup X201.here hx rfl (hb hby at_43) rfl rfl ?_
      show Steps p.tables e below (T201.setTop (mkF m 44 #[.val (.long q0), .second, .val (.long q1), .second, .val (.int p2), .val (.int p3), .val (.int p4), .val (.int p5), .val (.ref b1), .val (.ref b5), .val (.ref b169), .unset, .unset, .unset, .unset, .unset, .unset, .unset, .unset] [(.ref b201), (.ref b201)])) _
      refine st218.trans ?_
      show Steps p.tables e below (T218.setTop (mkF m 47 #[.val (.long q0), .second, .val (.long q1), .second, .val (.int p2), .val (.int p3), .val (.int p4), .val (.int p5), .val (.ref b1), .val (.ref b5), .val (.ref b169), .unset, .unset, .unset, .unset, .unset, .unset, .unset, .unset] [(.ref b201)])) _
      refine XS.astore X218.here hx rfl (hb hby at_47) rfl rfl (l' := #[.val (.long q0), .second, .val (.long q1), .second, .val (.int p2), .val (.int p3), .val (.int p4), .val (.int p5), .val (.ref b1), .val (.ref b5), .val (.ref b169), .val (.ref b201), .unset, .unset, .unset, .unset, .unset, .unset, .unset]) rfl ?_
      show Steps p.tables e below (T218.setTop (mkF m 49 #[.val (.long q0), .second, .val (.long q1), .second, .val (.int p2), .val (.int p3), .val (.int p4), .val (.int p5), .val (.ref b1), .val (.ref b5), .val (.ref b169), .val (.ref b201), .unset, .unset, .unset, .unset, .unset, .unset, .unset] [])) _
      refine XS.iload X218.here hx rfl (hb hby at_49) rfl ?_
      show Steps p.tables e below (T218.setTop (mkF m 51 #[.val (.long q0), .second, .val (.long q1), .second, .val (.int p2), .val (.int p3), .val (.int p4), .val (.int p5), .val (.ref b1), .val (.ref b5), .val (.ref b169), .val (.ref b201), .unset, .unset, .unset, .unset, .unset, .unset, .unset] [(.int p5)])) _
      refine XS.iconst X218.here hx rfl (hb hby at_51) ?_
      show Steps p.tables e below (T218.setTop (mkF m 52 #[.val (.long q0), .second, .val (.long q1), .second, .val (.int p2), .val (.int p3), .val (.int p4), .val (.int p5), .val (.ref b1), .val (.ref b5), .val (.ref b169), .val (.ref b201), .unset, .unset, .unset, .unset, .unset, .unset, .unset] [(.int (2 : Int32)), (.int p5)])) _
      refine XS.iand X218.here hx rfl (hb hby at_52) rfl ?_
      exact kt
    by_cases hc236 : (p5 &&& (2 : Int32)) = (0 : Int32)
    · have zs237 : n0 ≤ T218.heap.size := Nat.le_trans Z0 k233.1
      obtain ⟨cq239, kq239, q239a, q239b, q239c⟩ := isOf hZ rfl f223
      obtain ⟨_, _, ⟨T238, L238, k238, n238⟩, -, X238, ⟨Lc238, hQ238, l238, y238, z238⟩, st238⟩ := X218.virtualBack hx (y := (⟨"com/example/interleave/interleave/check/Expansion", "tookIn", "(Ljava/util/List;JJI)V"⟩ : MethodName)) (z := (⟨"com/example/interleave/interleave/check/Expansion", "tookIn", "(Ljava/util/List;JJI)V"⟩ : MethodName)) hown (mvT hZ (hw _ (List.mem_of_getElem? (i := 46) rfl))) (mvT hZ (hw _ (List.mem_of_getElem? (i := 47) rfl))) (notFace_of_selects (args := #[]) (mvT hZ (hw _ (List.mem_of_getElem? (i := 49) rfl)))) (mvT hZ (hw _ (List.mem_of_getElem? (i := 49) rfl))) (mvT hZ (hw _ (List.mem_of_getElem? (i := 48) rfl))) (by decide) (backOf (W := 0) (own_rm_tkR l Z a0 hw [] b5 b169 q0 q1 p2 .null (.long (0 : Int64)) (.long (0 : Int64)) (.int (0 : Int32)) p3 p4 b1 T218.heap n0 zs237 f223 f227 f228 f229 f230 f224 f225 f226 gn_b5) hZ (hw _ (List.mem_of_getElem? (i := 50) rfl)) (hw _ (List.mem_of_getElem? (i := 3) rfl)) (by decide) (by decide)) q239a q239c (g := (mkF m 71 #[.val (.long q0), .second, .val (.long q1), .second, .val (.int p2), .val (.int p3), .val (.int p4), .val (.int p5), .val (.ref b1), .val (.ref b5), .val (.ref b169), .val (.ref b201), .val (.int (0 : Int32)), .unset, .unset, .unset, .unset, .unset, .unset] [(.int p2), (.long q1), (.long q0), (.ref b169), (.ref b5)])) rfl (by rw [hml]; rfl) (Steps.refl _) (argsL := [(.ref b169), (.long q0), (.long q1), (.int p2)]) (rest := []) (lenOf own_pd2 rfl) rfl (by show 2 * 0 + _ ≤ _; exact Nat.le_of_eq rfl) (hb hby at_71) (fun _ _ => ⟨rfl, rfl, (by decide : 6 + 0 ≤ _), (by decide : 34 + 0 ≤ _)⟩)
      dsimp only [Pt.U, Pt.locs, Pt.cells, Pt.slots] at X238 l238 y238 z238 st238 hQ238
      subst l238 y238 z238
      obtain ⟨rfl, N240, K240, c240_0, c240_1, c240_2, c240_3, c240_4, c240_5, c240_6⟩ := hQ238
      have f241 := own_sta_keep f220 K240 (own_pl_cons f223 all0)
      have f242 := f221.keep K240
      have f243 := f222.keep K240 (ninS ne_b1_b5 nin0)
      have f244 := f223.keep K240
      have f245 := f231.keep K240
      have f246 := f232.keep K240
      have k247 := k233.trans K240 (allS (Or.inr sz_b5) all0)
      have nf248 := Fr.app nf234 N240
      have zs249 : n0 ≤ T238.heap.size := Nat.le_trans Z0 k247.1
      obtain ⟨cq251, kq251, q251a, q251b, q251c⟩ := isOf hZ rfl f244
      obtain ⟨_, _, ⟨T250, L250, k250, n250⟩, -, X250, ⟨Lc250, hQ250, l250, y250, z250⟩, st250⟩ := X238.virtualBack hx (y := (⟨"com/example/interleave/interleave/check/Expansion", "fresh", "()Ljava/util/List;"⟩ : MethodName)) (z := (⟨"com/example/interleave/interleave/check/Expansion", "fresh", "()Ljava/util/List;"⟩ : MethodName)) hown (mvT hZ (hw _ (List.mem_of_getElem? (i := 59) rfl))) (mvT hZ (hw _ (List.mem_of_getElem? (i := 60) rfl))) (notFace_of_selects (args := #[]) (mvT hZ (hw _ (List.mem_of_getElem? (i := 62) rfl)))) (mvT hZ (hw _ (List.mem_of_getElem? (i := 62) rfl))) (mvT hZ (hw _ (List.mem_of_getElem? (i := 61) rfl))) (by decide) (backOf (W := 0) (own_rm_gfR l Z a0 hw [] b5 b169 T238.heap n0 zs249 c240_0) hZ (hw _ (List.mem_of_getElem? (i := 63) rfl)) (hw _ (List.mem_of_getElem? (i := 3) rfl)) (by decide) (by decide)) q251a q251c (g := (mkF m 120 #[.val (.long q0), .second, .val (.long q1), .second, .val (.int p2), .val (.int p3), .val (.int p4), .val (.int p5), .val (.ref b1), .val (.ref b5), .val (.ref b169), .val (.ref b201), .val (.int (0 : Int32)), .val (.ref b169), .val (.long q0), .second, .val (.long q1), .second, .val (.int p2)] [(.ref b5)])) rfl (by rw [hml]; rfl) (Steps.refl _) (argsL := []) (rest := []) (lenOf own_pd3 rfl) rfl (by show 2 * 0 + _ ≤ _; exact Nat.le_of_eq rfl) (hb hby at_120) (fun _ _ => ⟨rfl, rfl, (by decide : 6 + 0 ≤ _), (by decide : 34 + 0 ≤ _)⟩)
      dsimp only [Pt.U, Pt.locs, Pt.cells, Pt.slots] at X250 l250 y250 z250 st250 hQ250
      subst l250 y250 z250
      obtain ⟨rfl, N252, eq252⟩ := hQ250
      have nf253 := Fr.app nf248 N252
      have zs254 : n0 ≤ T238.heap.size := Nat.le_trans Z0 k247.1
      obtain ⟨cq256, kq256, q256a, q256b, q256c⟩ := isOf hZ eq252 f244
      obtain ⟨_, _, ⟨T255, L255, k255, n255⟩, -, X255, ⟨Lc255, hQ255, l255, y255, z255⟩, st255⟩ := X250.virtualBack hx (y := (⟨"com/example/interleave/interleave/check/Expansion", "generated", "()J"⟩ : MethodName)) (z := (⟨"com/example/interleave/interleave/check/Expansion", "generated", "()J"⟩ : MethodName)) hown (mvT hZ (hw _ (List.mem_of_getElem? (i := 64) rfl))) (mvT hZ (hw _ (List.mem_of_getElem? (i := 65) rfl))) (notFace_of_selects (args := #[]) (mvT hZ (hw _ (List.mem_of_getElem? (i := 67) rfl)))) (mvT hZ (hw _ (List.mem_of_getElem? (i := 67) rfl))) (mvT hZ (hw _ (List.mem_of_getElem? (i := 66) rfl))) (by decide) (backOf (W := 0) (own_rm_ggn l Z a0 hw [] b5 q0 T238.heap n0 zs254 c240_1) hZ (hw _ (List.mem_of_getElem? (i := 68) rfl)) (hw _ (List.mem_of_getElem? (i := 3) rfl)) (by decide) (by decide)) q256a q256c (g := (mkF m 130 #[.val (.long q0), .second, .val (.long q1), .second, .val (.int p2), .val (.int p3), .val (.int p4), .val (.int p5), .val (.ref b1), .val (.ref b5), .val (.ref b169), .val (.ref b201), .val (.int (0 : Int32)), .val (.ref b169), .val (.long q0), .second, .val (.long q1), .second, .val (.int p2)] [(.ref b5)])) rfl (by rw [hml]; rfl) (Steps.refl _) (argsL := []) (rest := []) (lenOf own_pd4 rfl) rfl (by show 2 * 0 + _ ≤ _; exact Nat.le_of_eq rfl) (hb hby at_130) (fun _ _ => ⟨rfl, eq252, (by decide : 6 + 0 ≤ _), (by decide : 34 + 0 ≤ _)⟩)
      dsimp only [Pt.U, Pt.locs, Pt.cells, Pt.slots] at X255 l255 y255 z255 st255 hQ255
      subst l255 y255 z255
      obtain ⟨rfl, N257, eq257⟩ := hQ255
      have nf258 := Fr.app nf253 N257
      have zs259 : n0 ≤ T238.heap.size := Nat.le_trans Z0 k247.1
      obtain ⟨cq261, kq261, q261a, q261b, q261c⟩ := isOf hZ eq257 f244
      obtain ⟨_, _, ⟨T260, L260, k260, n260⟩, -, X260, ⟨Lc260, hQ260, l260, y260, z260⟩, st260⟩ := X255.virtualBack hx (y := (⟨"com/example/interleave/interleave/check/Expansion", "distinct", "()J"⟩ : MethodName)) (z := (⟨"com/example/interleave/interleave/check/Expansion", "distinct", "()J"⟩ : MethodName)) hown (mvT hZ (hw _ (List.mem_of_getElem? (i := 69) rfl))) (mvT hZ (hw _ (List.mem_of_getElem? (i := 70) rfl))) (notFace_of_selects (args := #[]) (mvT hZ (hw _ (List.mem_of_getElem? (i := 72) rfl)))) (mvT hZ (hw _ (List.mem_of_getElem? (i := 72) rfl))) (mvT hZ (hw _ (List.mem_of_getElem? (i := 71) rfl))) (by decide) (backOf (W := 0) (own_rm_gdi l Z a0 hw [] b5 q1 T238.heap n0 zs259 c240_2) hZ (hw _ (List.mem_of_getElem? (i := 73) rfl)) (hw _ (List.mem_of_getElem? (i := 3) rfl)) (by decide) (by decide)) q261a q261c (g := (mkF m 141 #[.val (.long q0), .second, .val (.long q1), .second, .val (.int p2), .val (.int p3), .val (.int p4), .val (.int p5), .val (.ref b1), .val (.ref b5), .val (.ref b169), .val (.ref b201), .val (.int (0 : Int32)), .val (.ref b169), .val (.long q0), .second, .val (.long q1), .second, .val (.int p2)] [(.ref b5)])) rfl (by rw [hml]; rfl) (Steps.refl _) (argsL := []) (rest := []) (lenOf own_pd4 rfl) rfl (by show 2 * 0 + _ ≤ _; exact Nat.le_of_eq rfl) (hb hby at_141) (fun _ _ => ⟨rfl, eq257, (by decide : 6 + 0 ≤ _), (by decide : 34 + 0 ≤ _)⟩)
      dsimp only [Pt.U, Pt.locs, Pt.cells, Pt.slots] at X260 l260 y260 z260 st260 hQ260
      subst l260 y260 z260
      obtain ⟨rfl, N262, eq262⟩ := hQ260
      have nf263 := Fr.app nf258 N262
      have zs264 : n0 ≤ T238.heap.size := Nat.le_trans Z0 k247.1
      obtain ⟨cq266, kq266, q266a, q266b, q266c⟩ := isOf hZ eq262 f244
      obtain ⟨_, _, ⟨T265, L265, k265, n265⟩, -, X265, ⟨Lc265, hQ265, l265, y265, z265⟩, st265⟩ := X260.virtualBack hx (y := (⟨"com/example/interleave/interleave/check/Expansion", "depth", "()I"⟩ : MethodName)) (z := (⟨"com/example/interleave/interleave/check/Expansion", "depth", "()I"⟩ : MethodName)) hown (mvT hZ (hw _ (List.mem_of_getElem? (i := 74) rfl))) (mvT hZ (hw _ (List.mem_of_getElem? (i := 75) rfl))) (notFace_of_selects (args := #[]) (mvT hZ (hw _ (List.mem_of_getElem? (i := 77) rfl)))) (mvT hZ (hw _ (List.mem_of_getElem? (i := 77) rfl))) (mvT hZ (hw _ (List.mem_of_getElem? (i := 76) rfl))) (by decide) (backOf (W := 0) (own_rm_gde l Z a0 hw [] b5 p2 T238.heap n0 zs264 c240_3) hZ (hw _ (List.mem_of_getElem? (i := 78) rfl)) (hw _ (List.mem_of_getElem? (i := 3) rfl)) (by decide) (by decide)) q266a q266c (g := (mkF m 152 #[.val (.long q0), .second, .val (.long q1), .second, .val (.int p2), .val (.int p3), .val (.int p4), .val (.int p5), .val (.ref b1), .val (.ref b5), .val (.ref b169), .val (.ref b201), .val (.int (0 : Int32)), .val (.ref b169), .val (.long q0), .second, .val (.long q1), .second, .val (.int p2)] [(.ref b5)])) rfl (by rw [hml]; rfl) (Steps.refl _) (argsL := []) (rest := []) (lenOf own_pd5 rfl) rfl (by show 2 * 0 + _ ≤ _; exact Nat.le_of_eq rfl) (hb hby at_152) (fun _ _ => ⟨rfl, eq262, (by decide : 6 + 0 ≤ _), (by decide : 34 + 0 ≤ _)⟩)
      dsimp only [Pt.U, Pt.locs, Pt.cells, Pt.slots] at X265 l265 y265 z265 st265 hQ265
      subst l265 y265 z265
      obtain ⟨rfl, N267, eq267⟩ := hQ265
      have nf268 := Fr.app nf263 N267
      have zs269 : n0 ≤ T238.heap.size := Nat.le_trans Z0 k247.1
      obtain ⟨cq271, kq271, q271a, q271b, q271c⟩ := isOf hZ eq267 f244
      obtain ⟨_, _, ⟨T270, L270, k270, n270⟩, -, X270, ⟨Lc270, hQ270, l270, y270, z270⟩, st270⟩ := X265.virtualBack hx (y := (⟨"com/example/interleave/interleave/check/Expansion", "sourceId", "()I"⟩ : MethodName)) (z := (⟨"com/example/interleave/interleave/check/Expansion", "sourceId", "()I"⟩ : MethodName)) hown (mvT hZ (hw _ (List.mem_of_getElem? (i := 79) rfl))) (mvT hZ (hw _ (List.mem_of_getElem? (i := 80) rfl))) (notFace_of_selects (args := #[]) (mvT hZ (hw _ (List.mem_of_getElem? (i := 82) rfl)))) (mvT hZ (hw _ (List.mem_of_getElem? (i := 82) rfl))) (mvT hZ (hw _ (List.mem_of_getElem? (i := 81) rfl))) (by decide) (backOf (W := 0) (own_rm_gsi l Z a0 hw [] b5 p3 T238.heap n0 zs269 c240_4) hZ (hw _ (List.mem_of_getElem? (i := 83) rfl)) (hw _ (List.mem_of_getElem? (i := 3) rfl)) (by decide) (by decide)) q271a q271c (g := (mkF m 162 #[.val (.long q0), .second, .val (.long q1), .second, .val (.int p2), .val (.int p3), .val (.int p4), .val (.int p5), .val (.ref b1), .val (.ref b5), .val (.ref b169), .val (.ref b201), .val (.int (0 : Int32)), .val (.ref b169), .val (.long q0), .second, .val (.long q1), .second, .val (.int p2)] [(.ref b5)])) rfl (by rw [hml]; rfl) (Steps.refl _) (argsL := []) (rest := []) (lenOf own_pd5 rfl) rfl (by show 2 * 0 + _ ≤ _; exact Nat.le_of_eq rfl) (hb hby at_162) (fun _ _ => ⟨rfl, eq267, (by decide : 6 + 0 ≤ _), (by decide : 34 + 0 ≤ _)⟩)
      dsimp only [Pt.U, Pt.locs, Pt.cells, Pt.slots] at X270 l270 y270 z270 st270 hQ270
      subst l270 y270 z270
      obtain ⟨rfl, N272, eq272⟩ := hQ270
      have nf273 := Fr.app nf268 N272
      have zs274 : n0 ≤ T238.heap.size := Nat.le_trans Z0 k247.1
      obtain ⟨cq276, kq276, q276a, q276b, q276c⟩ := isOf hZ eq272 f244
      obtain ⟨_, _, ⟨T275, L275, k275, n275⟩, -, X275, ⟨Lc275, hQ275, l275, y275, z275⟩, st275⟩ := X270.virtualBack hx (y := (⟨"com/example/interleave/interleave/check/Expansion", "sourceParent", "()I"⟩ : MethodName)) (z := (⟨"com/example/interleave/interleave/check/Expansion", "sourceParent", "()I"⟩ : MethodName)) hown (mvT hZ (hw _ (List.mem_of_getElem? (i := 84) rfl))) (mvT hZ (hw _ (List.mem_of_getElem? (i := 85) rfl))) (notFace_of_selects (args := #[]) (mvT hZ (hw _ (List.mem_of_getElem? (i := 87) rfl)))) (mvT hZ (hw _ (List.mem_of_getElem? (i := 87) rfl))) (mvT hZ (hw _ (List.mem_of_getElem? (i := 86) rfl))) (by decide) (backOf (W := 0) (own_rm_gsp l Z a0 hw [] b5 p4 T238.heap n0 zs274 c240_5) hZ (hw _ (List.mem_of_getElem? (i := 88) rfl)) (hw _ (List.mem_of_getElem? (i := 3) rfl)) (by decide) (by decide)) q276a q276c (g := (mkF m 172 #[.val (.long q0), .second, .val (.long q1), .second, .val (.int p2), .val (.int p3), .val (.int p4), .val (.int p5), .val (.ref b1), .val (.ref b5), .val (.ref b169), .val (.ref b201), .val (.int (0 : Int32)), .val (.ref b169), .val (.long q0), .second, .val (.long q1), .second, .val (.int p2)] [(.ref b5)])) rfl (by rw [hml]; rfl) (Steps.refl _) (argsL := []) (rest := []) (lenOf own_pd5 rfl) rfl (by show 2 * 0 + _ ≤ _; exact Nat.le_of_eq rfl) (hb hby at_172) (fun _ _ => ⟨rfl, eq272, (by decide : 6 + 0 ≤ _), (by decide : 34 + 0 ≤ _)⟩)
      dsimp only [Pt.U, Pt.locs, Pt.cells, Pt.slots] at X275 l275 y275 z275 st275 hQ275
      subst l275 y275 z275
      obtain ⟨rfl, N277, eq277⟩ := hQ275
      have nf278 := Fr.app nf273 N277
      have zs279 : n0 ≤ T238.heap.size := Nat.le_trans Z0 k247.1
      obtain ⟨cq281, kq281, q281a, q281b, q281c⟩ := isOf hZ eq277 f244
      obtain ⟨_, _, ⟨T280, L280, k280, n280⟩, -, X280, ⟨Lc280, hQ280, l280, y280, z280⟩, st280⟩ := X275.virtualBack hx (y := (⟨"com/example/interleave/interleave/check/Expansion", "sourceBytes", "()[B"⟩ : MethodName)) (z := (⟨"com/example/interleave/interleave/check/Expansion", "sourceBytes", "()[B"⟩ : MethodName)) hown (mvT hZ (hw _ (List.mem_of_getElem? (i := 89) rfl))) (mvT hZ (hw _ (List.mem_of_getElem? (i := 90) rfl))) (notFace_of_selects (args := #[]) (mvT hZ (hw _ (List.mem_of_getElem? (i := 92) rfl)))) (mvT hZ (hw _ (List.mem_of_getElem? (i := 92) rfl))) (mvT hZ (hw _ (List.mem_of_getElem? (i := 91) rfl))) (by decide) (backOf (W := 0) (own_rm_gsb l Z a0 hw [] b5 b1 T238.heap n0 zs279 c240_6) hZ (hw _ (List.mem_of_getElem? (i := 93) rfl)) (hw _ (List.mem_of_getElem? (i := 3) rfl)) (by decide) (by decide)) q281a q281c (g := (mkF m 182 #[.val (.long q0), .second, .val (.long q1), .second, .val (.int p2), .val (.int p3), .val (.int p4), .val (.int p5), .val (.ref b1), .val (.ref b5), .val (.ref b169), .val (.ref b201), .val (.int (0 : Int32)), .val (.ref b169), .val (.long q0), .second, .val (.long q1), .second, .val (.int p2)] [(.ref b5)])) rfl (by rw [hml]; rfl) (Steps.refl _) (argsL := []) (rest := []) (lenOf own_pd6 rfl) rfl (by show 2 * 0 + _ ≤ _; exact Nat.le_of_eq rfl) (hb hby at_182) (fun _ _ => ⟨rfl, eq277, (by decide : 6 + 0 ≤ _), (by decide : 34 + 0 ≤ _)⟩)
      dsimp only [Pt.U, Pt.locs, Pt.cells, Pt.slots] at X280 l280 y280 z280 st280 hQ280
      subst l280 y280 z280
      obtain ⟨rfl, N282, eq282⟩ := hQ280
      have nf283 := Fr.app nf278 N282
      have pre284 : ∀ t, Steps p.tables e below (T280.setTop (mkF m 195 #[.val (.long q0), .second, .val (.long q1), .second, .val (.int p2), .val (.int p3), .val (.int p4), .val (.int p5), .val (.ref b1), .val (.ref b5), .val (.ref b169), .val (.ref b201), .val (.int (0 : Int32)), .val (.ref b169), .val (.long q0), .second, .val (.long q1), .second, .val (.int p2)] [(.int (1 : Int32))])) t → Steps p.tables e below (s₁.setTop (entryFrame m #[(.long q0), (.long q1), (.int p2), (.int p3), (.int p4), (.int p5)] maxLocals)) t := by
        intro t kt
        refine pre235 t ?_
        show Steps p.tables e below (T218.setTop (mkF m 53 #[.val (.long q0), .second, .val (.long q1), .second, .val (.int p2), .val (.int p3), .val (.int p4), .val (.int p5), .val (.ref b1), .val (.ref b5), .val (.ref b169), .val (.ref b201), .unset, .unset, .unset, .unset, .unset, .unset, .unset] [(.int (p5 &&& (2 : Int32)))])) _
        refine XS.ifYes X218.here hx rfl (pc0 := 53) (pc' := 60) rfl (hb hby at_53) rfl ((if0 _ _).trans (teq hc236).1) (by decide) (by decide) ?_
        show Steps p.tables e below (T218.setTop (mkF m 60 #[.val (.long q0), .second, .val (.long q1), .second, .val (.int p2), .val (.int p3), .val (.int p4), .val (.int p5), .val (.ref b1), .val (.ref b5), .val (.ref b169), .val (.ref b201), .unset, .unset, .unset, .unset, .unset, .unset, .unset] [])) _
        refine XS.iconst X218.here hx rfl (hb hby at_60) ?_
        show Steps p.tables e below (T218.setTop (mkF m 61 #[.val (.long q0), .second, .val (.long q1), .second, .val (.int p2), .val (.int p3), .val (.int p4), .val (.int p5), .val (.ref b1), .val (.ref b5), .val (.ref b169), .val (.ref b201), .unset, .unset, .unset, .unset, .unset, .unset, .unset] [(.int (0 : Int32))])) _
        refine XS.istore X218.here hx rfl (hb hby at_61) rfl (l' := #[.val (.long q0), .second, .val (.long q1), .second, .val (.int p2), .val (.int p3), .val (.int p4), .val (.int p5), .val (.ref b1), .val (.ref b5), .val (.ref b169), .val (.ref b201), .val (.int (0 : Int32)), .unset, .unset, .unset, .unset, .unset, .unset]) rfl ?_
        show Steps p.tables e below (T218.setTop (mkF m 63 #[.val (.long q0), .second, .val (.long q1), .second, .val (.int p2), .val (.int p3), .val (.int p4), .val (.int p5), .val (.ref b1), .val (.ref b5), .val (.ref b169), .val (.ref b201), .val (.int (0 : Int32)), .unset, .unset, .unset, .unset, .unset, .unset] [])) _
        refine XS.aload X218.here hx rfl (hb hby at_63) rfl rfl ?_
        show Steps p.tables e below (T218.setTop (mkF m 65 #[.val (.long q0), .second, .val (.long q1), .second, .val (.int p2), .val (.int p3), .val (.int p4), .val (.int p5), .val (.ref b1), .val (.ref b5), .val (.ref b169), .val (.ref b201), .val (.int (0 : Int32)), .unset, .unset, .unset, .unset, .unset, .unset] [(.ref b5)])) _
        refine XS.aload X218.here hx rfl (hb hby at_65) rfl rfl ?_
        show Steps p.tables e below (T218.setTop (mkF m 67 #[.val (.long q0), .second, .val (.long q1), .second, .val (.int p2), .val (.int p3), .val (.int p4), .val (.int p5), .val (.ref b1), .val (.ref b5), .val (.ref b169), .val (.ref b201), .val (.int (0 : Int32)), .unset, .unset, .unset, .unset, .unset, .unset] [(.ref b169), (.ref b5)])) _
        refine XS.lloadN X218.here hx rfl (hb hby at_67) rfl ?_
        show Steps p.tables e below (T218.setTop (mkF m 68 #[.val (.long q0), .second, .val (.long q1), .second, .val (.int p2), .val (.int p3), .val (.int p4), .val (.int p5), .val (.ref b1), .val (.ref b5), .val (.ref b169), .val (.ref b201), .val (.int (0 : Int32)), .unset, .unset, .unset, .unset, .unset, .unset] [(.long q0), (.ref b169), (.ref b5)])) _
        refine XS.lloadN X218.here hx rfl (hb hby at_68) rfl ?_
        show Steps p.tables e below (T218.setTop (mkF m 69 #[.val (.long q0), .second, .val (.long q1), .second, .val (.int p2), .val (.int p3), .val (.int p4), .val (.int p5), .val (.ref b1), .val (.ref b5), .val (.ref b169), .val (.ref b201), .val (.int (0 : Int32)), .unset, .unset, .unset, .unset, .unset, .unset] [(.long q1), (.long q0), (.ref b169), (.ref b5)])) _
        refine XS.iload X218.here hx rfl (hb hby at_69) rfl ?_
        show Steps p.tables e below (T218.setTop (mkF m 71 #[.val (.long q0), .second, .val (.long q1), .second, .val (.int p2), .val (.int p3), .val (.int p4), .val (.int p5), .val (.ref b1), .val (.ref b5), .val (.ref b169), .val (.ref b201), .val (.int (0 : Int32)), .unset, .unset, .unset, .unset, .unset, .unset] [(.int p2), (.long q1), (.long q0), (.ref b169), (.ref b5)])) _
        refine st238.trans ?_
        show Steps p.tables e below (T238.setTop (mkF m 74 #[.val (.long q0), .second, .val (.long q1), .second, .val (.int p2), .val (.int p3), .val (.int p4), .val (.int p5), .val (.ref b1), .val (.ref b5), .val (.ref b169), .val (.ref b201), .val (.int (0 : Int32)), .unset, .unset, .unset, .unset, .unset, .unset] [])) _
        refine XS.aload X238.here hx rfl (hb hby at_74) rfl rfl ?_
        show Steps p.tables e below (T238.setTop (mkF m 76 #[.val (.long q0), .second, .val (.long q1), .second, .val (.int p2), .val (.int p3), .val (.int p4), .val (.int p5), .val (.ref b1), .val (.ref b5), .val (.ref b169), .val (.ref b201), .val (.int (0 : Int32)), .unset, .unset, .unset, .unset, .unset, .unset] [(.ref b169)])) _
        refine XS.astore X238.here hx rfl (hb hby at_76) rfl rfl (l' := #[.val (.long q0), .second, .val (.long q1), .second, .val (.int p2), .val (.int p3), .val (.int p4), .val (.int p5), .val (.ref b1), .val (.ref b5), .val (.ref b169), .val (.ref b201), .val (.int (0 : Int32)), .val (.ref b169), .unset, .unset, .unset, .unset, .unset]) rfl ?_
        show Steps p.tables e below (T238.setTop (mkF m 78 #[.val (.long q0), .second, .val (.long q1), .second, .val (.int p2), .val (.int p3), .val (.int p4), .val (.int p5), .val (.ref b1), .val (.ref b5), .val (.ref b169), .val (.ref b201), .val (.int (0 : Int32)), .val (.ref b169), .unset, .unset, .unset, .unset, .unset] [])) _
        refine XS.lloadN X238.here hx rfl (hb hby at_78) rfl ?_
        show Steps p.tables e below (T238.setTop (mkF m 79 #[.val (.long q0), .second, .val (.long q1), .second, .val (.int p2), .val (.int p3), .val (.int p4), .val (.int p5), .val (.ref b1), .val (.ref b5), .val (.ref b169), .val (.ref b201), .val (.int (0 : Int32)), .val (.ref b169), .unset, .unset, .unset, .unset, .unset] [(.long q0)])) _
        refine XS.lstore X238.here hx rfl (hb hby at_79) rfl (l' := #[.val (.long q0), .second, .val (.long q1), .second, .val (.int p2), .val (.int p3), .val (.int p4), .val (.int p5), .val (.ref b1), .val (.ref b5), .val (.ref b169), .val (.ref b201), .val (.int (0 : Int32)), .val (.ref b169), .val (.long q0), .second, .unset, .unset, .unset]) rfl ?_
        show Steps p.tables e below (T238.setTop (mkF m 81 #[.val (.long q0), .second, .val (.long q1), .second, .val (.int p2), .val (.int p3), .val (.int p4), .val (.int p5), .val (.ref b1), .val (.ref b5), .val (.ref b169), .val (.ref b201), .val (.int (0 : Int32)), .val (.ref b169), .val (.long q0), .second, .unset, .unset, .unset] [])) _
        refine XS.lloadN X238.here hx rfl (hb hby at_81) rfl ?_
        show Steps p.tables e below (T238.setTop (mkF m 82 #[.val (.long q0), .second, .val (.long q1), .second, .val (.int p2), .val (.int p3), .val (.int p4), .val (.int p5), .val (.ref b1), .val (.ref b5), .val (.ref b169), .val (.ref b201), .val (.int (0 : Int32)), .val (.ref b169), .val (.long q0), .second, .unset, .unset, .unset] [(.long q1)])) _
        refine XS.lstore X238.here hx rfl (hb hby at_82) rfl (l' := #[.val (.long q0), .second, .val (.long q1), .second, .val (.int p2), .val (.int p3), .val (.int p4), .val (.int p5), .val (.ref b1), .val (.ref b5), .val (.ref b169), .val (.ref b201), .val (.int (0 : Int32)), .val (.ref b169), .val (.long q0), .second, .val (.long q1), .second, .unset]) rfl ?_
        show Steps p.tables e below (T238.setTop (mkF m 84 #[.val (.long q0), .second, .val (.long q1), .second, .val (.int p2), .val (.int p3), .val (.int p4), .val (.int p5), .val (.ref b1), .val (.ref b5), .val (.ref b169), .val (.ref b201), .val (.int (0 : Int32)), .val (.ref b169), .val (.long q0), .second, .val (.long q1), .second, .unset] [])) _
        refine XS.iload X238.here hx rfl (hb hby at_84) rfl ?_
        show Steps p.tables e below (T238.setTop (mkF m 86 #[.val (.long q0), .second, .val (.long q1), .second, .val (.int p2), .val (.int p3), .val (.int p4), .val (.int p5), .val (.ref b1), .val (.ref b5), .val (.ref b169), .val (.ref b201), .val (.int (0 : Int32)), .val (.ref b169), .val (.long q0), .second, .val (.long q1), .second, .unset] [(.int p2)])) _
        refine XS.istore X238.here hx rfl (hb hby at_86) rfl (l' := #[.val (.long q0), .second, .val (.long q1), .second, .val (.int p2), .val (.int p3), .val (.int p4), .val (.int p5), .val (.ref b1), .val (.ref b5), .val (.ref b169), .val (.ref b201), .val (.int (0 : Int32)), .val (.ref b169), .val (.long q0), .second, .val (.long q1), .second, .val (.int p2)]) rfl ?_
        show Steps p.tables e below (T238.setTop (mkF m 88 #[.val (.long q0), .second, .val (.long q1), .second, .val (.int p2), .val (.int p3), .val (.int p4), .val (.int p5), .val (.ref b1), .val (.ref b5), .val (.ref b169), .val (.ref b201), .val (.int (0 : Int32)), .val (.ref b169), .val (.long q0), .second, .val (.long q1), .second, .val (.int p2)] [])) _
        refine XS.iload X238.here hx rfl (hb hby at_88) rfl ?_
        show Steps p.tables e below (T238.setTop (mkF m 90 #[.val (.long q0), .second, .val (.long q1), .second, .val (.int p2), .val (.int p3), .val (.int p4), .val (.int p5), .val (.ref b1), .val (.ref b5), .val (.ref b169), .val (.ref b201), .val (.int (0 : Int32)), .val (.ref b169), .val (.long q0), .second, .val (.long q1), .second, .val (.int p2)] [(.int (0 : Int32))])) _
        refine XS.ifYes X238.here hx rfl (pc0 := 90) (pc' := 118) rfl (hb hby at_90) rfl ((if0 _ _).trans (teq (rfl : (0 : Int32) = (0 : Int32))).1) (by decide) (by decide) ?_
        show Steps p.tables e below (T238.setTop (mkF m 118 #[.val (.long q0), .second, .val (.long q1), .second, .val (.int p2), .val (.int p3), .val (.int p4), .val (.int p5), .val (.ref b1), .val (.ref b5), .val (.ref b169), .val (.ref b201), .val (.int (0 : Int32)), .val (.ref b169), .val (.long q0), .second, .val (.long q1), .second, .val (.int p2)] [])) _
        refine XS.aload X238.here hx rfl (hb hby at_118) rfl rfl ?_
        show Steps p.tables e below (T238.setTop (mkF m 120 #[.val (.long q0), .second, .val (.long q1), .second, .val (.int p2), .val (.int p3), .val (.int p4), .val (.int p5), .val (.ref b1), .val (.ref b5), .val (.ref b169), .val (.ref b201), .val (.int (0 : Int32)), .val (.ref b169), .val (.long q0), .second, .val (.long q1), .second, .val (.int p2)] [(.ref b5)])) _
        refine st250.trans ?_
        show Steps p.tables e below (T250.setTop (mkF m 123 #[.val (.long q0), .second, .val (.long q1), .second, .val (.int p2), .val (.int p3), .val (.int p4), .val (.int p5), .val (.ref b1), .val (.ref b5), .val (.ref b169), .val (.ref b201), .val (.int (0 : Int32)), .val (.ref b169), .val (.long q0), .second, .val (.long q1), .second, .val (.int p2)] [(.ref b169)])) _
        refine XS.aload X250.here hx rfl (hb hby at_123) rfl rfl ?_
        show Steps p.tables e below (T250.setTop (mkF m 125 #[.val (.long q0), .second, .val (.long q1), .second, .val (.int p2), .val (.int p3), .val (.int p4), .val (.int p5), .val (.ref b1), .val (.ref b5), .val (.ref b169), .val (.ref b201), .val (.int (0 : Int32)), .val (.ref b169), .val (.long q0), .second, .val (.long q1), .second, .val (.int p2)] [(.ref b169), (.ref b169)])) _
        refine Jvm.RoadKit.acmp (g := (mkF m 125 #[.val (.long q0), .second, .val (.long q1), .second, .val (.int p2), .val (.int p3), .val (.int p4), .val (.int p5), .val (.ref b1), .val (.ref b5), .val (.ref b169), .val (.ref b201), .val (.int (0 : Int32)), .val (.ref b169), .val (.long q0), .second, .val (.long q1), .second, .val (.int p2)] [(.ref b169), (.ref b169)])) X250 hx rfl rfl rfl (pc0 := 125) (pc' := 128) (same := true) rfl (hb hby at_125) rfl (decide_eq_true rfl) (by decide) (by decide) ?_
        show Steps p.tables e below (T250.setTop (mkF m 128 #[.val (.long q0), .second, .val (.long q1), .second, .val (.int p2), .val (.int p3), .val (.int p4), .val (.int p5), .val (.ref b1), .val (.ref b5), .val (.ref b169), .val (.ref b201), .val (.int (0 : Int32)), .val (.ref b169), .val (.long q0), .second, .val (.long q1), .second, .val (.int p2)] [])) _
        refine XS.aload X250.here hx rfl (hb hby at_128) rfl rfl ?_
        show Steps p.tables e below (T250.setTop (mkF m 130 #[.val (.long q0), .second, .val (.long q1), .second, .val (.int p2), .val (.int p3), .val (.int p4), .val (.int p5), .val (.ref b1), .val (.ref b5), .val (.ref b169), .val (.ref b201), .val (.int (0 : Int32)), .val (.ref b169), .val (.long q0), .second, .val (.long q1), .second, .val (.int p2)] [(.ref b5)])) _
        refine st255.trans ?_
        show Steps p.tables e below (T255.setTop (mkF m 133 #[.val (.long q0), .second, .val (.long q1), .second, .val (.int p2), .val (.int p3), .val (.int p4), .val (.int p5), .val (.ref b1), .val (.ref b5), .val (.ref b169), .val (.ref b201), .val (.int (0 : Int32)), .val (.ref b169), .val (.long q0), .second, .val (.long q1), .second, .val (.int p2)] [(.long q0)])) _
        refine XS.lload X255.here hx rfl (hb hby at_133) rfl ?_
        show Steps p.tables e below (T255.setTop (mkF m 135 #[.val (.long q0), .second, .val (.long q1), .second, .val (.int p2), .val (.int p3), .val (.int p4), .val (.int p5), .val (.ref b1), .val (.ref b5), .val (.ref b169), .val (.ref b201), .val (.int (0 : Int32)), .val (.ref b169), .val (.long q0), .second, .val (.long q1), .second, .val (.int p2)] [(.long q0), (.long q0)])) _
        refine XS.lcmp X255.here hx rfl (hb hby at_135) rfl ?_
        show Steps p.tables e below (T255.setTop (mkF m 136 #[.val (.long q0), .second, .val (.long q1), .second, .val (.int p2), .val (.int p3), .val (.int p4), .val (.int p5), .val (.ref b1), .val (.ref b5), .val (.ref b169), .val (.ref b201), .val (.int (0 : Int32)), .val (.ref b169), .val (.long q0), .second, .val (.long q1), .second, .val (.int p2)] [(.int (lcmpW q0 q0))])) _
        refine XS.ifNo X255.here hx rfl (hb hby at_136) rfl ((if0 _ _).trans (teq (own_lc _)).2) ?_
        show Steps p.tables e below (T255.setTop (mkF m 139 #[.val (.long q0), .second, .val (.long q1), .second, .val (.int p2), .val (.int p3), .val (.int p4), .val (.int p5), .val (.ref b1), .val (.ref b5), .val (.ref b169), .val (.ref b201), .val (.int (0 : Int32)), .val (.ref b169), .val (.long q0), .second, .val (.long q1), .second, .val (.int p2)] [])) _
        refine XS.aload X255.here hx rfl (hb hby at_139) rfl rfl ?_
        show Steps p.tables e below (T255.setTop (mkF m 141 #[.val (.long q0), .second, .val (.long q1), .second, .val (.int p2), .val (.int p3), .val (.int p4), .val (.int p5), .val (.ref b1), .val (.ref b5), .val (.ref b169), .val (.ref b201), .val (.int (0 : Int32)), .val (.ref b169), .val (.long q0), .second, .val (.long q1), .second, .val (.int p2)] [(.ref b5)])) _
        refine st260.trans ?_
        show Steps p.tables e below (T260.setTop (mkF m 144 #[.val (.long q0), .second, .val (.long q1), .second, .val (.int p2), .val (.int p3), .val (.int p4), .val (.int p5), .val (.ref b1), .val (.ref b5), .val (.ref b169), .val (.ref b201), .val (.int (0 : Int32)), .val (.ref b169), .val (.long q0), .second, .val (.long q1), .second, .val (.int p2)] [(.long q1)])) _
        refine XS.lload X260.here hx rfl (hb hby at_144) rfl ?_
        show Steps p.tables e below (T260.setTop (mkF m 146 #[.val (.long q0), .second, .val (.long q1), .second, .val (.int p2), .val (.int p3), .val (.int p4), .val (.int p5), .val (.ref b1), .val (.ref b5), .val (.ref b169), .val (.ref b201), .val (.int (0 : Int32)), .val (.ref b169), .val (.long q0), .second, .val (.long q1), .second, .val (.int p2)] [(.long q1), (.long q1)])) _
        refine XS.lcmp X260.here hx rfl (hb hby at_146) rfl ?_
        show Steps p.tables e below (T260.setTop (mkF m 147 #[.val (.long q0), .second, .val (.long q1), .second, .val (.int p2), .val (.int p3), .val (.int p4), .val (.int p5), .val (.ref b1), .val (.ref b5), .val (.ref b169), .val (.ref b201), .val (.int (0 : Int32)), .val (.ref b169), .val (.long q0), .second, .val (.long q1), .second, .val (.int p2)] [(.int (lcmpW q1 q1))])) _
        refine XS.ifNo X260.here hx rfl (hb hby at_147) rfl ((if0 _ _).trans (teq (own_lc _)).2) ?_
        show Steps p.tables e below (T260.setTop (mkF m 150 #[.val (.long q0), .second, .val (.long q1), .second, .val (.int p2), .val (.int p3), .val (.int p4), .val (.int p5), .val (.ref b1), .val (.ref b5), .val (.ref b169), .val (.ref b201), .val (.int (0 : Int32)), .val (.ref b169), .val (.long q0), .second, .val (.long q1), .second, .val (.int p2)] [])) _
        refine XS.aload X260.here hx rfl (hb hby at_150) rfl rfl ?_
        show Steps p.tables e below (T260.setTop (mkF m 152 #[.val (.long q0), .second, .val (.long q1), .second, .val (.int p2), .val (.int p3), .val (.int p4), .val (.int p5), .val (.ref b1), .val (.ref b5), .val (.ref b169), .val (.ref b201), .val (.int (0 : Int32)), .val (.ref b169), .val (.long q0), .second, .val (.long q1), .second, .val (.int p2)] [(.ref b5)])) _
        refine st265.trans ?_
        show Steps p.tables e below (T265.setTop (mkF m 155 #[.val (.long q0), .second, .val (.long q1), .second, .val (.int p2), .val (.int p3), .val (.int p4), .val (.int p5), .val (.ref b1), .val (.ref b5), .val (.ref b169), .val (.ref b201), .val (.int (0 : Int32)), .val (.ref b169), .val (.long q0), .second, .val (.long q1), .second, .val (.int p2)] [(.int p2)])) _
        refine XS.iload X265.here hx rfl (hb hby at_155) rfl ?_
        show Steps p.tables e below (T265.setTop (mkF m 157 #[.val (.long q0), .second, .val (.long q1), .second, .val (.int p2), .val (.int p3), .val (.int p4), .val (.int p5), .val (.ref b1), .val (.ref b5), .val (.ref b169), .val (.ref b201), .val (.int (0 : Int32)), .val (.ref b169), .val (.long q0), .second, .val (.long q1), .second, .val (.int p2)] [(.int p2), (.int p2)])) _
        refine XS.icmpNo X265.here hx rfl (hb hby at_157) rfl (teq (rfl : p2 = p2)).2 ?_
        show Steps p.tables e below (T265.setTop (mkF m 160 #[.val (.long q0), .second, .val (.long q1), .second, .val (.int p2), .val (.int p3), .val (.int p4), .val (.int p5), .val (.ref b1), .val (.ref b5), .val (.ref b169), .val (.ref b201), .val (.int (0 : Int32)), .val (.ref b169), .val (.long q0), .second, .val (.long q1), .second, .val (.int p2)] [])) _
        refine XS.aload X265.here hx rfl (hb hby at_160) rfl rfl ?_
        show Steps p.tables e below (T265.setTop (mkF m 162 #[.val (.long q0), .second, .val (.long q1), .second, .val (.int p2), .val (.int p3), .val (.int p4), .val (.int p5), .val (.ref b1), .val (.ref b5), .val (.ref b169), .val (.ref b201), .val (.int (0 : Int32)), .val (.ref b169), .val (.long q0), .second, .val (.long q1), .second, .val (.int p2)] [(.ref b5)])) _
        refine st270.trans ?_
        show Steps p.tables e below (T270.setTop (mkF m 165 #[.val (.long q0), .second, .val (.long q1), .second, .val (.int p2), .val (.int p3), .val (.int p4), .val (.int p5), .val (.ref b1), .val (.ref b5), .val (.ref b169), .val (.ref b201), .val (.int (0 : Int32)), .val (.ref b169), .val (.long q0), .second, .val (.long q1), .second, .val (.int p2)] [(.int p3)])) _
        refine XS.iload X270.here hx rfl (hb hby at_165) rfl ?_
        show Steps p.tables e below (T270.setTop (mkF m 167 #[.val (.long q0), .second, .val (.long q1), .second, .val (.int p2), .val (.int p3), .val (.int p4), .val (.int p5), .val (.ref b1), .val (.ref b5), .val (.ref b169), .val (.ref b201), .val (.int (0 : Int32)), .val (.ref b169), .val (.long q0), .second, .val (.long q1), .second, .val (.int p2)] [(.int p3), (.int p3)])) _
        refine XS.icmpNo X270.here hx rfl (hb hby at_167) rfl (teq (rfl : p3 = p3)).2 ?_
        show Steps p.tables e below (T270.setTop (mkF m 170 #[.val (.long q0), .second, .val (.long q1), .second, .val (.int p2), .val (.int p3), .val (.int p4), .val (.int p5), .val (.ref b1), .val (.ref b5), .val (.ref b169), .val (.ref b201), .val (.int (0 : Int32)), .val (.ref b169), .val (.long q0), .second, .val (.long q1), .second, .val (.int p2)] [])) _
        refine XS.aload X270.here hx rfl (hb hby at_170) rfl rfl ?_
        show Steps p.tables e below (T270.setTop (mkF m 172 #[.val (.long q0), .second, .val (.long q1), .second, .val (.int p2), .val (.int p3), .val (.int p4), .val (.int p5), .val (.ref b1), .val (.ref b5), .val (.ref b169), .val (.ref b201), .val (.int (0 : Int32)), .val (.ref b169), .val (.long q0), .second, .val (.long q1), .second, .val (.int p2)] [(.ref b5)])) _
        refine st275.trans ?_
        show Steps p.tables e below (T275.setTop (mkF m 175 #[.val (.long q0), .second, .val (.long q1), .second, .val (.int p2), .val (.int p3), .val (.int p4), .val (.int p5), .val (.ref b1), .val (.ref b5), .val (.ref b169), .val (.ref b201), .val (.int (0 : Int32)), .val (.ref b169), .val (.long q0), .second, .val (.long q1), .second, .val (.int p2)] [(.int p4)])) _
        refine XS.iload X275.here hx rfl (hb hby at_175) rfl ?_
        show Steps p.tables e below (T275.setTop (mkF m 177 #[.val (.long q0), .second, .val (.long q1), .second, .val (.int p2), .val (.int p3), .val (.int p4), .val (.int p5), .val (.ref b1), .val (.ref b5), .val (.ref b169), .val (.ref b201), .val (.int (0 : Int32)), .val (.ref b169), .val (.long q0), .second, .val (.long q1), .second, .val (.int p2)] [(.int p4), (.int p4)])) _
        refine XS.icmpNo X275.here hx rfl (hb hby at_177) rfl (teq (rfl : p4 = p4)).2 ?_
        show Steps p.tables e below (T275.setTop (mkF m 180 #[.val (.long q0), .second, .val (.long q1), .second, .val (.int p2), .val (.int p3), .val (.int p4), .val (.int p5), .val (.ref b1), .val (.ref b5), .val (.ref b169), .val (.ref b201), .val (.int (0 : Int32)), .val (.ref b169), .val (.long q0), .second, .val (.long q1), .second, .val (.int p2)] [])) _
        refine XS.aload X275.here hx rfl (hb hby at_180) rfl rfl ?_
        show Steps p.tables e below (T275.setTop (mkF m 182 #[.val (.long q0), .second, .val (.long q1), .second, .val (.int p2), .val (.int p3), .val (.int p4), .val (.int p5), .val (.ref b1), .val (.ref b5), .val (.ref b169), .val (.ref b201), .val (.int (0 : Int32)), .val (.ref b169), .val (.long q0), .second, .val (.long q1), .second, .val (.int p2)] [(.ref b5)])) _
        refine st280.trans ?_
        show Steps p.tables e below (T280.setTop (mkF m 185 #[.val (.long q0), .second, .val (.long q1), .second, .val (.int p2), .val (.int p3), .val (.int p4), .val (.int p5), .val (.ref b1), .val (.ref b5), .val (.ref b169), .val (.ref b201), .val (.int (0 : Int32)), .val (.ref b169), .val (.long q0), .second, .val (.long q1), .second, .val (.int p2)] [(.ref b1)])) _
        refine XS.aload X280.here hx rfl (hb hby at_185) rfl rfl ?_
        show Steps p.tables e below (T280.setTop (mkF m 187 #[.val (.long q0), .second, .val (.long q1), .second, .val (.int p2), .val (.int p3), .val (.int p4), .val (.int p5), .val (.ref b1), .val (.ref b5), .val (.ref b169), .val (.ref b201), .val (.int (0 : Int32)), .val (.ref b169), .val (.long q0), .second, .val (.long q1), .second, .val (.int p2)] [(.ref b1), (.ref b1)])) _
        refine Jvm.RoadKit.acmp (g := (mkF m 187 #[.val (.long q0), .second, .val (.long q1), .second, .val (.int p2), .val (.int p3), .val (.int p4), .val (.int p5), .val (.ref b1), .val (.ref b5), .val (.ref b169), .val (.ref b201), .val (.int (0 : Int32)), .val (.ref b169), .val (.long q0), .second, .val (.long q1), .second, .val (.int p2)] [(.ref b1), (.ref b1)])) X280 hx rfl rfl rfl (pc0 := 187) (pc' := 190) (same := true) rfl (hb hby at_187) rfl (decide_eq_true rfl) (by decide) (by decide) ?_
        show Steps p.tables e below (T280.setTop (mkF m 190 #[.val (.long q0), .second, .val (.long q1), .second, .val (.int p2), .val (.int p3), .val (.int p4), .val (.int p5), .val (.ref b1), .val (.ref b5), .val (.ref b169), .val (.ref b201), .val (.int (0 : Int32)), .val (.ref b169), .val (.long q0), .second, .val (.long q1), .second, .val (.int p2)] [])) _
        refine XS.iconst X280.here hx rfl (hb hby at_190) ?_
        show Steps p.tables e below (T280.setTop (mkF m 191 #[.val (.long q0), .second, .val (.long q1), .second, .val (.int p2), .val (.int p3), .val (.int p4), .val (.int p5), .val (.ref b1), .val (.ref b5), .val (.ref b169), .val (.ref b201), .val (.int (0 : Int32)), .val (.ref b169), .val (.long q0), .second, .val (.long q1), .second, .val (.int p2)] [(.int (1 : Int32))])) _
        refine XS.goto X280.here hx rfl (pc0 := 191) (pc' := 195) rfl (hb hby at_191) (by decide) (by decide) ?_
        exact kt
      obtain ⟨fs, hr, hrun, hended, hW, hsame⟩ := X280.leave (v := some (.int (1 : Int32))) (fun h => by rw [Bd.returns] at h; cases h)
      refine ⟨_, _, pre284 _ ?_, hrun, hended, _, _, rfl, ?_, ⟨_, rfl⟩, hW, hsame.mono (by decide) (by decide)⟩
      · show Steps p.tables e below (T280.setTop (mkF m 195 #[.val (.long q0), .second, .val (.long q1), .second, .val (.int p2), .val (.int p3), .val (.int p4), .val (.int p5), .val (.ref b1), .val (.ref b5), .val (.ref b169), .val (.ref b201), .val (.int (0 : Int32)), .val (.ref b169), .val (.long q0), .second, .val (.long q1), .second, .val (.int p2)] [(.int (1 : Int32))])) _
        exact retN X280 hx (t := .boolean) Bd.returns (by simp) (hb hby at_195) hr
      · show own_Q_law Z q0 q1 p2 p3 p4 p5 aS h0 n0 (some (.int (1 : Int32))) T280.heap _
        rw [eq282]
        exact ⟨rfl, nf283⟩
    · have zs285 : n0 ≤ T218.heap.size := Nat.le_trans Z0 k233.1
      obtain ⟨cq287, kq287, q287a, q287b, q287c⟩ := isOf hZ rfl f223
      obtain ⟨_, _, ⟨T286, L286, k286, n286⟩, -, X286, ⟨Lc286, hQ286, l286, y286, z286⟩, st286⟩ := X218.virtualBack hx (y := (⟨"com/example/interleave/interleave/check/Expansion", "tookIn", "(Ljava/util/List;JJI)V"⟩ : MethodName)) (z := (⟨"com/example/interleave/interleave/check/Expansion", "tookIn", "(Ljava/util/List;JJI)V"⟩ : MethodName)) hown (mvT hZ (hw _ (List.mem_of_getElem? (i := 46) rfl))) (mvT hZ (hw _ (List.mem_of_getElem? (i := 47) rfl))) (notFace_of_selects (args := #[]) (mvT hZ (hw _ (List.mem_of_getElem? (i := 49) rfl)))) (mvT hZ (hw _ (List.mem_of_getElem? (i := 49) rfl))) (mvT hZ (hw _ (List.mem_of_getElem? (i := 48) rfl))) (by decide) (backOf (W := 0) (own_rm_tkR l Z a0 hw [] b5 b169 q0 q1 p2 .null (.long (0 : Int64)) (.long (0 : Int64)) (.int (0 : Int32)) p3 p4 b1 T218.heap n0 zs285 f223 f227 f228 f229 f230 f224 f225 f226 gn_b5) hZ (hw _ (List.mem_of_getElem? (i := 50) rfl)) (hw _ (List.mem_of_getElem? (i := 3) rfl)) (by decide) (by decide)) q287a q287c (g := (mkF m 71 #[.val (.long q0), .second, .val (.long q1), .second, .val (.int p2), .val (.int p3), .val (.int p4), .val (.int p5), .val (.ref b1), .val (.ref b5), .val (.ref b169), .val (.ref b201), .val (.int (1 : Int32)), .unset, .unset, .unset, .unset, .unset, .unset] [(.int p2), (.long q1), (.long q0), (.ref b169), (.ref b5)])) rfl (by rw [hml]; rfl) (Steps.refl _) (argsL := [(.ref b169), (.long q0), (.long q1), (.int p2)]) (rest := []) (lenOf own_pd2 rfl) rfl (by show 2 * 0 + _ ≤ _; exact Nat.le_of_eq rfl) (hb hby at_71) (fun _ _ => ⟨rfl, rfl, (by decide : 6 + 0 ≤ _), (by decide : 34 + 0 ≤ _)⟩)
      dsimp only [Pt.U, Pt.locs, Pt.cells, Pt.slots] at X286 l286 y286 z286 st286 hQ286
      subst l286 y286 z286
      obtain ⟨rfl, N288, K288, c288_0, c288_1, c288_2, c288_3, c288_4, c288_5, c288_6⟩ := hQ286
      have f289 := own_sta_keep f220 K288 (own_pl_cons f223 all0)
      have f290 := f221.keep K288
      have f291 := f222.keep K288 (ninS ne_b1_b5 nin0)
      have f292 := f223.keep K288
      have f293 := f231.keep K288
      have f294 := f232.keep K288
      have k295 := k233.trans K288 (allS (Or.inr sz_b5) all0)
      have nf296 := Fr.app nf234 N288
      have zs297 : n0 ≤ T286.heap.size := Nat.le_trans Z0 k295.1
      obtain ⟨cq299, kq299, q299a, q299b, q299c⟩ := isOf hZ rfl f292
      obtain ⟨_, _, ⟨T298, L298, k298, n298⟩, -, X298, ⟨Lc298, hQ298, l298, y298, z298⟩, st298⟩ := X286.virtualBack hx (y := (⟨"com/example/interleave/interleave/check/Expansion", "tookIn", "(Ljava/util/List;JJI)V"⟩ : MethodName)) (z := (⟨"com/example/interleave/interleave/check/Expansion", "tookIn", "(Ljava/util/List;JJI)V"⟩ : MethodName)) hown (mvT hZ (hw _ (List.mem_of_getElem? (i := 46) rfl))) (mvT hZ (hw _ (List.mem_of_getElem? (i := 47) rfl))) (notFace_of_selects (args := #[]) (mvT hZ (hw _ (List.mem_of_getElem? (i := 49) rfl)))) (mvT hZ (hw _ (List.mem_of_getElem? (i := 49) rfl))) (mvT hZ (hw _ (List.mem_of_getElem? (i := 48) rfl))) (by decide) (backOf (W := 0) (own_rm_tkR l Z a0 hw [] b5 b201 q1 q0 p4 (.ref b169) (.long q0) (.long q1) (.int p2) p3 p4 b1 T286.heap n0 zs297 f292 c288_0 c288_1 c288_2 c288_3 c288_4 c288_5 c288_6 gn_b5) hZ (hw _ (List.mem_of_getElem? (i := 50) rfl)) (hw _ (List.mem_of_getElem? (i := 3) rfl)) (by decide) (by decide)) q299a q299c (g := (mkF m 101 #[.val (.long q0), .second, .val (.long q1), .second, .val (.int p2), .val (.int p3), .val (.int p4), .val (.int p5), .val (.ref b1), .val (.ref b5), .val (.ref b169), .val (.ref b201), .val (.int (1 : Int32)), .val (.ref b169), .val (.long q0), .second, .val (.long q1), .second, .val (.int p2)] [(.int p4), (.long q0), (.long q1), (.ref b201), (.ref b5)])) rfl (by rw [hml]; rfl) (Steps.refl _) (argsL := [(.ref b201), (.long q1), (.long q0), (.int p4)]) (rest := []) (lenOf own_pd2 rfl) rfl (by show 2 * 0 + _ ≤ _; exact Nat.le_of_eq rfl) (hb hby at_101) (fun _ _ => ⟨rfl, rfl, (by decide : 6 + 0 ≤ _), (by decide : 34 + 0 ≤ _)⟩)
      dsimp only [Pt.U, Pt.locs, Pt.cells, Pt.slots] at X298 l298 y298 z298 st298 hQ298
      subst l298 y298 z298
      obtain ⟨rfl, N300, K300, c300_0, c300_1, c300_2, c300_3, c300_4, c300_5, c300_6⟩ := hQ298
      have f301 := own_sta_keep f289 K300 (own_pl_cons f292 all0)
      have f302 := f290.keep K300
      have f303 := f291.keep K300 (ninS ne_b1_b5 nin0)
      have f304 := f292.keep K300
      have f305 := f293.keep K300
      have f306 := f294.keep K300
      have k307 := k295.trans K300 (allS (Or.inr sz_b5) all0)
      have nf308 := Fr.app nf296 N300
      have zs309 : n0 ≤ T298.heap.size := Nat.le_trans Z0 k307.1
      obtain ⟨cq311, kq311, q311a, q311b, q311c⟩ := isOf hZ rfl f304
      obtain ⟨_, _, ⟨T310, L310, k310, n310⟩, -, X310, ⟨Lc310, hQ310, l310, y310, z310⟩, st310⟩ := X298.virtualBack hx (y := (⟨"com/example/interleave/interleave/check/Expansion", "fresh", "()Ljava/util/List;"⟩ : MethodName)) (z := (⟨"com/example/interleave/interleave/check/Expansion", "fresh", "()Ljava/util/List;"⟩ : MethodName)) hown (mvT hZ (hw _ (List.mem_of_getElem? (i := 59) rfl))) (mvT hZ (hw _ (List.mem_of_getElem? (i := 60) rfl))) (notFace_of_selects (args := #[]) (mvT hZ (hw _ (List.mem_of_getElem? (i := 62) rfl)))) (mvT hZ (hw _ (List.mem_of_getElem? (i := 62) rfl))) (mvT hZ (hw _ (List.mem_of_getElem? (i := 61) rfl))) (by decide) (backOf (W := 0) (own_rm_gfR l Z a0 hw [] b5 b201 T298.heap n0 zs309 c300_0) hZ (hw _ (List.mem_of_getElem? (i := 63) rfl)) (hw _ (List.mem_of_getElem? (i := 3) rfl)) (by decide) (by decide)) q311a q311c (g := (mkF m 120 #[.val (.long q0), .second, .val (.long q1), .second, .val (.int p2), .val (.int p3), .val (.int p4), .val (.int p5), .val (.ref b1), .val (.ref b5), .val (.ref b169), .val (.ref b201), .val (.int (1 : Int32)), .val (.ref b201), .val (.long q1), .second, .val (.long q0), .second, .val (.int p4)] [(.ref b5)])) rfl (by rw [hml]; rfl) (Steps.refl _) (argsL := []) (rest := []) (lenOf own_pd3 rfl) rfl (by show 2 * 0 + _ ≤ _; exact Nat.le_of_eq rfl) (hb hby at_120) (fun _ _ => ⟨rfl, rfl, (by decide : 6 + 0 ≤ _), (by decide : 34 + 0 ≤ _)⟩)
      dsimp only [Pt.U, Pt.locs, Pt.cells, Pt.slots] at X310 l310 y310 z310 st310 hQ310
      subst l310 y310 z310
      obtain ⟨rfl, N312, eq312⟩ := hQ310
      have nf313 := Fr.app nf308 N312
      have zs314 : n0 ≤ T298.heap.size := Nat.le_trans Z0 k307.1
      obtain ⟨cq316, kq316, q316a, q316b, q316c⟩ := isOf hZ eq312 f304
      obtain ⟨_, _, ⟨T315, L315, k315, n315⟩, -, X315, ⟨Lc315, hQ315, l315, y315, z315⟩, st315⟩ := X310.virtualBack hx (y := (⟨"com/example/interleave/interleave/check/Expansion", "generated", "()J"⟩ : MethodName)) (z := (⟨"com/example/interleave/interleave/check/Expansion", "generated", "()J"⟩ : MethodName)) hown (mvT hZ (hw _ (List.mem_of_getElem? (i := 64) rfl))) (mvT hZ (hw _ (List.mem_of_getElem? (i := 65) rfl))) (notFace_of_selects (args := #[]) (mvT hZ (hw _ (List.mem_of_getElem? (i := 67) rfl)))) (mvT hZ (hw _ (List.mem_of_getElem? (i := 67) rfl))) (mvT hZ (hw _ (List.mem_of_getElem? (i := 66) rfl))) (by decide) (backOf (W := 0) (own_rm_ggn l Z a0 hw [] b5 q1 T298.heap n0 zs314 c300_1) hZ (hw _ (List.mem_of_getElem? (i := 68) rfl)) (hw _ (List.mem_of_getElem? (i := 3) rfl)) (by decide) (by decide)) q316a q316c (g := (mkF m 130 #[.val (.long q0), .second, .val (.long q1), .second, .val (.int p2), .val (.int p3), .val (.int p4), .val (.int p5), .val (.ref b1), .val (.ref b5), .val (.ref b169), .val (.ref b201), .val (.int (1 : Int32)), .val (.ref b201), .val (.long q1), .second, .val (.long q0), .second, .val (.int p4)] [(.ref b5)])) rfl (by rw [hml]; rfl) (Steps.refl _) (argsL := []) (rest := []) (lenOf own_pd4 rfl) rfl (by show 2 * 0 + _ ≤ _; exact Nat.le_of_eq rfl) (hb hby at_130) (fun _ _ => ⟨rfl, eq312, (by decide : 6 + 0 ≤ _), (by decide : 34 + 0 ≤ _)⟩)
      dsimp only [Pt.U, Pt.locs, Pt.cells, Pt.slots] at X315 l315 y315 z315 st315 hQ315
      subst l315 y315 z315
      obtain ⟨rfl, N317, eq317⟩ := hQ315
      have nf318 := Fr.app nf313 N317
      have zs319 : n0 ≤ T298.heap.size := Nat.le_trans Z0 k307.1
      obtain ⟨cq321, kq321, q321a, q321b, q321c⟩ := isOf hZ eq317 f304
      obtain ⟨_, _, ⟨T320, L320, k320, n320⟩, -, X320, ⟨Lc320, hQ320, l320, y320, z320⟩, st320⟩ := X315.virtualBack hx (y := (⟨"com/example/interleave/interleave/check/Expansion", "distinct", "()J"⟩ : MethodName)) (z := (⟨"com/example/interleave/interleave/check/Expansion", "distinct", "()J"⟩ : MethodName)) hown (mvT hZ (hw _ (List.mem_of_getElem? (i := 69) rfl))) (mvT hZ (hw _ (List.mem_of_getElem? (i := 70) rfl))) (notFace_of_selects (args := #[]) (mvT hZ (hw _ (List.mem_of_getElem? (i := 72) rfl)))) (mvT hZ (hw _ (List.mem_of_getElem? (i := 72) rfl))) (mvT hZ (hw _ (List.mem_of_getElem? (i := 71) rfl))) (by decide) (backOf (W := 0) (own_rm_gdi l Z a0 hw [] b5 q0 T298.heap n0 zs319 c300_2) hZ (hw _ (List.mem_of_getElem? (i := 73) rfl)) (hw _ (List.mem_of_getElem? (i := 3) rfl)) (by decide) (by decide)) q321a q321c (g := (mkF m 141 #[.val (.long q0), .second, .val (.long q1), .second, .val (.int p2), .val (.int p3), .val (.int p4), .val (.int p5), .val (.ref b1), .val (.ref b5), .val (.ref b169), .val (.ref b201), .val (.int (1 : Int32)), .val (.ref b201), .val (.long q1), .second, .val (.long q0), .second, .val (.int p4)] [(.ref b5)])) rfl (by rw [hml]; rfl) (Steps.refl _) (argsL := []) (rest := []) (lenOf own_pd4 rfl) rfl (by show 2 * 0 + _ ≤ _; exact Nat.le_of_eq rfl) (hb hby at_141) (fun _ _ => ⟨rfl, eq317, (by decide : 6 + 0 ≤ _), (by decide : 34 + 0 ≤ _)⟩)
      dsimp only [Pt.U, Pt.locs, Pt.cells, Pt.slots] at X320 l320 y320 z320 st320 hQ320
      subst l320 y320 z320
      obtain ⟨rfl, N322, eq322⟩ := hQ320
      have nf323 := Fr.app nf318 N322
      have zs324 : n0 ≤ T298.heap.size := Nat.le_trans Z0 k307.1
      obtain ⟨cq326, kq326, q326a, q326b, q326c⟩ := isOf hZ eq322 f304
      obtain ⟨_, _, ⟨T325, L325, k325, n325⟩, -, X325, ⟨Lc325, hQ325, l325, y325, z325⟩, st325⟩ := X320.virtualBack hx (y := (⟨"com/example/interleave/interleave/check/Expansion", "depth", "()I"⟩ : MethodName)) (z := (⟨"com/example/interleave/interleave/check/Expansion", "depth", "()I"⟩ : MethodName)) hown (mvT hZ (hw _ (List.mem_of_getElem? (i := 74) rfl))) (mvT hZ (hw _ (List.mem_of_getElem? (i := 75) rfl))) (notFace_of_selects (args := #[]) (mvT hZ (hw _ (List.mem_of_getElem? (i := 77) rfl)))) (mvT hZ (hw _ (List.mem_of_getElem? (i := 77) rfl))) (mvT hZ (hw _ (List.mem_of_getElem? (i := 76) rfl))) (by decide) (backOf (W := 0) (own_rm_gde l Z a0 hw [] b5 p4 T298.heap n0 zs324 c300_3) hZ (hw _ (List.mem_of_getElem? (i := 78) rfl)) (hw _ (List.mem_of_getElem? (i := 3) rfl)) (by decide) (by decide)) q326a q326c (g := (mkF m 152 #[.val (.long q0), .second, .val (.long q1), .second, .val (.int p2), .val (.int p3), .val (.int p4), .val (.int p5), .val (.ref b1), .val (.ref b5), .val (.ref b169), .val (.ref b201), .val (.int (1 : Int32)), .val (.ref b201), .val (.long q1), .second, .val (.long q0), .second, .val (.int p4)] [(.ref b5)])) rfl (by rw [hml]; rfl) (Steps.refl _) (argsL := []) (rest := []) (lenOf own_pd5 rfl) rfl (by show 2 * 0 + _ ≤ _; exact Nat.le_of_eq rfl) (hb hby at_152) (fun _ _ => ⟨rfl, eq322, (by decide : 6 + 0 ≤ _), (by decide : 34 + 0 ≤ _)⟩)
      dsimp only [Pt.U, Pt.locs, Pt.cells, Pt.slots] at X325 l325 y325 z325 st325 hQ325
      subst l325 y325 z325
      obtain ⟨rfl, N327, eq327⟩ := hQ325
      have nf328 := Fr.app nf323 N327
      have zs329 : n0 ≤ T298.heap.size := Nat.le_trans Z0 k307.1
      obtain ⟨cq331, kq331, q331a, q331b, q331c⟩ := isOf hZ eq327 f304
      obtain ⟨_, _, ⟨T330, L330, k330, n330⟩, -, X330, ⟨Lc330, hQ330, l330, y330, z330⟩, st330⟩ := X325.virtualBack hx (y := (⟨"com/example/interleave/interleave/check/Expansion", "sourceId", "()I"⟩ : MethodName)) (z := (⟨"com/example/interleave/interleave/check/Expansion", "sourceId", "()I"⟩ : MethodName)) hown (mvT hZ (hw _ (List.mem_of_getElem? (i := 79) rfl))) (mvT hZ (hw _ (List.mem_of_getElem? (i := 80) rfl))) (notFace_of_selects (args := #[]) (mvT hZ (hw _ (List.mem_of_getElem? (i := 82) rfl)))) (mvT hZ (hw _ (List.mem_of_getElem? (i := 82) rfl))) (mvT hZ (hw _ (List.mem_of_getElem? (i := 81) rfl))) (by decide) (backOf (W := 0) (own_rm_gsi l Z a0 hw [] b5 p3 T298.heap n0 zs329 c300_4) hZ (hw _ (List.mem_of_getElem? (i := 83) rfl)) (hw _ (List.mem_of_getElem? (i := 3) rfl)) (by decide) (by decide)) q331a q331c (g := (mkF m 162 #[.val (.long q0), .second, .val (.long q1), .second, .val (.int p2), .val (.int p3), .val (.int p4), .val (.int p5), .val (.ref b1), .val (.ref b5), .val (.ref b169), .val (.ref b201), .val (.int (1 : Int32)), .val (.ref b201), .val (.long q1), .second, .val (.long q0), .second, .val (.int p4)] [(.ref b5)])) rfl (by rw [hml]; rfl) (Steps.refl _) (argsL := []) (rest := []) (lenOf own_pd5 rfl) rfl (by show 2 * 0 + _ ≤ _; exact Nat.le_of_eq rfl) (hb hby at_162) (fun _ _ => ⟨rfl, eq327, (by decide : 6 + 0 ≤ _), (by decide : 34 + 0 ≤ _)⟩)
      dsimp only [Pt.U, Pt.locs, Pt.cells, Pt.slots] at X330 l330 y330 z330 st330 hQ330
      subst l330 y330 z330
      obtain ⟨rfl, N332, eq332⟩ := hQ330
      have nf333 := Fr.app nf328 N332
      have zs334 : n0 ≤ T298.heap.size := Nat.le_trans Z0 k307.1
      obtain ⟨cq336, kq336, q336a, q336b, q336c⟩ := isOf hZ eq332 f304
      obtain ⟨_, _, ⟨T335, L335, k335, n335⟩, -, X335, ⟨Lc335, hQ335, l335, y335, z335⟩, st335⟩ := X330.virtualBack hx (y := (⟨"com/example/interleave/interleave/check/Expansion", "sourceParent", "()I"⟩ : MethodName)) (z := (⟨"com/example/interleave/interleave/check/Expansion", "sourceParent", "()I"⟩ : MethodName)) hown (mvT hZ (hw _ (List.mem_of_getElem? (i := 84) rfl))) (mvT hZ (hw _ (List.mem_of_getElem? (i := 85) rfl))) (notFace_of_selects (args := #[]) (mvT hZ (hw _ (List.mem_of_getElem? (i := 87) rfl)))) (mvT hZ (hw _ (List.mem_of_getElem? (i := 87) rfl))) (mvT hZ (hw _ (List.mem_of_getElem? (i := 86) rfl))) (by decide) (backOf (W := 0) (own_rm_gsp l Z a0 hw [] b5 p4 T298.heap n0 zs334 c300_5) hZ (hw _ (List.mem_of_getElem? (i := 88) rfl)) (hw _ (List.mem_of_getElem? (i := 3) rfl)) (by decide) (by decide)) q336a q336c (g := (mkF m 172 #[.val (.long q0), .second, .val (.long q1), .second, .val (.int p2), .val (.int p3), .val (.int p4), .val (.int p5), .val (.ref b1), .val (.ref b5), .val (.ref b169), .val (.ref b201), .val (.int (1 : Int32)), .val (.ref b201), .val (.long q1), .second, .val (.long q0), .second, .val (.int p4)] [(.ref b5)])) rfl (by rw [hml]; rfl) (Steps.refl _) (argsL := []) (rest := []) (lenOf own_pd5 rfl) rfl (by show 2 * 0 + _ ≤ _; exact Nat.le_of_eq rfl) (hb hby at_172) (fun _ _ => ⟨rfl, eq332, (by decide : 6 + 0 ≤ _), (by decide : 34 + 0 ≤ _)⟩)
      dsimp only [Pt.U, Pt.locs, Pt.cells, Pt.slots] at X335 l335 y335 z335 st335 hQ335
      subst l335 y335 z335
      obtain ⟨rfl, N337, eq337⟩ := hQ335
      have nf338 := Fr.app nf333 N337
      have zs339 : n0 ≤ T298.heap.size := Nat.le_trans Z0 k307.1
      obtain ⟨cq341, kq341, q341a, q341b, q341c⟩ := isOf hZ eq337 f304
      obtain ⟨_, _, ⟨T340, L340, k340, n340⟩, -, X340, ⟨Lc340, hQ340, l340, y340, z340⟩, st340⟩ := X335.virtualBack hx (y := (⟨"com/example/interleave/interleave/check/Expansion", "sourceBytes", "()[B"⟩ : MethodName)) (z := (⟨"com/example/interleave/interleave/check/Expansion", "sourceBytes", "()[B"⟩ : MethodName)) hown (mvT hZ (hw _ (List.mem_of_getElem? (i := 89) rfl))) (mvT hZ (hw _ (List.mem_of_getElem? (i := 90) rfl))) (notFace_of_selects (args := #[]) (mvT hZ (hw _ (List.mem_of_getElem? (i := 92) rfl)))) (mvT hZ (hw _ (List.mem_of_getElem? (i := 92) rfl))) (mvT hZ (hw _ (List.mem_of_getElem? (i := 91) rfl))) (by decide) (backOf (W := 0) (own_rm_gsb l Z a0 hw [] b5 b1 T298.heap n0 zs339 c300_6) hZ (hw _ (List.mem_of_getElem? (i := 93) rfl)) (hw _ (List.mem_of_getElem? (i := 3) rfl)) (by decide) (by decide)) q341a q341c (g := (mkF m 182 #[.val (.long q0), .second, .val (.long q1), .second, .val (.int p2), .val (.int p3), .val (.int p4), .val (.int p5), .val (.ref b1), .val (.ref b5), .val (.ref b169), .val (.ref b201), .val (.int (1 : Int32)), .val (.ref b201), .val (.long q1), .second, .val (.long q0), .second, .val (.int p4)] [(.ref b5)])) rfl (by rw [hml]; rfl) (Steps.refl _) (argsL := []) (rest := []) (lenOf own_pd6 rfl) rfl (by show 2 * 0 + _ ≤ _; exact Nat.le_of_eq rfl) (hb hby at_182) (fun _ _ => ⟨rfl, eq337, (by decide : 6 + 0 ≤ _), (by decide : 34 + 0 ≤ _)⟩)
      dsimp only [Pt.U, Pt.locs, Pt.cells, Pt.slots] at X340 l340 y340 z340 st340 hQ340
      subst l340 y340 z340
      obtain ⟨rfl, N342, eq342⟩ := hQ340
      have nf343 := Fr.app nf338 N342
      have pre344 : ∀ t, Steps p.tables e below (T340.setTop (mkF m 195 #[.val (.long q0), .second, .val (.long q1), .second, .val (.int p2), .val (.int p3), .val (.int p4), .val (.int p5), .val (.ref b1), .val (.ref b5), .val (.ref b169), .val (.ref b201), .val (.int (1 : Int32)), .val (.ref b201), .val (.long q1), .second, .val (.long q0), .second, .val (.int p4)] [(.int (1 : Int32))])) t → Steps p.tables e below (s₁.setTop (entryFrame m #[(.long q0), (.long q1), (.int p2), (.int p3), (.int p4), (.int p5)] maxLocals)) t := by
        intro t kt
        refine pre235 t ?_
        show Steps p.tables e below (T218.setTop (mkF m 53 #[.val (.long q0), .second, .val (.long q1), .second, .val (.int p2), .val (.int p3), .val (.int p4), .val (.int p5), .val (.ref b1), .val (.ref b5), .val (.ref b169), .val (.ref b201), .unset, .unset, .unset, .unset, .unset, .unset, .unset] [(.int (p5 &&& (2 : Int32)))])) _
        refine XS.ifNo X218.here hx rfl (hb hby at_53) rfl ((if0 _ _).trans (feq hc236).1) ?_
        show Steps p.tables e below (T218.setTop (mkF m 56 #[.val (.long q0), .second, .val (.long q1), .second, .val (.int p2), .val (.int p3), .val (.int p4), .val (.int p5), .val (.ref b1), .val (.ref b5), .val (.ref b169), .val (.ref b201), .unset, .unset, .unset, .unset, .unset, .unset, .unset] [])) _
        refine XS.iconst X218.here hx rfl (hb hby at_56) ?_
        show Steps p.tables e below (T218.setTop (mkF m 57 #[.val (.long q0), .second, .val (.long q1), .second, .val (.int p2), .val (.int p3), .val (.int p4), .val (.int p5), .val (.ref b1), .val (.ref b5), .val (.ref b169), .val (.ref b201), .unset, .unset, .unset, .unset, .unset, .unset, .unset] [(.int (1 : Int32))])) _
        refine XS.goto X218.here hx rfl (pc0 := 57) (pc' := 61) rfl (hb hby at_57) (by decide) (by decide) ?_
        show Steps p.tables e below (T218.setTop (mkF m 61 #[.val (.long q0), .second, .val (.long q1), .second, .val (.int p2), .val (.int p3), .val (.int p4), .val (.int p5), .val (.ref b1), .val (.ref b5), .val (.ref b169), .val (.ref b201), .unset, .unset, .unset, .unset, .unset, .unset, .unset] [(.int (1 : Int32))])) _
        refine XS.istore X218.here hx rfl (hb hby at_61) rfl (l' := #[.val (.long q0), .second, .val (.long q1), .second, .val (.int p2), .val (.int p3), .val (.int p4), .val (.int p5), .val (.ref b1), .val (.ref b5), .val (.ref b169), .val (.ref b201), .val (.int (1 : Int32)), .unset, .unset, .unset, .unset, .unset, .unset]) rfl ?_
        show Steps p.tables e below (T218.setTop (mkF m 63 #[.val (.long q0), .second, .val (.long q1), .second, .val (.int p2), .val (.int p3), .val (.int p4), .val (.int p5), .val (.ref b1), .val (.ref b5), .val (.ref b169), .val (.ref b201), .val (.int (1 : Int32)), .unset, .unset, .unset, .unset, .unset, .unset] [])) _
        refine XS.aload X218.here hx rfl (hb hby at_63) rfl rfl ?_
        show Steps p.tables e below (T218.setTop (mkF m 65 #[.val (.long q0), .second, .val (.long q1), .second, .val (.int p2), .val (.int p3), .val (.int p4), .val (.int p5), .val (.ref b1), .val (.ref b5), .val (.ref b169), .val (.ref b201), .val (.int (1 : Int32)), .unset, .unset, .unset, .unset, .unset, .unset] [(.ref b5)])) _
        refine XS.aload X218.here hx rfl (hb hby at_65) rfl rfl ?_
        show Steps p.tables e below (T218.setTop (mkF m 67 #[.val (.long q0), .second, .val (.long q1), .second, .val (.int p2), .val (.int p3), .val (.int p4), .val (.int p5), .val (.ref b1), .val (.ref b5), .val (.ref b169), .val (.ref b201), .val (.int (1 : Int32)), .unset, .unset, .unset, .unset, .unset, .unset] [(.ref b169), (.ref b5)])) _
        refine XS.lloadN X218.here hx rfl (hb hby at_67) rfl ?_
        show Steps p.tables e below (T218.setTop (mkF m 68 #[.val (.long q0), .second, .val (.long q1), .second, .val (.int p2), .val (.int p3), .val (.int p4), .val (.int p5), .val (.ref b1), .val (.ref b5), .val (.ref b169), .val (.ref b201), .val (.int (1 : Int32)), .unset, .unset, .unset, .unset, .unset, .unset] [(.long q0), (.ref b169), (.ref b5)])) _
        refine XS.lloadN X218.here hx rfl (hb hby at_68) rfl ?_
        show Steps p.tables e below (T218.setTop (mkF m 69 #[.val (.long q0), .second, .val (.long q1), .second, .val (.int p2), .val (.int p3), .val (.int p4), .val (.int p5), .val (.ref b1), .val (.ref b5), .val (.ref b169), .val (.ref b201), .val (.int (1 : Int32)), .unset, .unset, .unset, .unset, .unset, .unset] [(.long q1), (.long q0), (.ref b169), (.ref b5)])) _
        refine XS.iload X218.here hx rfl (hb hby at_69) rfl ?_
        show Steps p.tables e below (T218.setTop (mkF m 71 #[.val (.long q0), .second, .val (.long q1), .second, .val (.int p2), .val (.int p3), .val (.int p4), .val (.int p5), .val (.ref b1), .val (.ref b5), .val (.ref b169), .val (.ref b201), .val (.int (1 : Int32)), .unset, .unset, .unset, .unset, .unset, .unset] [(.int p2), (.long q1), (.long q0), (.ref b169), (.ref b5)])) _
        refine st286.trans ?_
        show Steps p.tables e below (T286.setTop (mkF m 74 #[.val (.long q0), .second, .val (.long q1), .second, .val (.int p2), .val (.int p3), .val (.int p4), .val (.int p5), .val (.ref b1), .val (.ref b5), .val (.ref b169), .val (.ref b201), .val (.int (1 : Int32)), .unset, .unset, .unset, .unset, .unset, .unset] [])) _
        refine XS.aload X286.here hx rfl (hb hby at_74) rfl rfl ?_
        show Steps p.tables e below (T286.setTop (mkF m 76 #[.val (.long q0), .second, .val (.long q1), .second, .val (.int p2), .val (.int p3), .val (.int p4), .val (.int p5), .val (.ref b1), .val (.ref b5), .val (.ref b169), .val (.ref b201), .val (.int (1 : Int32)), .unset, .unset, .unset, .unset, .unset, .unset] [(.ref b169)])) _
        refine XS.astore X286.here hx rfl (hb hby at_76) rfl rfl (l' := #[.val (.long q0), .second, .val (.long q1), .second, .val (.int p2), .val (.int p3), .val (.int p4), .val (.int p5), .val (.ref b1), .val (.ref b5), .val (.ref b169), .val (.ref b201), .val (.int (1 : Int32)), .val (.ref b169), .unset, .unset, .unset, .unset, .unset]) rfl ?_
        show Steps p.tables e below (T286.setTop (mkF m 78 #[.val (.long q0), .second, .val (.long q1), .second, .val (.int p2), .val (.int p3), .val (.int p4), .val (.int p5), .val (.ref b1), .val (.ref b5), .val (.ref b169), .val (.ref b201), .val (.int (1 : Int32)), .val (.ref b169), .unset, .unset, .unset, .unset, .unset] [])) _
        refine XS.lloadN X286.here hx rfl (hb hby at_78) rfl ?_
        show Steps p.tables e below (T286.setTop (mkF m 79 #[.val (.long q0), .second, .val (.long q1), .second, .val (.int p2), .val (.int p3), .val (.int p4), .val (.int p5), .val (.ref b1), .val (.ref b5), .val (.ref b169), .val (.ref b201), .val (.int (1 : Int32)), .val (.ref b169), .unset, .unset, .unset, .unset, .unset] [(.long q0)])) _
        refine XS.lstore X286.here hx rfl (hb hby at_79) rfl (l' := #[.val (.long q0), .second, .val (.long q1), .second, .val (.int p2), .val (.int p3), .val (.int p4), .val (.int p5), .val (.ref b1), .val (.ref b5), .val (.ref b169), .val (.ref b201), .val (.int (1 : Int32)), .val (.ref b169), .val (.long q0), .second, .unset, .unset, .unset]) rfl ?_
        show Steps p.tables e below (T286.setTop (mkF m 81 #[.val (.long q0), .second, .val (.long q1), .second, .val (.int p2), .val (.int p3), .val (.int p4), .val (.int p5), .val (.ref b1), .val (.ref b5), .val (.ref b169), .val (.ref b201), .val (.int (1 : Int32)), .val (.ref b169), .val (.long q0), .second, .unset, .unset, .unset] [])) _
        refine XS.lloadN X286.here hx rfl (hb hby at_81) rfl ?_
        show Steps p.tables e below (T286.setTop (mkF m 82 #[.val (.long q0), .second, .val (.long q1), .second, .val (.int p2), .val (.int p3), .val (.int p4), .val (.int p5), .val (.ref b1), .val (.ref b5), .val (.ref b169), .val (.ref b201), .val (.int (1 : Int32)), .val (.ref b169), .val (.long q0), .second, .unset, .unset, .unset] [(.long q1)])) _
        refine XS.lstore X286.here hx rfl (hb hby at_82) rfl (l' := #[.val (.long q0), .second, .val (.long q1), .second, .val (.int p2), .val (.int p3), .val (.int p4), .val (.int p5), .val (.ref b1), .val (.ref b5), .val (.ref b169), .val (.ref b201), .val (.int (1 : Int32)), .val (.ref b169), .val (.long q0), .second, .val (.long q1), .second, .unset]) rfl ?_
        show Steps p.tables e below (T286.setTop (mkF m 84 #[.val (.long q0), .second, .val (.long q1), .second, .val (.int p2), .val (.int p3), .val (.int p4), .val (.int p5), .val (.ref b1), .val (.ref b5), .val (.ref b169), .val (.ref b201), .val (.int (1 : Int32)), .val (.ref b169), .val (.long q0), .second, .val (.long q1), .second, .unset] [])) _
        refine XS.iload X286.here hx rfl (hb hby at_84) rfl ?_
        show Steps p.tables e below (T286.setTop (mkF m 86 #[.val (.long q0), .second, .val (.long q1), .second, .val (.int p2), .val (.int p3), .val (.int p4), .val (.int p5), .val (.ref b1), .val (.ref b5), .val (.ref b169), .val (.ref b201), .val (.int (1 : Int32)), .val (.ref b169), .val (.long q0), .second, .val (.long q1), .second, .unset] [(.int p2)])) _
        refine XS.istore X286.here hx rfl (hb hby at_86) rfl (l' := #[.val (.long q0), .second, .val (.long q1), .second, .val (.int p2), .val (.int p3), .val (.int p4), .val (.int p5), .val (.ref b1), .val (.ref b5), .val (.ref b169), .val (.ref b201), .val (.int (1 : Int32)), .val (.ref b169), .val (.long q0), .second, .val (.long q1), .second, .val (.int p2)]) rfl ?_
        show Steps p.tables e below (T286.setTop (mkF m 88 #[.val (.long q0), .second, .val (.long q1), .second, .val (.int p2), .val (.int p3), .val (.int p4), .val (.int p5), .val (.ref b1), .val (.ref b5), .val (.ref b169), .val (.ref b201), .val (.int (1 : Int32)), .val (.ref b169), .val (.long q0), .second, .val (.long q1), .second, .val (.int p2)] [])) _
        refine XS.iload X286.here hx rfl (hb hby at_88) rfl ?_
        show Steps p.tables e below (T286.setTop (mkF m 90 #[.val (.long q0), .second, .val (.long q1), .second, .val (.int p2), .val (.int p3), .val (.int p4), .val (.int p5), .val (.ref b1), .val (.ref b5), .val (.ref b169), .val (.ref b201), .val (.int (1 : Int32)), .val (.ref b169), .val (.long q0), .second, .val (.long q1), .second, .val (.int p2)] [(.int (1 : Int32))])) _
        refine XS.ifNo X286.here hx rfl (hb hby at_90) rfl ((if0 _ _).trans (feq (by decide : ¬ ((1 : Int32) = (0 : Int32)))).1) ?_
        show Steps p.tables e below (T286.setTop (mkF m 93 #[.val (.long q0), .second, .val (.long q1), .second, .val (.int p2), .val (.int p3), .val (.int p4), .val (.int p5), .val (.ref b1), .val (.ref b5), .val (.ref b169), .val (.ref b201), .val (.int (1 : Int32)), .val (.ref b169), .val (.long q0), .second, .val (.long q1), .second, .val (.int p2)] [])) _
        refine XS.aload X286.here hx rfl (hb hby at_93) rfl rfl ?_
        show Steps p.tables e below (T286.setTop (mkF m 95 #[.val (.long q0), .second, .val (.long q1), .second, .val (.int p2), .val (.int p3), .val (.int p4), .val (.int p5), .val (.ref b1), .val (.ref b5), .val (.ref b169), .val (.ref b201), .val (.int (1 : Int32)), .val (.ref b169), .val (.long q0), .second, .val (.long q1), .second, .val (.int p2)] [(.ref b5)])) _
        refine XS.aload X286.here hx rfl (hb hby at_95) rfl rfl ?_
        show Steps p.tables e below (T286.setTop (mkF m 97 #[.val (.long q0), .second, .val (.long q1), .second, .val (.int p2), .val (.int p3), .val (.int p4), .val (.int p5), .val (.ref b1), .val (.ref b5), .val (.ref b169), .val (.ref b201), .val (.int (1 : Int32)), .val (.ref b169), .val (.long q0), .second, .val (.long q1), .second, .val (.int p2)] [(.ref b201), (.ref b5)])) _
        refine XS.lloadN X286.here hx rfl (hb hby at_97) rfl ?_
        show Steps p.tables e below (T286.setTop (mkF m 98 #[.val (.long q0), .second, .val (.long q1), .second, .val (.int p2), .val (.int p3), .val (.int p4), .val (.int p5), .val (.ref b1), .val (.ref b5), .val (.ref b169), .val (.ref b201), .val (.int (1 : Int32)), .val (.ref b169), .val (.long q0), .second, .val (.long q1), .second, .val (.int p2)] [(.long q1), (.ref b201), (.ref b5)])) _
        refine XS.lloadN X286.here hx rfl (hb hby at_98) rfl ?_
        show Steps p.tables e below (T286.setTop (mkF m 99 #[.val (.long q0), .second, .val (.long q1), .second, .val (.int p2), .val (.int p3), .val (.int p4), .val (.int p5), .val (.ref b1), .val (.ref b5), .val (.ref b169), .val (.ref b201), .val (.int (1 : Int32)), .val (.ref b169), .val (.long q0), .second, .val (.long q1), .second, .val (.int p2)] [(.long q0), (.long q1), (.ref b201), (.ref b5)])) _
        refine XS.iload X286.here hx rfl (hb hby at_99) rfl ?_
        show Steps p.tables e below (T286.setTop (mkF m 101 #[.val (.long q0), .second, .val (.long q1), .second, .val (.int p2), .val (.int p3), .val (.int p4), .val (.int p5), .val (.ref b1), .val (.ref b5), .val (.ref b169), .val (.ref b201), .val (.int (1 : Int32)), .val (.ref b169), .val (.long q0), .second, .val (.long q1), .second, .val (.int p2)] [(.int p4), (.long q0), (.long q1), (.ref b201), (.ref b5)])) _
        refine st298.trans ?_
        show Steps p.tables e below (T298.setTop (mkF m 104 #[.val (.long q0), .second, .val (.long q1), .second, .val (.int p2), .val (.int p3), .val (.int p4), .val (.int p5), .val (.ref b1), .val (.ref b5), .val (.ref b169), .val (.ref b201), .val (.int (1 : Int32)), .val (.ref b169), .val (.long q0), .second, .val (.long q1), .second, .val (.int p2)] [])) _
        refine XS.aload X298.here hx rfl (hb hby at_104) rfl rfl ?_
        show Steps p.tables e below (T298.setTop (mkF m 106 #[.val (.long q0), .second, .val (.long q1), .second, .val (.int p2), .val (.int p3), .val (.int p4), .val (.int p5), .val (.ref b1), .val (.ref b5), .val (.ref b169), .val (.ref b201), .val (.int (1 : Int32)), .val (.ref b169), .val (.long q0), .second, .val (.long q1), .second, .val (.int p2)] [(.ref b201)])) _
        refine XS.astore X298.here hx rfl (hb hby at_106) rfl rfl (l' := #[.val (.long q0), .second, .val (.long q1), .second, .val (.int p2), .val (.int p3), .val (.int p4), .val (.int p5), .val (.ref b1), .val (.ref b5), .val (.ref b169), .val (.ref b201), .val (.int (1 : Int32)), .val (.ref b201), .val (.long q0), .second, .val (.long q1), .second, .val (.int p2)]) rfl ?_
        show Steps p.tables e below (T298.setTop (mkF m 108 #[.val (.long q0), .second, .val (.long q1), .second, .val (.int p2), .val (.int p3), .val (.int p4), .val (.int p5), .val (.ref b1), .val (.ref b5), .val (.ref b169), .val (.ref b201), .val (.int (1 : Int32)), .val (.ref b201), .val (.long q0), .second, .val (.long q1), .second, .val (.int p2)] [])) _
        refine XS.lloadN X298.here hx rfl (hb hby at_108) rfl ?_
        show Steps p.tables e below (T298.setTop (mkF m 109 #[.val (.long q0), .second, .val (.long q1), .second, .val (.int p2), .val (.int p3), .val (.int p4), .val (.int p5), .val (.ref b1), .val (.ref b5), .val (.ref b169), .val (.ref b201), .val (.int (1 : Int32)), .val (.ref b201), .val (.long q0), .second, .val (.long q1), .second, .val (.int p2)] [(.long q1)])) _
        refine XS.lstore X298.here hx rfl (hb hby at_109) rfl (l' := #[.val (.long q0), .second, .val (.long q1), .second, .val (.int p2), .val (.int p3), .val (.int p4), .val (.int p5), .val (.ref b1), .val (.ref b5), .val (.ref b169), .val (.ref b201), .val (.int (1 : Int32)), .val (.ref b201), .val (.long q1), .second, .val (.long q1), .second, .val (.int p2)]) rfl ?_
        show Steps p.tables e below (T298.setTop (mkF m 111 #[.val (.long q0), .second, .val (.long q1), .second, .val (.int p2), .val (.int p3), .val (.int p4), .val (.int p5), .val (.ref b1), .val (.ref b5), .val (.ref b169), .val (.ref b201), .val (.int (1 : Int32)), .val (.ref b201), .val (.long q1), .second, .val (.long q1), .second, .val (.int p2)] [])) _
        refine XS.lloadN X298.here hx rfl (hb hby at_111) rfl ?_
        show Steps p.tables e below (T298.setTop (mkF m 112 #[.val (.long q0), .second, .val (.long q1), .second, .val (.int p2), .val (.int p3), .val (.int p4), .val (.int p5), .val (.ref b1), .val (.ref b5), .val (.ref b169), .val (.ref b201), .val (.int (1 : Int32)), .val (.ref b201), .val (.long q1), .second, .val (.long q1), .second, .val (.int p2)] [(.long q0)])) _
        refine XS.lstore X298.here hx rfl (hb hby at_112) rfl (l' := #[.val (.long q0), .second, .val (.long q1), .second, .val (.int p2), .val (.int p3), .val (.int p4), .val (.int p5), .val (.ref b1), .val (.ref b5), .val (.ref b169), .val (.ref b201), .val (.int (1 : Int32)), .val (.ref b201), .val (.long q1), .second, .val (.long q0), .second, .val (.int p2)]) rfl ?_
        show Steps p.tables e below (T298.setTop (mkF m 114 #[.val (.long q0), .second, .val (.long q1), .second, .val (.int p2), .val (.int p3), .val (.int p4), .val (.int p5), .val (.ref b1), .val (.ref b5), .val (.ref b169), .val (.ref b201), .val (.int (1 : Int32)), .val (.ref b201), .val (.long q1), .second, .val (.long q0), .second, .val (.int p2)] [])) _
        refine XS.iload X298.here hx rfl (hb hby at_114) rfl ?_
        show Steps p.tables e below (T298.setTop (mkF m 116 #[.val (.long q0), .second, .val (.long q1), .second, .val (.int p2), .val (.int p3), .val (.int p4), .val (.int p5), .val (.ref b1), .val (.ref b5), .val (.ref b169), .val (.ref b201), .val (.int (1 : Int32)), .val (.ref b201), .val (.long q1), .second, .val (.long q0), .second, .val (.int p2)] [(.int p4)])) _
        refine XS.istore X298.here hx rfl (hb hby at_116) rfl (l' := #[.val (.long q0), .second, .val (.long q1), .second, .val (.int p2), .val (.int p3), .val (.int p4), .val (.int p5), .val (.ref b1), .val (.ref b5), .val (.ref b169), .val (.ref b201), .val (.int (1 : Int32)), .val (.ref b201), .val (.long q1), .second, .val (.long q0), .second, .val (.int p4)]) rfl ?_
        show Steps p.tables e below (T298.setTop (mkF m 118 #[.val (.long q0), .second, .val (.long q1), .second, .val (.int p2), .val (.int p3), .val (.int p4), .val (.int p5), .val (.ref b1), .val (.ref b5), .val (.ref b169), .val (.ref b201), .val (.int (1 : Int32)), .val (.ref b201), .val (.long q1), .second, .val (.long q0), .second, .val (.int p4)] [])) _
        refine XS.aload X298.here hx rfl (hb hby at_118) rfl rfl ?_
        show Steps p.tables e below (T298.setTop (mkF m 120 #[.val (.long q0), .second, .val (.long q1), .second, .val (.int p2), .val (.int p3), .val (.int p4), .val (.int p5), .val (.ref b1), .val (.ref b5), .val (.ref b169), .val (.ref b201), .val (.int (1 : Int32)), .val (.ref b201), .val (.long q1), .second, .val (.long q0), .second, .val (.int p4)] [(.ref b5)])) _
        refine st310.trans ?_
        show Steps p.tables e below (T310.setTop (mkF m 123 #[.val (.long q0), .second, .val (.long q1), .second, .val (.int p2), .val (.int p3), .val (.int p4), .val (.int p5), .val (.ref b1), .val (.ref b5), .val (.ref b169), .val (.ref b201), .val (.int (1 : Int32)), .val (.ref b201), .val (.long q1), .second, .val (.long q0), .second, .val (.int p4)] [(.ref b201)])) _
        refine XS.aload X310.here hx rfl (hb hby at_123) rfl rfl ?_
        show Steps p.tables e below (T310.setTop (mkF m 125 #[.val (.long q0), .second, .val (.long q1), .second, .val (.int p2), .val (.int p3), .val (.int p4), .val (.int p5), .val (.ref b1), .val (.ref b5), .val (.ref b169), .val (.ref b201), .val (.int (1 : Int32)), .val (.ref b201), .val (.long q1), .second, .val (.long q0), .second, .val (.int p4)] [(.ref b201), (.ref b201)])) _
        refine Jvm.RoadKit.acmp (g := (mkF m 125 #[.val (.long q0), .second, .val (.long q1), .second, .val (.int p2), .val (.int p3), .val (.int p4), .val (.int p5), .val (.ref b1), .val (.ref b5), .val (.ref b169), .val (.ref b201), .val (.int (1 : Int32)), .val (.ref b201), .val (.long q1), .second, .val (.long q0), .second, .val (.int p4)] [(.ref b201), (.ref b201)])) X310 hx rfl rfl rfl (pc0 := 125) (pc' := 128) (same := true) rfl (hb hby at_125) rfl (decide_eq_true rfl) (by decide) (by decide) ?_
        show Steps p.tables e below (T310.setTop (mkF m 128 #[.val (.long q0), .second, .val (.long q1), .second, .val (.int p2), .val (.int p3), .val (.int p4), .val (.int p5), .val (.ref b1), .val (.ref b5), .val (.ref b169), .val (.ref b201), .val (.int (1 : Int32)), .val (.ref b201), .val (.long q1), .second, .val (.long q0), .second, .val (.int p4)] [])) _
        refine XS.aload X310.here hx rfl (hb hby at_128) rfl rfl ?_
        show Steps p.tables e below (T310.setTop (mkF m 130 #[.val (.long q0), .second, .val (.long q1), .second, .val (.int p2), .val (.int p3), .val (.int p4), .val (.int p5), .val (.ref b1), .val (.ref b5), .val (.ref b169), .val (.ref b201), .val (.int (1 : Int32)), .val (.ref b201), .val (.long q1), .second, .val (.long q0), .second, .val (.int p4)] [(.ref b5)])) _
        refine st315.trans ?_
        show Steps p.tables e below (T315.setTop (mkF m 133 #[.val (.long q0), .second, .val (.long q1), .second, .val (.int p2), .val (.int p3), .val (.int p4), .val (.int p5), .val (.ref b1), .val (.ref b5), .val (.ref b169), .val (.ref b201), .val (.int (1 : Int32)), .val (.ref b201), .val (.long q1), .second, .val (.long q0), .second, .val (.int p4)] [(.long q1)])) _
        refine XS.lload X315.here hx rfl (hb hby at_133) rfl ?_
        show Steps p.tables e below (T315.setTop (mkF m 135 #[.val (.long q0), .second, .val (.long q1), .second, .val (.int p2), .val (.int p3), .val (.int p4), .val (.int p5), .val (.ref b1), .val (.ref b5), .val (.ref b169), .val (.ref b201), .val (.int (1 : Int32)), .val (.ref b201), .val (.long q1), .second, .val (.long q0), .second, .val (.int p4)] [(.long q1), (.long q1)])) _
        refine XS.lcmp X315.here hx rfl (hb hby at_135) rfl ?_
        show Steps p.tables e below (T315.setTop (mkF m 136 #[.val (.long q0), .second, .val (.long q1), .second, .val (.int p2), .val (.int p3), .val (.int p4), .val (.int p5), .val (.ref b1), .val (.ref b5), .val (.ref b169), .val (.ref b201), .val (.int (1 : Int32)), .val (.ref b201), .val (.long q1), .second, .val (.long q0), .second, .val (.int p4)] [(.int (lcmpW q1 q1))])) _
        refine XS.ifNo X315.here hx rfl (hb hby at_136) rfl ((if0 _ _).trans (teq (own_lc _)).2) ?_
        show Steps p.tables e below (T315.setTop (mkF m 139 #[.val (.long q0), .second, .val (.long q1), .second, .val (.int p2), .val (.int p3), .val (.int p4), .val (.int p5), .val (.ref b1), .val (.ref b5), .val (.ref b169), .val (.ref b201), .val (.int (1 : Int32)), .val (.ref b201), .val (.long q1), .second, .val (.long q0), .second, .val (.int p4)] [])) _
        refine XS.aload X315.here hx rfl (hb hby at_139) rfl rfl ?_
        show Steps p.tables e below (T315.setTop (mkF m 141 #[.val (.long q0), .second, .val (.long q1), .second, .val (.int p2), .val (.int p3), .val (.int p4), .val (.int p5), .val (.ref b1), .val (.ref b5), .val (.ref b169), .val (.ref b201), .val (.int (1 : Int32)), .val (.ref b201), .val (.long q1), .second, .val (.long q0), .second, .val (.int p4)] [(.ref b5)])) _
        refine st320.trans ?_
        show Steps p.tables e below (T320.setTop (mkF m 144 #[.val (.long q0), .second, .val (.long q1), .second, .val (.int p2), .val (.int p3), .val (.int p4), .val (.int p5), .val (.ref b1), .val (.ref b5), .val (.ref b169), .val (.ref b201), .val (.int (1 : Int32)), .val (.ref b201), .val (.long q1), .second, .val (.long q0), .second, .val (.int p4)] [(.long q0)])) _
        refine XS.lload X320.here hx rfl (hb hby at_144) rfl ?_
        show Steps p.tables e below (T320.setTop (mkF m 146 #[.val (.long q0), .second, .val (.long q1), .second, .val (.int p2), .val (.int p3), .val (.int p4), .val (.int p5), .val (.ref b1), .val (.ref b5), .val (.ref b169), .val (.ref b201), .val (.int (1 : Int32)), .val (.ref b201), .val (.long q1), .second, .val (.long q0), .second, .val (.int p4)] [(.long q0), (.long q0)])) _
        refine XS.lcmp X320.here hx rfl (hb hby at_146) rfl ?_
        show Steps p.tables e below (T320.setTop (mkF m 147 #[.val (.long q0), .second, .val (.long q1), .second, .val (.int p2), .val (.int p3), .val (.int p4), .val (.int p5), .val (.ref b1), .val (.ref b5), .val (.ref b169), .val (.ref b201), .val (.int (1 : Int32)), .val (.ref b201), .val (.long q1), .second, .val (.long q0), .second, .val (.int p4)] [(.int (lcmpW q0 q0))])) _
        refine XS.ifNo X320.here hx rfl (hb hby at_147) rfl ((if0 _ _).trans (teq (own_lc _)).2) ?_
        show Steps p.tables e below (T320.setTop (mkF m 150 #[.val (.long q0), .second, .val (.long q1), .second, .val (.int p2), .val (.int p3), .val (.int p4), .val (.int p5), .val (.ref b1), .val (.ref b5), .val (.ref b169), .val (.ref b201), .val (.int (1 : Int32)), .val (.ref b201), .val (.long q1), .second, .val (.long q0), .second, .val (.int p4)] [])) _
        refine XS.aload X320.here hx rfl (hb hby at_150) rfl rfl ?_
        show Steps p.tables e below (T320.setTop (mkF m 152 #[.val (.long q0), .second, .val (.long q1), .second, .val (.int p2), .val (.int p3), .val (.int p4), .val (.int p5), .val (.ref b1), .val (.ref b5), .val (.ref b169), .val (.ref b201), .val (.int (1 : Int32)), .val (.ref b201), .val (.long q1), .second, .val (.long q0), .second, .val (.int p4)] [(.ref b5)])) _
        refine st325.trans ?_
        show Steps p.tables e below (T325.setTop (mkF m 155 #[.val (.long q0), .second, .val (.long q1), .second, .val (.int p2), .val (.int p3), .val (.int p4), .val (.int p5), .val (.ref b1), .val (.ref b5), .val (.ref b169), .val (.ref b201), .val (.int (1 : Int32)), .val (.ref b201), .val (.long q1), .second, .val (.long q0), .second, .val (.int p4)] [(.int p4)])) _
        refine XS.iload X325.here hx rfl (hb hby at_155) rfl ?_
        show Steps p.tables e below (T325.setTop (mkF m 157 #[.val (.long q0), .second, .val (.long q1), .second, .val (.int p2), .val (.int p3), .val (.int p4), .val (.int p5), .val (.ref b1), .val (.ref b5), .val (.ref b169), .val (.ref b201), .val (.int (1 : Int32)), .val (.ref b201), .val (.long q1), .second, .val (.long q0), .second, .val (.int p4)] [(.int p4), (.int p4)])) _
        refine XS.icmpNo X325.here hx rfl (hb hby at_157) rfl (teq (rfl : p4 = p4)).2 ?_
        show Steps p.tables e below (T325.setTop (mkF m 160 #[.val (.long q0), .second, .val (.long q1), .second, .val (.int p2), .val (.int p3), .val (.int p4), .val (.int p5), .val (.ref b1), .val (.ref b5), .val (.ref b169), .val (.ref b201), .val (.int (1 : Int32)), .val (.ref b201), .val (.long q1), .second, .val (.long q0), .second, .val (.int p4)] [])) _
        refine XS.aload X325.here hx rfl (hb hby at_160) rfl rfl ?_
        show Steps p.tables e below (T325.setTop (mkF m 162 #[.val (.long q0), .second, .val (.long q1), .second, .val (.int p2), .val (.int p3), .val (.int p4), .val (.int p5), .val (.ref b1), .val (.ref b5), .val (.ref b169), .val (.ref b201), .val (.int (1 : Int32)), .val (.ref b201), .val (.long q1), .second, .val (.long q0), .second, .val (.int p4)] [(.ref b5)])) _
        refine st330.trans ?_
        show Steps p.tables e below (T330.setTop (mkF m 165 #[.val (.long q0), .second, .val (.long q1), .second, .val (.int p2), .val (.int p3), .val (.int p4), .val (.int p5), .val (.ref b1), .val (.ref b5), .val (.ref b169), .val (.ref b201), .val (.int (1 : Int32)), .val (.ref b201), .val (.long q1), .second, .val (.long q0), .second, .val (.int p4)] [(.int p3)])) _
        refine XS.iload X330.here hx rfl (hb hby at_165) rfl ?_
        show Steps p.tables e below (T330.setTop (mkF m 167 #[.val (.long q0), .second, .val (.long q1), .second, .val (.int p2), .val (.int p3), .val (.int p4), .val (.int p5), .val (.ref b1), .val (.ref b5), .val (.ref b169), .val (.ref b201), .val (.int (1 : Int32)), .val (.ref b201), .val (.long q1), .second, .val (.long q0), .second, .val (.int p4)] [(.int p3), (.int p3)])) _
        refine XS.icmpNo X330.here hx rfl (hb hby at_167) rfl (teq (rfl : p3 = p3)).2 ?_
        show Steps p.tables e below (T330.setTop (mkF m 170 #[.val (.long q0), .second, .val (.long q1), .second, .val (.int p2), .val (.int p3), .val (.int p4), .val (.int p5), .val (.ref b1), .val (.ref b5), .val (.ref b169), .val (.ref b201), .val (.int (1 : Int32)), .val (.ref b201), .val (.long q1), .second, .val (.long q0), .second, .val (.int p4)] [])) _
        refine XS.aload X330.here hx rfl (hb hby at_170) rfl rfl ?_
        show Steps p.tables e below (T330.setTop (mkF m 172 #[.val (.long q0), .second, .val (.long q1), .second, .val (.int p2), .val (.int p3), .val (.int p4), .val (.int p5), .val (.ref b1), .val (.ref b5), .val (.ref b169), .val (.ref b201), .val (.int (1 : Int32)), .val (.ref b201), .val (.long q1), .second, .val (.long q0), .second, .val (.int p4)] [(.ref b5)])) _
        refine st335.trans ?_
        show Steps p.tables e below (T335.setTop (mkF m 175 #[.val (.long q0), .second, .val (.long q1), .second, .val (.int p2), .val (.int p3), .val (.int p4), .val (.int p5), .val (.ref b1), .val (.ref b5), .val (.ref b169), .val (.ref b201), .val (.int (1 : Int32)), .val (.ref b201), .val (.long q1), .second, .val (.long q0), .second, .val (.int p4)] [(.int p4)])) _
        refine XS.iload X335.here hx rfl (hb hby at_175) rfl ?_
        show Steps p.tables e below (T335.setTop (mkF m 177 #[.val (.long q0), .second, .val (.long q1), .second, .val (.int p2), .val (.int p3), .val (.int p4), .val (.int p5), .val (.ref b1), .val (.ref b5), .val (.ref b169), .val (.ref b201), .val (.int (1 : Int32)), .val (.ref b201), .val (.long q1), .second, .val (.long q0), .second, .val (.int p4)] [(.int p4), (.int p4)])) _
        refine XS.icmpNo X335.here hx rfl (hb hby at_177) rfl (teq (rfl : p4 = p4)).2 ?_
        show Steps p.tables e below (T335.setTop (mkF m 180 #[.val (.long q0), .second, .val (.long q1), .second, .val (.int p2), .val (.int p3), .val (.int p4), .val (.int p5), .val (.ref b1), .val (.ref b5), .val (.ref b169), .val (.ref b201), .val (.int (1 : Int32)), .val (.ref b201), .val (.long q1), .second, .val (.long q0), .second, .val (.int p4)] [])) _
        refine XS.aload X335.here hx rfl (hb hby at_180) rfl rfl ?_
        show Steps p.tables e below (T335.setTop (mkF m 182 #[.val (.long q0), .second, .val (.long q1), .second, .val (.int p2), .val (.int p3), .val (.int p4), .val (.int p5), .val (.ref b1), .val (.ref b5), .val (.ref b169), .val (.ref b201), .val (.int (1 : Int32)), .val (.ref b201), .val (.long q1), .second, .val (.long q0), .second, .val (.int p4)] [(.ref b5)])) _
        refine st340.trans ?_
        show Steps p.tables e below (T340.setTop (mkF m 185 #[.val (.long q0), .second, .val (.long q1), .second, .val (.int p2), .val (.int p3), .val (.int p4), .val (.int p5), .val (.ref b1), .val (.ref b5), .val (.ref b169), .val (.ref b201), .val (.int (1 : Int32)), .val (.ref b201), .val (.long q1), .second, .val (.long q0), .second, .val (.int p4)] [(.ref b1)])) _
        refine XS.aload X340.here hx rfl (hb hby at_185) rfl rfl ?_
        show Steps p.tables e below (T340.setTop (mkF m 187 #[.val (.long q0), .second, .val (.long q1), .second, .val (.int p2), .val (.int p3), .val (.int p4), .val (.int p5), .val (.ref b1), .val (.ref b5), .val (.ref b169), .val (.ref b201), .val (.int (1 : Int32)), .val (.ref b201), .val (.long q1), .second, .val (.long q0), .second, .val (.int p4)] [(.ref b1), (.ref b1)])) _
        refine Jvm.RoadKit.acmp (g := (mkF m 187 #[.val (.long q0), .second, .val (.long q1), .second, .val (.int p2), .val (.int p3), .val (.int p4), .val (.int p5), .val (.ref b1), .val (.ref b5), .val (.ref b169), .val (.ref b201), .val (.int (1 : Int32)), .val (.ref b201), .val (.long q1), .second, .val (.long q0), .second, .val (.int p4)] [(.ref b1), (.ref b1)])) X340 hx rfl rfl rfl (pc0 := 187) (pc' := 190) (same := true) rfl (hb hby at_187) rfl (decide_eq_true rfl) (by decide) (by decide) ?_
        show Steps p.tables e below (T340.setTop (mkF m 190 #[.val (.long q0), .second, .val (.long q1), .second, .val (.int p2), .val (.int p3), .val (.int p4), .val (.int p5), .val (.ref b1), .val (.ref b5), .val (.ref b169), .val (.ref b201), .val (.int (1 : Int32)), .val (.ref b201), .val (.long q1), .second, .val (.long q0), .second, .val (.int p4)] [])) _
        refine XS.iconst X340.here hx rfl (hb hby at_190) ?_
        show Steps p.tables e below (T340.setTop (mkF m 191 #[.val (.long q0), .second, .val (.long q1), .second, .val (.int p2), .val (.int p3), .val (.int p4), .val (.int p5), .val (.ref b1), .val (.ref b5), .val (.ref b169), .val (.ref b201), .val (.int (1 : Int32)), .val (.ref b201), .val (.long q1), .second, .val (.long q0), .second, .val (.int p4)] [(.int (1 : Int32))])) _
        refine XS.goto X340.here hx rfl (pc0 := 191) (pc' := 195) rfl (hb hby at_191) (by decide) (by decide) ?_
        exact kt
      obtain ⟨fs, hr, hrun, hended, hW, hsame⟩ := X340.leave (v := some (.int (1 : Int32))) (fun h => by rw [Bd.returns] at h; cases h)
      refine ⟨_, _, pre344 _ ?_, hrun, hended, _, _, rfl, ?_, ⟨_, rfl⟩, hW, hsame.mono (by decide) (by decide)⟩
      · show Steps p.tables e below (T340.setTop (mkF m 195 #[.val (.long q0), .second, .val (.long q1), .second, .val (.int p2), .val (.int p3), .val (.int p4), .val (.int p5), .val (.ref b1), .val (.ref b5), .val (.ref b169), .val (.ref b201), .val (.int (1 : Int32)), .val (.ref b201), .val (.long q1), .second, .val (.long q0), .second, .val (.int p4)] [(.int (1 : Int32))])) _
        exact retN X340 hx (t := .boolean) Bd.returns (by simp) (hb hby at_195) hr
      · show own_Q_law Z q0 q1 p2 p3 p4 p5 aS h0 n0 (some (.int (1 : Int32))) T340.heap _
        rw [eq342]
        exact ⟨rfl, nf343⟩
set_option maxRecDepth 65536 in
set_option maxHeartbeats 40000000 in
theorem own_comes {Post : Tables → Env → Array Value → State → Outcome → State → Prop} (hpost : ∀ tb e args s v u, (limb_1_1.after args s (.returned v) u = true ∧ limb_1_2.after args s (.returned v) u = true ∧ True) → FrameEnd s (.returned v) u (Jvm.fieldLocs frame_1_writes args s ++ Jvm.arrayLocs frame_1_arrays args s ++ Jvm.staticLocs frame_1_statics s) 24 192 → Post tb e args s (.returned v) u) :
    ArmFor flags0 classFile x code maxLocals ret World_1 tables_1 room_1 Calls_1 rest_1 Pre_1 Post := by
  intro l hfl _ _ p e ha hc hk s m args below hf hA hF happ hP
  obtain ⟨hcalls, hrest, hpre⟩ := hP
  obtain ⟨-, -, -, hnamed, -, -, -, hat⟩ := (Spec.applies_iff hf).mp happ
  obtain ⟨hg, hn⟩ := and_e (Cond.before_iff.mp (show (Jvm.Cond.and given_1 narrow_1).before args s = true from hpre))
  obtain ⟨hcount, hq0⟩ := and_e hg
  obtain ⟨hi0, hq1⟩ := and_e hq0
  obtain ⟨hi1, hq2⟩ := and_e hq1
  obtain ⟨hi2, hq3⟩ := and_e hq2
  obtain ⟨hi3, hq4⟩ := and_e hq3
  obtain ⟨hi4, hq5⟩ := and_e hq4
  have hi5 := hq5
  obtain ⟨w0, w1, w2, w3, w4, w5, rfl⟩ : ∃ w0 w1 w2 w3 w4 w5 : Value, args = #[w0, w1, w2, w3, w4, w5] := by
    have hs : args.size = 6 := by simpa [Cond.value, given_1] using hcount
    obtain ⟨L⟩ := args
    match L, hs with
    | [w0, w1, w2, w3, w4, w5], _ => exact ⟨w0, w1, w2, w3, w4, w5, rfl⟩
  have hw := fun d (hd : d ∈ tables_1) => atoms_spec (ws := Jvm.Cond.code x code maxLocals ret :: tables_1) hat d (List.mem_cons_of_mem _ hd)
  have hfit : Fit s := fun {y c} hc i hi => by
    obtain ⟨ha, rfl⟩ := Array.getElem?_eq_some_iff.mp hc
    have q := List.all_eq_true.mp ((Array.all_eq_true_iff_forall_mem.mp hF) _ (Array.getElem_mem ha)) i (List.mem_range.mpr hi)
    simpa [Array.getElem?_eq_getElem hi] using q
  obtain ⟨hsets, hown0⟩ := atoms_of _ (rest_1_c_eq ▸ (show rest_1_c.before _ s = true from hrest))
  obtain ⟨i0, ei0⟩ := isL_v hi0
  obtain rfl : w0 = (.long i0) := Option.some.inj ei0
  obtain ⟨i1, ei1⟩ := isL_v hi1
  obtain rfl : w1 = (.long i1) := Option.some.inj ei1
  obtain ⟨i2, ei2⟩ := is_v hi2
  obtain rfl : w2 = (.int i2) := Option.some.inj ei2
  obtain ⟨i3, ei3⟩ := is_v hi3
  obtain rfl : w3 = (.int i3) := Option.some.inj ei3
  obtain ⟨i4, ei4⟩ := is_v hi4
  obtain rfl : w4 = (.int i4) := Option.some.inj ei4
  obtain ⟨i5, ei5⟩ := is_v hi5
  obtain rfl : w5 = (.int i5) := Option.some.inj ei5
  obtain ⟨aS, evS⟩ := arr_v (Cond.before_iff.mp (hsets _ (List.mem_of_getElem? (i := 6) rfl)))
  have S0 := Sta.start evS (Or.inr ⟨(hw _ (List.mem_of_getElem? (i := 12) rfl)), (hsets _ (List.mem_of_getElem? (i := 2) rfl))⟩)
  obtain ⟨n, o, h1, h2, h3, _, L, rfl, ⟨rfl, N⟩, hq⟩ := own_rm_law l s _ hw tables_1 i0 i1 i2 i3 i4 i5 aS s.heap s.heap.size (Nat.le_refl _) S0 p e ha hc hk s m _ below hf ((Spec.applies_iff_loose hf).mp happ).1 ⟨rfl, State.Warmed39.refl s, rfl⟩ trivial
  refine ⟨n, _, h1, h2, h3, hpost _ _ _ _ _ _ ⟨Cond.after_iff.mpr rfl, Cond.after_iff.mpr (eq_i res_at (Term.int_eval (1)) rfl), trivial⟩ ⟨hq.1, hq.2.1, (hq.2.2.sift fun y hy => Or.inr (N y hy)).mono (by decide) (by decide)⟩⟩
theorem main_1_1 : Claimed_1_1 := own_comes fun _ _ _ _ _ _ h hF => ⟨h.1, hF⟩
theorem main_1_2 : Claimed_1_2 := own_comes fun _ _ _ _ _ _ h hF => ⟨h.2.1, hF⟩
end Jvm.Pilot.@@N@@
namespace Jvm.Pilot.@@N@@
open Jvm Jvm.ClassFile Sem Op Lib Jvm.Free Jvm.Stand Jvm.Pilot.@@N@@.Jvm.D
/-! MADE BY PROGRAM (witnessworld.py) out of the Statement's table words and the real class files: 18 classes; the members and pool entries that the words name. The judged class is class 1, her method 1. -/
namespace start1
open Jvm.ClassFile
def u (s : String) : CpInfo := .utf8 (stringToUtf16 s)
/-- a pool by its gaps: so many unusable entries, then the entry; so many at the end -/
def gap : Nat → List CpInfo → List CpInfo
  | 0, r => r
  | n + 1, r => .unusable :: gap n r
def poolList (es : List (Nat × CpInfo)) (last : Nat) : List CpInfo := es.foldr (fun e r => gap e.1 (e.2 :: r)) (gap last [])
def pool (es : List (Nat × CpInfo)) (last : Nat) : Array CpInfo := ⟨poolList es last⟩
def fileOf (pool : Array CpInfo) (this : Nat) (attrs : Array Attribute := #[]) (ms : Array MethodInfo := #[]) (fl : Nat := 33) (sup : Nat := 0) (ifs : Array Nat := #[]) (fds : Array FieldInfo := #[]) : ClassFile where
  minorVersion := 0
  majorVersion := 65
  constantPool := pool
  accessFlags := fl
  thisClass := this
  superClass := sup
  interfaces := ifs
  fields := fds
  methods := ms
  attributes := attrs
def plain (name : String) (sup : Option ClassId) : Class where
  name := name
  kind := .ordinary
  loader := none
  accessFlags := 33
  super := sup
  interfaces := #[]
  cf := none
  fields := #[]
  methods := #[]
  instanceTypes := #[]
  staticTypes := #[]
  resolved := #[]
  callSites := []
  init := .initialized
  statics := none
  mirror := none

def pool0 : Array CpInfo := pool [(5, u "<init>"), (0, u "()V"), (1, .class_ 10), (1, u "java/lang/Object")] 113

def k0c0 : Code := { maxStack := 0, maxLocals := 1, code := object_method_1_code, exceptionTable := #[], attributes := #[] }
def k0m0 : Method := { name := "<init>", desc := "()V", sig := { parameters := [], returnType := none }, accessFlags := 1, code := some k0c0 }
/-- java/lang/Object -/
def k0 : Class := { plain "java/lang/Object" none with
  accessFlags := 33
  interfaces := #[]
  cf := some (fileOf pool0 8 #[] #[{ accessFlags := 1, nameIndex := 5, descriptorIndex := 6, attributes := #[] }] 33 0 #[] #[])
  fields := #[]
  methods := #[k0m0]
  instanceTypes := #[]
  staticTypes := #[]
  resolved := Array.replicate 124 none
  statics := none }

def pool1 : Array CpInfo := pool [(2, .class_ 4), (0, .nameAndType 5 6), (0, u "java/lang/Object"), (0, u "<init>"), (0, u "()V"), (0, .class_ 8), (0, u "com/example/interleave/interleave/check/Expansion"), (0, .methodref 7 10), (0, .nameAndType 5 11), (0, u "(II[B)V"), (0, .class_ 13), (0, u "java/util/ArrayList"), (0, .methodref 12 3), (0, .methodref 7 16), (0, .nameAndType 17 18), (0, u "tookIn"), (0, u "(Ljava/util/List;JJI)V"), (0, .methodref 7 20), (0, .nameAndType 21 22), (0, u "fresh"), (0, u "()Ljava/util/List;"), (0, .methodref 7 24), (0, .nameAndType 25 26), (0, u "generated"), (0, u "()J"), (0, .methodref 7 28), (0, .nameAndType 29 26), (0, u "distinct"), (0, .methodref 7 31), (0, .nameAndType 32 33), (0, u "depth"), (0, u "()I"), (0, .methodref 7 35), (0, .nameAndType 36 33), (0, u "sourceId"), (0, .methodref 7 38), (0, .nameAndType 39 33), (0, u "sourceParent"), (0, .methodref 7 41), (0, .nameAndType 42 43), (0, u "sourceBytes"), (0, u "()[B"), (0, .class_ 45), (0, u "com/example/interleave/interleave/check/ExpansionTookInPinLaw"), (2, u "law"), (0, u "(JJIIII)Z")] 7

def k1m0 : Method := { name := "<init>", desc := "()V", sig := { parameters := [], returnType := none }, accessFlags := 1, code := none }
def k1c1 : Code := { maxStack := 7, maxLocals := 19, code := code, exceptionTable := #[], attributes := #[] }
def k1m1 : Method := { name := "law", desc := "(JJIIII)Z", sig := { parameters := [.long, .long, .int, .int, .int, .int], returnType := some .boolean }, accessFlags := 9, code := some k1c1 }
/-- com/example/interleave/interleave/check/ExpansionTookInPinLaw -/
def k1 : Class := { plain "com/example/interleave/interleave/check/ExpansionTookInPinLaw" (some 0) with
  accessFlags := 49
  interfaces := #[]
  cf := some (fileOf pool1 44 #[] #[{ accessFlags := 1, nameIndex := 5, descriptorIndex := 6, attributes := #[] }, { accessFlags := 9, nameIndex := 48, descriptorIndex := 49, attributes := #[] }] 49 2 #[] #[])
  fields := #[]
  methods := #[k1m0, k1m1]
  instanceTypes := #[]
  staticTypes := #[]
  resolved := Array.replicate 57 none
  statics := none }

def pool2 : Array CpInfo := pool [(1, .methodref 2 3), (0, .class_ 4), (0, .nameAndType 5 6), (0, u "java/lang/Object"), (0, u "<init>"), (0, u "()V"), (0, .class_ 8), (0, u "java/util/ArrayList"), (0, .methodref 7 3), (0, .fieldref 11 12), (0, .class_ 13), (0, .nameAndType 14 15), (0, u "com/example/interleave/interleave/check/Expansion"), (0, u "found"), (0, u "Ljava/util/List;"), (0, .fieldref 11 17), (0, .nameAndType 18 15), (0, u "printed"), (0, .fieldref 11 20), (0, .nameAndType 21 22), (0, u "sourceId"), (0, u "I"), (0, .fieldref 11 24), (0, .nameAndType 25 22), (0, u "sourceParent"), (0, .fieldref 11 27), (0, .nameAndType 28 29), (0, u "sourceBytes"), (0, u "[B"), (2, u "(II[B)V"), (2, u "source"), (0, u "Lcom/example/interleave/interleave/check/Found;"), (2, u "stateBits"), (0, u "[J"), (8, u "stutterBits"), (2, u "violatingStep"), (2, u "violatedByStep"), (0, u "Lcom/example/interleave/interleave/check/Model$Check;"), (2, u "failure"), (0, u "Lcom/example/interleave/interleave/check/Failure;"), (2, u "stoppedAt"), (0, .fieldref 11 65), (0, .nameAndType 66 15), (0, u "fresh"), (0, .fieldref 11 68), (0, .nameAndType 69 70), (0, u "generated"), (0, u "J"), (0, .fieldref 11 72), (0, .nameAndType 73 70), (0, u "distinct"), (0, .fieldref 11 75), (0, .nameAndType 76 22), (0, u "depth"), (2, u "violated"), (2, u "violating"), (2, u "crash"), (0, u "Ljava/lang/Throwable;"), (2, u "expanded"), (0, u "Z"), (2, u "checked"), (10, u "()I"), (0, u "()[B"), (4, u "()Ljava/util/List;"), (6, u "tookIn"), (0, u "(Ljava/util/List;JJI)V"), (1, u "()J")] 15

def k2c0 : Code := { maxStack := 3, maxLocals := 4, code := prog_13_method_1_code, exceptionTable := #[], attributes := #[] }
def k2m0 : Method := { name := "<init>", desc := "(II[B)V", sig := { parameters := [.int, .int, (.array .byte)], returnType := none }, accessFlags := 0, code := some k2c0 }
def k2c1 : Code := { maxStack := 1, maxLocals := 1, code := prog_13_method_4_code, exceptionTable := #[], attributes := #[] }
def k2m1 : Method := { name := "sourceId", desc := "()I", sig := { parameters := [], returnType := some .int }, accessFlags := 0, code := some k2c1 }
def k2c2 : Code := { maxStack := 1, maxLocals := 1, code := prog_13_method_5_code, exceptionTable := #[], attributes := #[] }
def k2m2 : Method := { name := "sourceParent", desc := "()I", sig := { parameters := [], returnType := some .int }, accessFlags := 0, code := some k2c2 }
def k2c3 : Code := { maxStack := 1, maxLocals := 1, code := prog_13_method_6_code, exceptionTable := #[], attributes := #[] }
def k2m3 : Method := { name := "sourceBytes", desc := "()[B", sig := { parameters := [], returnType := some (.array .byte) }, accessFlags := 0, code := some k2c3 }
def k2c4 : Code := { maxStack := 3, maxLocals := 7, code := prog_13_method_21_code, exceptionTable := #[], attributes := #[] }
def k2m4 : Method := { name := "tookIn", desc := "(Ljava/util/List;JJI)V", sig := { parameters := [(.object "java/util/List"), .long, .long, .int], returnType := none }, accessFlags := 0, code := some k2c4 }
def k2c5 : Code := { maxStack := 1, maxLocals := 1, code := prog_13_method_22_code, exceptionTable := #[], attributes := #[] }
def k2m5 : Method := { name := "fresh", desc := "()Ljava/util/List;", sig := { parameters := [], returnType := some (.object "java/util/List") }, accessFlags := 0, code := some k2c5 }
def k2c6 : Code := { maxStack := 2, maxLocals := 1, code := prog_13_method_23_code, exceptionTable := #[], attributes := #[] }
def k2m6 : Method := { name := "generated", desc := "()J", sig := { parameters := [], returnType := some .long }, accessFlags := 0, code := some k2c6 }
def k2c7 : Code := { maxStack := 2, maxLocals := 1, code := prog_13_method_24_code, exceptionTable := #[], attributes := #[] }
def k2m7 : Method := { name := "distinct", desc := "()J", sig := { parameters := [], returnType := some .long }, accessFlags := 0, code := some k2c7 }
def k2c8 : Code := { maxStack := 1, maxLocals := 1, code := prog_13_method_25_code, exceptionTable := #[], attributes := #[] }
def k2m8 : Method := { name := "depth", desc := "()I", sig := { parameters := [], returnType := some .int }, accessFlags := 0, code := some k2c8 }
/-- com/example/interleave/interleave/check/Expansion -/
def k2 : Class := { plain "com/example/interleave/interleave/check/Expansion" (some 0) with
  accessFlags := 48
  interfaces := #[]
  cf := some (fileOf pool2 11 #[] #[{ accessFlags := 0, nameIndex := 5, descriptorIndex := 32, attributes := #[] }, { accessFlags := 0, nameIndex := 21, descriptorIndex := 104, attributes := #[] }, { accessFlags := 0, nameIndex := 25, descriptorIndex := 104, attributes := #[] }, { accessFlags := 0, nameIndex := 28, descriptorIndex := 105, attributes := #[] }, { accessFlags := 0, nameIndex := 117, descriptorIndex := 118, attributes := #[] }, { accessFlags := 0, nameIndex := 66, descriptorIndex := 110, attributes := #[] }, { accessFlags := 0, nameIndex := 69, descriptorIndex := 120, attributes := #[] }, { accessFlags := 0, nameIndex := 73, descriptorIndex := 120, attributes := #[] }, { accessFlags := 0, nameIndex := 76, descriptorIndex := 104, attributes := #[] }] 48 2 #[] #[{ accessFlags := 18, nameIndex := 21, descriptorIndex := 22, attributes := #[] }, { accessFlags := 18, nameIndex := 25, descriptorIndex := 22, attributes := #[] }, { accessFlags := 18, nameIndex := 28, descriptorIndex := 29, attributes := #[] }, { accessFlags := 2, nameIndex := 35, descriptorIndex := 36, attributes := #[] }, { accessFlags := 2, nameIndex := 39, descriptorIndex := 40, attributes := #[] }, { accessFlags := 18, nameIndex := 14, descriptorIndex := 15, attributes := #[] }, { accessFlags := 2, nameIndex := 49, descriptorIndex := 40, attributes := #[] }, { accessFlags := 2, nameIndex := 52, descriptorIndex := 36, attributes := #[] }, { accessFlags := 2, nameIndex := 55, descriptorIndex := 56, attributes := #[] }, { accessFlags := 2, nameIndex := 59, descriptorIndex := 60, attributes := #[] }, { accessFlags := 2, nameIndex := 63, descriptorIndex := 36, attributes := #[] }, { accessFlags := 2, nameIndex := 66, descriptorIndex := 15, attributes := #[] }, { accessFlags := 2, nameIndex := 69, descriptorIndex := 70, attributes := #[] }, { accessFlags := 2, nameIndex := 73, descriptorIndex := 70, attributes := #[] }, { accessFlags := 2, nameIndex := 76, descriptorIndex := 22, attributes := #[] }, { accessFlags := 2, nameIndex := 82, descriptorIndex := 36, attributes := #[] }, { accessFlags := 2, nameIndex := 79, descriptorIndex := 56, attributes := #[] }, { accessFlags := 18, nameIndex := 18, descriptorIndex := 15, attributes := #[] }, { accessFlags := 2, nameIndex := 85, descriptorIndex := 86, attributes := #[] }, { accessFlags := 2, nameIndex := 89, descriptorIndex := 90, attributes := #[] }, { accessFlags := 2, nameIndex := 93, descriptorIndex := 90, attributes := #[] }])
  fields := #[{ name := "sourceId", type := .int, accessFlags := 18, slot := 0, constantValue := 0 }, { name := "sourceParent", type := .int, accessFlags := 18, slot := 1, constantValue := 0 }, { name := "sourceBytes", type := (.array .byte), accessFlags := 18, slot := 2, constantValue := 0 }, { name := "source", type := (.object "com/example/interleave/interleave/check/Found"), accessFlags := 2, slot := 3, constantValue := 0 }, { name := "stateBits", type := (.array .long), accessFlags := 2, slot := 4, constantValue := 0 }, { name := "found", type := (.object "java/util/List"), accessFlags := 18, slot := 5, constantValue := 0 }, { name := "stutterBits", type := (.array .long), accessFlags := 2, slot := 6, constantValue := 0 }, { name := "violatingStep", type := (.object "com/example/interleave/interleave/check/Found"), accessFlags := 2, slot := 7, constantValue := 0 }, { name := "violatedByStep", type := (.object "com/example/interleave/interleave/check/Model$Check"), accessFlags := 2, slot := 8, constantValue := 0 }, { name := "failure", type := (.object "com/example/interleave/interleave/check/Failure"), accessFlags := 2, slot := 9, constantValue := 0 }, { name := "stoppedAt", type := (.object "com/example/interleave/interleave/check/Found"), accessFlags := 2, slot := 10, constantValue := 0 }, { name := "fresh", type := (.object "java/util/List"), accessFlags := 2, slot := 11, constantValue := 0 }, { name := "generated", type := .long, accessFlags := 2, slot := 12, constantValue := 0 }, { name := "distinct", type := .long, accessFlags := 2, slot := 13, constantValue := 0 }, { name := "depth", type := .int, accessFlags := 2, slot := 14, constantValue := 0 }, { name := "violating", type := (.object "com/example/interleave/interleave/check/Found"), accessFlags := 2, slot := 15, constantValue := 0 }, { name := "violated", type := (.object "com/example/interleave/interleave/check/Model$Check"), accessFlags := 2, slot := 16, constantValue := 0 }, { name := "printed", type := (.object "java/util/List"), accessFlags := 18, slot := 17, constantValue := 0 }, { name := "crash", type := (.object "java/lang/Throwable"), accessFlags := 2, slot := 18, constantValue := 0 }, { name := "expanded", type := .boolean, accessFlags := 2, slot := 19, constantValue := 0 }, { name := "checked", type := .boolean, accessFlags := 2, slot := 20, constantValue := 0 }]
  methods := #[k2m0, k2m1, k2m2, k2m3, k2m4, k2m5, k2m6, k2m7, k2m8]
  instanceTypes := #[.int, .int, (.array .byte), (.object "com/example/interleave/interleave/check/Found"), (.array .long), (.object "java/util/List"), (.array .long), (.object "com/example/interleave/interleave/check/Found"), (.object "com/example/interleave/interleave/check/Model$Check"), (.object "com/example/interleave/interleave/check/Failure"), (.object "com/example/interleave/interleave/check/Found"), (.object "java/util/List"), .long, .long, .int, (.object "com/example/interleave/interleave/check/Found"), (.object "com/example/interleave/interleave/check/Model$Check"), (.object "java/util/List"), (.object "java/lang/Throwable"), .boolean, .boolean]
  staticTypes := #[]
  resolved := Array.replicate 136 none
  statics := none }

def pool3 : Array CpInfo := pool [(8, .class_ 10), (1, u "java/lang/Iterable"), (24, .class_ 36), (0, u "java/lang/Object")] 25

/-- java/lang/Iterable -/
def k3 : Class := { plain "java/lang/Iterable" (some 0) with
  accessFlags := 1537
  interfaces := #[]
  cf := some (fileOf pool3 8 #[] #[] 1537 35 #[] #[])
  fields := #[]
  methods := #[]
  instanceTypes := #[]
  staticTypes := #[]
  resolved := Array.replicate 62 none
  statics := none }

def pool4 : Array CpInfo := pool [(10, .class_ 12), (1, u "java/util/Collection"), (47, .class_ 61), (0, u "java/lang/Object"), (0, .class_ 63), (0, u "java/lang/Iterable")] 51

/-- java/util/Collection -/
def k4 : Class := { plain "java/util/Collection" (some 0) with
  accessFlags := 1537
  interfaces := #[3]
  cf := some (fileOf pool4 10 #[] #[] 1537 60 #[62] #[])
  fields := #[]
  methods := #[]
  instanceTypes := #[]
  staticTypes := #[]
  resolved := Array.replicate 115 none
  statics := none }

def pool5 : Array CpInfo := pool [(1, .methodref 2 3), (0, .class_ 4), (0, .nameAndType 5 6), (0, u "java/lang/Object"), (0, u "<init>"), (0, u "()V"), (1, .class_ 10), (1, u "java/util/AbstractCollection"), (66, .class_ 78), (0, u "java/util/Collection")] 81

def k5c0 : Code := { maxStack := 1, maxLocals := 1, code := jdk_22_method_1_code, exceptionTable := #[], attributes := #[] }
def k5m0 : Method := { name := "<init>", desc := "()V", sig := { parameters := [], returnType := none }, accessFlags := 4, code := some k5c0 }
/-- java/util/AbstractCollection -/
def k5 : Class := { plain "java/util/AbstractCollection" (some 0) with
  accessFlags := 1057
  interfaces := #[4]
  cf := some (fileOf pool5 8 #[] #[{ accessFlags := 4, nameIndex := 5, descriptorIndex := 6, attributes := #[] }] 1057 2 #[77] #[])
  fields := #[]
  methods := #[k5m0]
  instanceTypes := #[]
  staticTypes := #[]
  resolved := Array.replicate 160 none
  statics := none }

def pool6 : Array CpInfo := pool [(8, .class_ 10), (1, u "java/util/SequencedCollection"), (15, .class_ 27), (0, u "java/lang/Object"), (0, .class_ 29), (0, u "java/util/Collection")] 27

/-- java/util/SequencedCollection -/
def k6 : Class := { plain "java/util/SequencedCollection" (some 0) with
  accessFlags := 1537
  interfaces := #[4]
  cf := some (fileOf pool6 8 #[] #[] 1537 26 #[28] #[])
  fields := #[]
  methods := #[]
  instanceTypes := #[]
  staticTypes := #[]
  resolved := Array.replicate 57 none
  statics := none }

def pool7 : Array CpInfo := pool [(8, .class_ 10), (1, u "java/util/List"), (92, .class_ 104), (0, u "java/lang/Object"), (15, .class_ 121), (0, u "java/util/SequencedCollection")] 129

/-- java/util/List -/
def k7 : Class := { plain "java/util/List" (some 0) with
  accessFlags := 1537
  interfaces := #[6]
  cf := some (fileOf pool7 8 #[] #[] 1537 103 #[120] #[])
  fields := #[]
  methods := #[]
  instanceTypes := #[]
  staticTypes := #[]
  resolved := Array.replicate 251 none
  statics := none }

def pool8 : Array CpInfo := pool [(1, .methodref 2 3), (0, .class_ 4), (0, .nameAndType 5 6), (0, u "java/util/AbstractCollection"), (0, u "<init>"), (0, u "()V"), (0, .fieldref 8 9), (0, .class_ 10), (0, .nameAndType 11 12), (0, u "java/util/AbstractList"), (0, u "modCount"), (0, u "I"), (64, .class_ 78), (0, u "java/util/AbstractList$Itr"), (3, .class_ 83), (0, u "java/util/AbstractList$ListItr"), (9, .class_ 94), (0, u "java/util/AbstractList$RandomAccessSubList"), (3, .class_ 99), (0, u "java/util/AbstractList$SubList"), (33, .class_ 134), (0, u "java/util/List"), (73, .class_ 209), (0, u "java/util/AbstractList$SubList$1"), (0, .class_ 211), (0, u "java/util/AbstractList$RandomAccessSpliterator")] 6

def k8c0 : Code := { maxStack := 2, maxLocals := 1, code := jdk_39_method_1_code, exceptionTable := #[], attributes := #[] }
def k8m0 : Method := { name := "<init>", desc := "()V", sig := { parameters := [], returnType := none }, accessFlags := 4, code := some k8c0 }
/-- java/util/AbstractList -/
def k8 : Class := { plain "java/util/AbstractList" (some 5) with
  accessFlags := 1057
  interfaces := #[7]
  cf := some (fileOf pool8 8 #[.nestMembers #[93, 98, 208, 210, 82, 77]] #[{ accessFlags := 4, nameIndex := 5, descriptorIndex := 6, attributes := #[] }] 1057 2 #[133] #[{ accessFlags := 132, nameIndex := 11, descriptorIndex := 12, attributes := #[] }])
  fields := #[{ name := "modCount", type := .int, accessFlags := 132, slot := 0, constantValue := 0 }]
  methods := #[k8m0]
  instanceTypes := #[.int]
  staticTypes := #[]
  resolved := Array.replicate 218 none
  statics := none }

def pool9 : Array CpInfo := pool [(1, .class_ 2), (0, u "java/util/RandomAccess"), (0, .class_ 4), (0, u "java/lang/Object")] 2

/-- java/util/RandomAccess -/
def k9 : Class := { plain "java/util/RandomAccess" (some 0) with
  accessFlags := 1537
  interfaces := #[]
  cf := some (fileOf pool9 1 #[] #[] 1537 3 #[] #[])
  fields := #[]
  methods := #[]
  instanceTypes := #[]
  staticTypes := #[]
  resolved := Array.replicate 7 none
  statics := none }

def pool10 : Array CpInfo := pool [(1, .class_ 2), (0, u "java/lang/Cloneable"), (0, .class_ 4), (0, u "java/lang/Object")] 2

/-- java/lang/Cloneable -/
def k10 : Class := { plain "java/lang/Cloneable" (some 0) with
  accessFlags := 1537
  interfaces := #[]
  cf := some (fileOf pool10 1 #[] #[] 1537 3 #[] #[])
  fields := #[]
  methods := #[]
  instanceTypes := #[]
  staticTypes := #[]
  resolved := Array.replicate 7 none
  statics := none }

def pool11 : Array CpInfo := pool [(1, .class_ 2), (0, u "java/io/Serializable"), (0, .class_ 4), (0, u "java/lang/Object")] 2

/-- java/io/Serializable -/
def k11 : Class := { plain "java/io/Serializable" (some 0) with
  accessFlags := 1537
  interfaces := #[]
  cf := some (fileOf pool11 1 #[] #[] 1537 3 #[] #[])
  fields := #[]
  methods := #[]
  instanceTypes := #[]
  staticTypes := #[]
  resolved := Array.replicate 7 none
  statics := none }

def pool12 : Array CpInfo := pool [(1, .methodref 2 3), (0, .class_ 4), (0, .nameAndType 5 6), (0, u "java/util/AbstractList"), (0, u "<init>"), (0, u "()V"), (2, .fieldref 10 11), (0, .class_ 12), (0, .nameAndType 13 14), (0, u "java/util/ArrayList"), (0, u "elementData"), (0, u "[Ljava/lang/Object;"), (2, u "EMPTY_ELEMENTDATA"), (21, .fieldref 10 40), (0, .nameAndType 41 14), (0, u "DEFAULTCAPACITY_EMPTY_ELEMENTDATA"), (8, u "size"), (0, u "I"), (96, .class_ 149), (0, u "java/util/List"), (112, .class_ 263), (0, u "java/util/ArrayList$ListItr"), (3, .class_ 268), (0, u "java/util/ArrayList$Itr"), (7, .class_ 277), (0, u "java/util/ArrayList$SubList"), (12, .class_ 291), (0, u "java/util/ArrayList$ArrayListSpliterator"), (37, .class_ 330), (0, u "java/util/RandomAccess"), (0, .class_ 332), (0, u "java/lang/Cloneable"), (0, .class_ 334), (0, u "java/io/Serializable"), (0, u "serialVersionUID"), (0, u "J"), (3, u "DEFAULT_CAPACITY"), (159, .class_ 501), (0, u "java/util/ArrayList$SubList$2"), (0, .class_ 503), (0, u "java/util/ArrayList$SubList$1")] 5

def k12c0 : Code := { maxStack := 2, maxLocals := 1, code := jdk_38_method_2_code, exceptionTable := #[], attributes := #[] }
def k12m0 : Method := { name := "<init>", desc := "()V", sig := { parameters := [], returnType := none }, accessFlags := 1, code := some k12c0 }
/-- java/util/ArrayList -/
def k12 : Class := { plain "java/util/ArrayList" (some 8) with
  accessFlags := 33
  interfaces := #[7, 9, 10, 11]
  cf := some (fileOf pool12 10 #[.nestMembers #[290, 276, 500, 502, 262, 267]] #[{ accessFlags := 1, nameIndex := 5, descriptorIndex := 6, attributes := #[] }] 33 2 #[148, 329, 331, 333] #[{ accessFlags := 26, nameIndex := 335, descriptorIndex := 336, attributes := #[] }, { accessFlags := 26, nameIndex := 340, descriptorIndex := 51, attributes := #[] }, { accessFlags := 26, nameIndex := 17, descriptorIndex := 14, attributes := #[] }, { accessFlags := 26, nameIndex := 41, descriptorIndex := 14, attributes := #[] }, { accessFlags := 128, nameIndex := 13, descriptorIndex := 14, attributes := #[] }, { accessFlags := 2, nameIndex := 50, descriptorIndex := 51, attributes := #[] }])
  fields := #[{ name := "serialVersionUID", type := .long, accessFlags := 26, slot := 0, constantValue := 0 }, { name := "DEFAULT_CAPACITY", type := .int, accessFlags := 26, slot := 1, constantValue := 0 }, { name := "EMPTY_ELEMENTDATA", type := (.array (.object "java/lang/Object")), accessFlags := 26, slot := 2, constantValue := 0 }, { name := "DEFAULTCAPACITY_EMPTY_ELEMENTDATA", type := (.array (.object "java/lang/Object")), accessFlags := 26, slot := 3, constantValue := 0 }, { name := "elementData", type := (.array (.object "java/lang/Object")), accessFlags := 128, slot := 1, constantValue := 0 }, { name := "size", type := .int, accessFlags := 2, slot := 2, constantValue := 0 }]
  methods := #[k12m0]
  instanceTypes := #[.int, (.array (.object "java/lang/Object")), .int]
  staticTypes := #[.long, .int, (.array (.object "java/lang/Object")), (.array (.object "java/lang/Object"))]
  resolved := Array.replicate 509 none
  statics := some 0 }

/-- the primitive byte -/
def k13 : Class := { plain "byte" none with kind := .primitive 'B', accessFlags := 0x411 }
/-- [B -/
def k14 : Class := { plain "[B" (some 0) with kind := .array 13 .byte, interfaces := #[10, 11], accessFlags := 1041 }

/-- the primitive int -/
def k15 : Class := { plain "int" none with kind := .primitive 'I', accessFlags := 0x411 }
/-- [I -/
def k16 : Class := { plain "[I" (some 0) with kind := .array 15 .int, interfaces := #[10, 11], accessFlags := 1041 }

/-- [Ljava/lang/Object; -/
def k17 : Class := { plain "[Ljava/lang/Object;" (some 0) with kind := .array 0 (.object "java/lang/Object"), interfaces := #[10, 11], accessFlags := 1041 }

def heap : Heap := #[{ cls := 12, slots := #[.long 0, .int 0, .ref 1, .ref 2], vm := .statics 12 },
  { cls := 17, slots := #[], vm := .none },
  { cls := 17, slots := #[], vm := .none }]
def classes : Array Class := #[k0, k1, k2, k3, k4, k5, k6, k7, k8, k9, k10, k11, k12, k13, k14, k15, k16, k17]
def interned : List (Array UInt16 × Addr) := []
def slotsUsed : Nat := 4
def theMethod : MethodId := ⟨1, 1⟩
def args0 : Array Value := #[.long 5, .long 6, .int 2, .int 1, .int 2, .int 3]
def aboutOver (below : List Frame) : State where
  vm := { classes := classes, interned := interned.toArray }
  heap := heap
  slotsUsed := slotsUsed
  threads := #[{ frames := .invoking theMethod args0 :: below }]
def below0 : List Frame := [.native { method := ⟨0, 0⟩, args := #[] }]
def about1 : State := aboutOver below0
def p0 : Program := .bare "" "" ""
def e0 : Env := launch0.env 0 0 0
theorem w_frames : about1.frames = Frame.invoking theMethod args0 :: below0 := rfl
set_option maxRecDepth 65536 in
theorem w_args : argsFit about1.vm theMethod args0 = true := by decide +kernel
set_option maxRecDepth 65536 in
theorem w_heap : heapFits about1 = true := by decide +kernel
set_option maxRecDepth 65536 in
theorem w_runnable : about1.curStatus? = some .runnable := by decide +kernel
set_option maxRecDepth 65536 in
theorem w_alone : about1.alone = true := by decide +kernel
set_option maxRecDepth 65536 in
theorem w_named : about1.methodNamed? x = some theMethod := by decide +kernel
set_option maxRecDepth 65536 in
theorem w_hears : about1.hears theMethod below0 = true := by decide +kernel
set_option maxRecDepth 65536 in
theorem w_ripe : about1.ripe theMethod args0 below0 = true := by decide +kernel
theorem w_running : about1.status = .running := rfl
set_option maxRecDepth 65536 in
theorem w_room : about1.hasRoom e0.platform room_1 = true :=
  launch0.hasRoom_least _ room_1 (by decide +kernel) (by decide +kernel) (by decide +kernel) (by decide +kernel) (by decide +kernel) (by decide +kernel)
theorem allAtoms_all (ts : List Jvm.Cond) (a : Array Jvm.Value) (st : Jvm.State) : (allAtoms ts).before a st = ts.all (fun c => c.before a st) := by
  induction ts with
  | nil => rfl
  | cons c t ih =>
    show (Jvm.Cond.and c (allAtoms t)).before a st = _
    rw [Jvm.Cond.before_and, ih, List.all_cons]
def words1 : List Jvm.Cond := Jvm.Cond.code x code maxLocals ret :: tables_1
/-- a 'code' word, met by the world's own term for the bytes: nothing is compared byte by byte -/
theorem code_word {y : MethodName} {bytes : ByteArray} {mx : Nat} {rt : Option FieldType} {a : Array Value} {s : State} {m : MethodId} {meth : Method} {c : Code} (h1 : s.methodNamed? y = some m) (h2 : s.vm.method? m = some meth) (h3 : meth.code = some c) (h4 : c.code = bytes)
    (h5 : (c.maxLocals == mx && c.exceptionTable.isEmpty && decide (c.maxStack ≤ mostOperands) && decide (meth.sig.returnType = rt) && !meth.locks && decide (parseMethodDescriptor y.desc = some meth.sig)) = true) : (Jvm.Cond.code y bytes mx rt).before a s = true := by
  simp only [Bool.and_eq_true, beq_iff_eq, Bool.not_eq_true', decide_eq_true_eq] at h5
  obtain ⟨⟨⟨⟨⟨g1, g2⟩, g3⟩, g4⟩, g5⟩, g6⟩ := h5
  simp [Cond.before, Cond.holds, Cond.value, h1, h2, h3, h4, g1, g2, g3, g4, g5, g6]
def isCode : Jvm.Cond → Bool
  | .code _ _ _ _ => true
  | _ => false
theorem all_split {L : List Jvm.Cond} {P : Jvm.Cond → Bool} (h1 : L.all (fun c => isCode c || P c) = true) (h2 : ∀ c ∈ L.filter isCode, P c = true) : L.all P = true := by
  refine List.all_eq_true.mpr fun c hc => ?_
  have h := List.all_eq_true.mp h1 c hc
  rcases Bool.eq_false_or_eq_true (isCode c) with hi | hi
  · exact h2 c (List.mem_filter.mpr ⟨hc, hi⟩)
  · simpa [hi] using h
set_option maxRecDepth 65536 in
theorem w_c0 : (Jvm.Cond.code x code maxLocals ret).before args0 about1 = true := code_word (m := ⟨1, 1⟩) (meth := k1m1) (c := k1c1) (by decide +kernel) rfl rfl rfl (by decide +kernel)
set_option maxRecDepth 65536 in
theorem w_c1 : (Jvm.Cond.code ({ cls := "com/example/interleave/interleave/check/Expansion", name := "<init>", desc := "(II[B)V" } : Jvm.MethodName) prog_13_method_1_code (4 : Nat) (Option.none : Option Jvm.ClassFile.FieldType)).before args0 about1 = true := code_word (m := ⟨2, 0⟩) (meth := k2m0) (c := k2c0) (by decide +kernel) rfl rfl rfl (by decide +kernel)
set_option maxRecDepth 65536 in
theorem w_c2 : (Jvm.Cond.code ({ cls := "java/lang/Object", name := "<init>", desc := "()V" } : Jvm.MethodName) object_method_1_code (1 : Nat) (Option.none : Option Jvm.ClassFile.FieldType)).before args0 about1 = true := code_word (m := ⟨0, 0⟩) (meth := k0m0) (c := k0c0) (by decide +kernel) rfl rfl rfl (by decide +kernel)
set_option maxRecDepth 65536 in
theorem w_c3 : (Jvm.Cond.code ({ cls := "java/util/ArrayList", name := "<init>", desc := "()V" } : Jvm.MethodName) jdk_38_method_2_code (1 : Nat) (Option.none : Option Jvm.ClassFile.FieldType)).before args0 about1 = true := code_word (m := ⟨12, 0⟩) (meth := k12m0) (c := k12c0) (by decide +kernel) rfl rfl rfl (by decide +kernel)
set_option maxRecDepth 65536 in
theorem w_c4 : (Jvm.Cond.code ({ cls := "java/util/AbstractList", name := "<init>", desc := "()V" } : Jvm.MethodName) jdk_39_method_1_code (1 : Nat) (Option.none : Option Jvm.ClassFile.FieldType)).before args0 about1 = true := code_word (m := ⟨8, 0⟩) (meth := k8m0) (c := k8c0) (by decide +kernel) rfl rfl rfl (by decide +kernel)
set_option maxRecDepth 65536 in
theorem w_c5 : (Jvm.Cond.code ({ cls := "java/util/AbstractCollection", name := "<init>", desc := "()V" } : Jvm.MethodName) jdk_22_method_1_code (1 : Nat) (Option.none : Option Jvm.ClassFile.FieldType)).before args0 about1 = true := code_word (m := ⟨5, 0⟩) (meth := k5m0) (c := k5c0) (by decide +kernel) rfl rfl rfl (by decide +kernel)
set_option maxRecDepth 65536 in
theorem w_c6 : (Jvm.Cond.code ({ cls := "com/example/interleave/interleave/check/Expansion", name := "tookIn", desc := "(Ljava/util/List;JJI)V" } : Jvm.MethodName) prog_13_method_21_code (7 : Nat) (Option.none : Option Jvm.ClassFile.FieldType)).before args0 about1 = true := code_word (m := ⟨2, 4⟩) (meth := k2m4) (c := k2c4) (by decide +kernel) rfl rfl rfl (by decide +kernel)
set_option maxRecDepth 65536 in
theorem w_c7 : (Jvm.Cond.code ({ cls := "com/example/interleave/interleave/check/Expansion", name := "fresh", desc := "()Ljava/util/List;" } : Jvm.MethodName) prog_13_method_22_code (1 : Nat) (Option.some (Jvm.ClassFile.FieldType.object "java/util/List"))).before args0 about1 = true := code_word (m := ⟨2, 5⟩) (meth := k2m5) (c := k2c5) (by decide +kernel) rfl rfl rfl (by decide +kernel)
set_option maxRecDepth 65536 in
theorem w_c8 : (Jvm.Cond.code ({ cls := "com/example/interleave/interleave/check/Expansion", name := "generated", desc := "()J" } : Jvm.MethodName) prog_13_method_23_code (1 : Nat) (Option.some Jvm.ClassFile.FieldType.long)).before args0 about1 = true := code_word (m := ⟨2, 6⟩) (meth := k2m6) (c := k2c6) (by decide +kernel) rfl rfl rfl (by decide +kernel)
set_option maxRecDepth 65536 in
theorem w_c9 : (Jvm.Cond.code ({ cls := "com/example/interleave/interleave/check/Expansion", name := "distinct", desc := "()J" } : Jvm.MethodName) prog_13_method_24_code (1 : Nat) (Option.some Jvm.ClassFile.FieldType.long)).before args0 about1 = true := code_word (m := ⟨2, 7⟩) (meth := k2m7) (c := k2c7) (by decide +kernel) rfl rfl rfl (by decide +kernel)
set_option maxRecDepth 65536 in
theorem w_c10 : (Jvm.Cond.code ({ cls := "com/example/interleave/interleave/check/Expansion", name := "depth", desc := "()I" } : Jvm.MethodName) prog_13_method_25_code (1 : Nat) (Option.some Jvm.ClassFile.FieldType.int)).before args0 about1 = true := code_word (m := ⟨2, 8⟩) (meth := k2m8) (c := k2c8) (by decide +kernel) rfl rfl rfl (by decide +kernel)
set_option maxRecDepth 65536 in
theorem w_c11 : (Jvm.Cond.code ({ cls := "com/example/interleave/interleave/check/Expansion", name := "sourceId", desc := "()I" } : Jvm.MethodName) prog_13_method_4_code (1 : Nat) (Option.some Jvm.ClassFile.FieldType.int)).before args0 about1 = true := code_word (m := ⟨2, 1⟩) (meth := k2m1) (c := k2c1) (by decide +kernel) rfl rfl rfl (by decide +kernel)
set_option maxRecDepth 65536 in
theorem w_c12 : (Jvm.Cond.code ({ cls := "com/example/interleave/interleave/check/Expansion", name := "sourceParent", desc := "()I" } : Jvm.MethodName) prog_13_method_5_code (1 : Nat) (Option.some Jvm.ClassFile.FieldType.int)).before args0 about1 = true := code_word (m := ⟨2, 2⟩) (meth := k2m2) (c := k2c2) (by decide +kernel) rfl rfl rfl (by decide +kernel)
set_option maxRecDepth 65536 in
theorem w_c13 : (Jvm.Cond.code ({ cls := "com/example/interleave/interleave/check/Expansion", name := "sourceBytes", desc := "()[B" } : Jvm.MethodName) prog_13_method_6_code (1 : Nat) (Option.some (Jvm.ClassFile.FieldType.array Jvm.ClassFile.FieldType.byte))).before args0 about1 = true := code_word (m := ⟨2, 3⟩) (meth := k2m3) (c := k2c3) (by decide +kernel) rfl rfl rfl (by decide +kernel)
def codes1 : List Jvm.Cond := [Jvm.Cond.code x code maxLocals ret, Jvm.Cond.code ({ cls := "com/example/interleave/interleave/check/Expansion", name := "<init>", desc := "(II[B)V" } : Jvm.MethodName) prog_13_method_1_code (4 : Nat) (Option.none : Option Jvm.ClassFile.FieldType), Jvm.Cond.code ({ cls := "java/lang/Object", name := "<init>", desc := "()V" } : Jvm.MethodName) object_method_1_code (1 : Nat) (Option.none : Option Jvm.ClassFile.FieldType), Jvm.Cond.code ({ cls := "java/util/ArrayList", name := "<init>", desc := "()V" } : Jvm.MethodName) jdk_38_method_2_code (1 : Nat) (Option.none : Option Jvm.ClassFile.FieldType), Jvm.Cond.code ({ cls := "java/util/AbstractList", name := "<init>", desc := "()V" } : Jvm.MethodName) jdk_39_method_1_code (1 : Nat) (Option.none : Option Jvm.ClassFile.FieldType), Jvm.Cond.code ({ cls := "java/util/AbstractCollection", name := "<init>", desc := "()V" } : Jvm.MethodName) jdk_22_method_1_code (1 : Nat) (Option.none : Option Jvm.ClassFile.FieldType), Jvm.Cond.code ({ cls := "com/example/interleave/interleave/check/Expansion", name := "tookIn", desc := "(Ljava/util/List;JJI)V" } : Jvm.MethodName) prog_13_method_21_code (7 : Nat) (Option.none : Option Jvm.ClassFile.FieldType), Jvm.Cond.code ({ cls := "com/example/interleave/interleave/check/Expansion", name := "fresh", desc := "()Ljava/util/List;" } : Jvm.MethodName) prog_13_method_22_code (1 : Nat) (Option.some (Jvm.ClassFile.FieldType.object "java/util/List")), Jvm.Cond.code ({ cls := "com/example/interleave/interleave/check/Expansion", name := "generated", desc := "()J" } : Jvm.MethodName) prog_13_method_23_code (1 : Nat) (Option.some Jvm.ClassFile.FieldType.long), Jvm.Cond.code ({ cls := "com/example/interleave/interleave/check/Expansion", name := "distinct", desc := "()J" } : Jvm.MethodName) prog_13_method_24_code (1 : Nat) (Option.some Jvm.ClassFile.FieldType.long), Jvm.Cond.code ({ cls := "com/example/interleave/interleave/check/Expansion", name := "depth", desc := "()I" } : Jvm.MethodName) prog_13_method_25_code (1 : Nat) (Option.some Jvm.ClassFile.FieldType.int), Jvm.Cond.code ({ cls := "com/example/interleave/interleave/check/Expansion", name := "sourceId", desc := "()I" } : Jvm.MethodName) prog_13_method_4_code (1 : Nat) (Option.some Jvm.ClassFile.FieldType.int), Jvm.Cond.code ({ cls := "com/example/interleave/interleave/check/Expansion", name := "sourceParent", desc := "()I" } : Jvm.MethodName) prog_13_method_5_code (1 : Nat) (Option.some Jvm.ClassFile.FieldType.int), Jvm.Cond.code ({ cls := "com/example/interleave/interleave/check/Expansion", name := "sourceBytes", desc := "()[B" } : Jvm.MethodName) prog_13_method_6_code (1 : Nat) (Option.some (Jvm.ClassFile.FieldType.array Jvm.ClassFile.FieldType.byte))]
set_option maxRecDepth 65536 in
theorem codes_eq : words1.filter isCode = codes1 := rfl
theorem w_codes : ∀ c ∈ words1.filter isCode, c.before args0 about1 = true := by
  rw [codes_eq]
  intro c hc
  simp only [codes1, List.mem_cons, List.not_mem_nil, or_false] at hc
  rcases hc with rfl | rfl | rfl | rfl | rfl | rfl | rfl | rfl | rfl | rfl | rfl | rfl | rfl | rfl
  · exact w_c0
  · exact w_c1
  · exact w_c2
  · exact w_c3
  · exact w_c4
  · exact w_c5
  · exact w_c6
  · exact w_c7
  · exact w_c8
  · exact w_c9
  · exact w_c10
  · exact w_c11
  · exact w_c12
  · exact w_c13
set_option maxRecDepth 65536 in
theorem w_t1 : (words1.take 24).all (fun c => isCode c || c.before args0 about1) = true := by decide +kernel
set_option maxRecDepth 65536 in
theorem w_t2 : ((words1.drop 24).take 24).all (fun c => isCode c || c.before args0 about1) = true := by decide +kernel
set_option maxRecDepth 65536 in
theorem w_t3 : (((words1.drop 24).drop 24).take 24).all (fun c => isCode c || c.before args0 about1) = true := by decide +kernel
set_option maxRecDepth 65536 in
theorem w_t4 : (((words1.drop 24).drop 24).drop 24).all (fun c => isCode c || c.before args0 about1) = true := by decide +kernel
theorem w_tables : (allAtoms (Jvm.Cond.code x code maxLocals ret :: tables_1)).before args0 about1 = true := by
  rw [allAtoms_all]
  show words1.all (fun c => c.before args0 about1) = true
  refine all_split ?_ w_codes
  rw [← List.take_append_drop 24 words1, List.all_append, w_t1, ← List.take_append_drop 24 (words1.drop 24), List.all_append, w_t2, ← List.take_append_drop 24 ((words1.drop 24).drop 24), List.all_append, w_t3, w_t4]
  rfl
set_option maxRecDepth 65536 in
theorem w_rest : rest_1_c.before args0 about1 = true := by decide +kernel
set_option maxRecDepth 65536 in
theorem w_case : (Jvm.Cond.and given_1 narrow_1).before args0 about1 = true := by decide +kernel
theorem w_applies : (headSpec (Jvm.Cond.code x code maxLocals ret :: tables_1) room_1).applies x e0.platform about1 = true :=
  (Spec.applies_iff w_frames).mpr ⟨w_running, w_runnable, w_alone, w_named, w_hears, w_ripe, w_room, w_tables⟩
theorem atStart : AtStart classFile x code maxLocals ret World_1 tables_1 room_1 Calls_1 rest_1 Pre_1 launch0 p0 e0 about1 theMethod args0 below0 :=
  ⟨lists_1, trivial, launch0.admits_env _ _ _, launch0.least_env, fairChoices_fair.cas, fairChoices_fair.clock, w_frames, w_args, w_heap, w_applies, trivial, w_rest, w_case⟩
end start1
theorem witness_1 : WitnessClaimed_1 := ⟨start1.p0, start1.e0, start1.about1, start1.theMethod, start1.args0, start1.below0, start1.atStart⟩
end Jvm.Pilot.@@N@@
