import JvmDerived
import JvmDerived.Pilot.@@N@@Statement
import JvmDerived.Pilot.@@N@@Code
set_option linter.unusedVariables false
set_option linter.unusedSimpArgs false
namespace Jvm.RoadKit
open Sem ClassFile Op Lib Jvm.Stand Jvm.Free Jvm.LawKit
section New
variable {p : Program} {l : Launch} {e : Env} {R : Room} {s : State} {m : MethodId} {args : Array Value} {below : List Frame} {meth : Method} {c : Code} {T : State} {locs : List Loc} {cells slots : Nat}
theorem retI (X : Stand p l e R s m args below meth c T locs cells slots) (hx : p.tables.exec = Jvm.exec) {pc : Nat} {Ls : Array Slot} {z : Int32} {rest : List Value} (hret : meth.sig.returnType = some .int) (hd : decode c.code pc = .ok (.ireturn, 1)) {fs : List Frame}
    (hl : ∀ (f : JFrame) (acts : List Action), f.method = m → f.locked = none → f.entered = [] → (doReturn e (T.setTop f) acts (some (.int z))).1 = T.setFrames fs) : Steps p.tables e below (T.setTop (mkF m pc Ls (.int z :: rest))) (T.setFrames fs) := by
  have hm' : T.vm.method? m = some meth := X.method'
  have hn : narrow .int (.int z) = .int z := rfl
  show Steps p.tables e below (T.setTop { method := m, pc := pc, locals := Ls, stack := _ :: rest, locked := none }) _
  jvm_step X.here [X.here.top, hx, hd, hm', hret, hn]
  first | (intro acts; rw [hl _ acts rfl rfl rfl]) | rw [hl _ _ rfl rfl rfl]
  exact Steps.refl _
end New
end Jvm.RoadKit
namespace Jvm.Pilot.@@N@@
open Jvm Jvm.ClassFile Sem Op Lib Jvm.Free Jvm.Stand Jvm.LawKit Jvm.RoadKit Bundle Jvm.Pilot.@@N@@.Jvm.D
theorem own_sta_keep {Z : State} {h h' : Heap} {C n d : String} {v : Value} {ws : List Addr} (F : Sta Z h C n d v) (K : Keep h h' ws) (q : ∀ x ∈ ws, ∀ c : Cell, h[x]? = some c → c.vm.isStatics = false) : Sta Z h' C n d v := by
  obtain ⟨cf, i, k, f, st, cell, h1, h2, h3, h4, h5, h6, h7⟩ := F
  have ni : st ∉ ws := fun u => by
    have := q st u cell h5
    rw [this] at h6; exact absurd h6 (by decide)
  exact ⟨cf, i, k, f, st, cell, h1, h2, h3, h4, K.2.1 st cell h5 ni, h6, h7⟩
theorem own_pl_cons {Z : State} {h : Heap} {a : Addr} {C : String} {ws : List Addr} (E : Exa Z h a C) (q : ∀ x ∈ ws, ∀ c : Cell, h[x]? = some c → c.vm.isStatics = false) : ∀ x ∈ a :: ws, ∀ c : Cell, h[x]? = some c → c.vm.isStatics = false := fun x hx c hc => by
  rcases List.mem_cons.mp hx with rfl | hx
  · obtain ⟨cell, k, e1, -, -, e4, -⟩ := E
    cases hc.symm.trans e1; exact e4
  · exact q x hx c hc
def own_L (Z : State) (h : Heap) (a : Addr) (ty : FieldType) (n : Int32) : Prop := ∃ c : Cell, Arr Z h a c ty ∧ c.slots.size = n.toNatClampNeg
theorem own_L.lt {Z : State} {h : Heap} {a : Addr} {ty : FieldType} {n : Int32} (F : own_L Z h a ty n) : a < h.size := by obtain ⟨c, A, -⟩ := F; exact A.lt
theorem own_L.ext {Z : State} {h h' : Heap} {a : Addr} {ty : FieldType} {n : Int32} (F : own_L Z h a ty n) (E : Ext h h') : own_L Z h' a ty n := by obtain ⟨c, A, r⟩ := F; exact ⟨c, A.ext E, r⟩
theorem own_L.other {Z : State} {h h' : Heap} {a b : Addr} {ty : FieldType} {n : Int32} {sl : Nat} {v : Value} (F : own_L Z h b ty n) (W : Wr h h' a sl v) (q : b ≠ a) : own_L Z h' b ty n := by obtain ⟨c, A, r⟩ := F; exact ⟨c, A.other W q, r⟩
theorem own_L.same {Z : State} {h h' : Heap} {a : Addr} {ty : FieldType} {n : Int32} {sl : Nat} {v : Value} (F : own_L Z h a ty n) (W : Wr h h' a sl v) : own_L Z h' a ty n := by obtain ⟨c, A, r⟩ := F; exact ⟨_, A.same W, by rw [sz_set]; exact r⟩
theorem own_L.keep {Z : State} {h h' : Heap} {a : Addr} {ty : FieldType} {n : Int32} {ws : List Addr} (F : own_L Z h a ty n) (K : Keep h h' ws) (q : a ∉ ws) : own_L Z h' a ty n := by obtain ⟨c, A, r⟩ := F; exact ⟨c, ⟨K.2.1 a c A.1 q, A.2⟩, r⟩
theorem own_d_jdk_22_method_1_0 : decode jdk_22_method_1_code 0 = .ok (.aload_n 0, 1) := by decide +kernel
theorem own_d_jdk_22_method_1_1 : decode jdk_22_method_1_code 1 = .ok (.invokespecial 1, 3) := by decide +kernel
theorem own_d_jdk_22_method_1_4 : decode jdk_22_method_1_code 4 = .ok (.return_, 1) := by decide +kernel
theorem own_pn0 : plainName "java/util/AbstractCollection" = true := by first | (simp [plainName, overriddenIn]; done) | decide +kernel
theorem own_ef_ac (m : MethodId) (a1 : Addr) : entryFrame m #[(.ref a1)] 1 = mkF m 0 #[.val (.ref a1)] [] := by first | (simp [entryFrame, mkF, argsToLocals, Value.category]; done) | rfl
def own_Q_ac (Z : State) (a1 : Addr) (h0 : Heap) (n0 : Nat) (v : Option Value) (h : Heap) (L : List Loc) : Prop := v = none ∧ Fr n0 L ∧ h = h0
set_option maxRecDepth 65536 in
set_option maxHeartbeats 40000000 in
theorem own_rm_ac (l : Launch) (Z : State) (a0 : Array Value) (hw : ∀ d ∈ tables_1, d.before a0 Z = true) (ws : List Jvm.Cond) (a1 : Addr) (h0 : Heap) (n0 : Nat) (Z0 : n0 ≤ h0.size) :
    MetFree l (⟨"java/util/AbstractCollection", "<init>", "()V"⟩ : MethodName) (head1 (Jvm.Cond.code (⟨"java/util/AbstractCollection", "<init>", "()V"⟩ : MethodName) jdk_22_method_1_code 1 none :: ws) ({ frames := 1, cells := 0, slots := 0, locals := 12 } : Room)) (fun a U => a = #[(.ref a1)] ∧ Z.Warmed39 U.vm ∧ U.heap = h0) (fun _ _ _ _ _ => True) (fun _ U o U' => ∃ v L, o = .returned v ∧ own_Q_ac Z a1 h0 n0 v U'.heap L ∧ FrameEnd U o U' L ({ frames := 1, cells := 0, slots := 0, locals := 12 } : Room).cells ({ frames := 1, cells := 0, slots := 0, locals := 12 } : Room).slots) := by
  refine MetFree.of_bodySF (plainFor_of_name own_pn0) hisR ?_
  intro p e s m args below meth c s₁ Bd hml0 hP hK
  obtain ⟨rfl, hZ, hh⟩ := hP
  have hx := Bd.exec
  have hby := Bd.bytes
  have hml : c.maxLocals = 1 := hml0
  have hown : s.vm.findClass "java/util/AbstractCollection" = some m.cls := findClass_of_methodNamed Bd.named
  have hnm := (name_of_methodNamed Bd.named Bd.method).1
  have X0 : Stand p l e ({ frames := 1, cells := 0, slots := 0, locals := 12 } : Room) s m #[(.ref a1)] below meth c s₁ [] 0 0 := Stand.of_body Bd
  have e0 : s₁.heap = h0 := by rw [← hh, Bd.state]; rfl
  have N0 := Fr.nil n0
  have K0 : Keep h0 h0 [] := Keep.refl _ _
  have pre0 : ∀ t, Steps p.tables e below (s₁.setTop (mkF m 0 #[.val (.ref a1)] [])) t → Steps p.tables e below (s₁.setTop (entryFrame m #[(.ref a1)] 1)) t := fun t k => castTop (own_ef_ac m a1) k
  obtain ⟨T1, X1, e1, st1⟩ := initO X0 hx hZ hown (hw _ (List.mem_of_getElem? (i := 28) rfl)) (hw _ (List.mem_of_getElem? (i := 8) rfl)) (hw _ (List.mem_of_getElem? (i := 9) rfl)) e0 (g := (mkF m 1 #[.val (.ref a1)] [(.ref a1)])) rfl (by rw [hml]; rfl) rfl (hb hby own_d_jdk_22_method_1_1) (by decide) (W := 0) (by show 2 * 0 + _ ≤ _; exact Nat.le_of_eq rfl) (by decide)
  have pre2 : ∀ t, Steps p.tables e below (T1.setTop (mkF m 4 #[.val (.ref a1)] [])) t → Steps p.tables e below (s₁.setTop (entryFrame m #[(.ref a1)] 1)) t := by
    intro t kt
    refine pre0 t ?_
    show Steps p.tables e below (s₁.setTop (mkF m 0 #[.val (.ref a1)] [])) _
    refine XS.aloadN X0.here hx rfl (hb hby own_d_jdk_22_method_1_0) rfl rfl ?_
    show Steps p.tables e below (s₁.setTop (mkF m 1 #[.val (.ref a1)] [(.ref a1)])) _
    refine st1 _ ?_
    exact kt
  obtain ⟨fs, hr, hrun, hended, hW, hsame⟩ := X1.leave (v := none) (fun _ => rfl)
  refine ⟨_, _, pre2 _ ?_, hrun, hended, _, _, rfl, ?_, ⟨_, rfl⟩, hW, hsame.mono (by decide) (by decide)⟩
  · show Steps p.tables e below (T1.setTop (mkF m 4 #[.val (.ref a1)] [])) _
    exact X1.returnOut hx Bd.returns (hb hby own_d_jdk_22_method_1_4) hr
  · show own_Q_ac Z a1 h0 n0 (none) T1.heap _
    rw [e1]
    exact ⟨rfl, N0, rfl⟩
theorem own_d_jdk_39_method_1_0 : decode jdk_39_method_1_code 0 = .ok (.aload_n 0, 1) := by decide +kernel
theorem own_d_jdk_39_method_1_1 : decode jdk_39_method_1_code 1 = .ok (.invokespecial 1, 3) := by decide +kernel
theorem own_d_jdk_39_method_1_4 : decode jdk_39_method_1_code 4 = .ok (.aload_n 0, 1) := by decide +kernel
theorem own_d_jdk_39_method_1_5 : decode jdk_39_method_1_code 5 = .ok (.iconst 0, 1) := by decide +kernel
theorem own_d_jdk_39_method_1_6 : decode jdk_39_method_1_code 6 = .ok (.putfield 7, 3) := by decide +kernel
theorem own_d_jdk_39_method_1_9 : decode jdk_39_method_1_code 9 = .ok (.return_, 1) := by decide +kernel
theorem own_pd0 : parseMethodDescriptor "()V" = some ⟨[], none⟩ := by decide +kernel
theorem own_pn1 : plainName "java/util/AbstractList" = true := by first | (simp [plainName, overriddenIn]; done) | decide +kernel
theorem own_ef_ab (m : MethodId) (a1 : Addr) : entryFrame m #[(.ref a1)] 1 = mkF m 0 #[.val (.ref a1)] [] := by first | (simp [entryFrame, mkF, argsToLocals, Value.category]; done) | rfl
def own_Q_ab (Z : State) (a1 : Addr) (h0 : Heap) (n0 : Nat) (v : Option Value) (h : Heap) (L : List Loc) : Prop := v = none ∧ Fr n0 L ∧ Keep h0 h [a1] ∧ Fld Z h a1 "java/util/ArrayList" "elementData" "[Ljava/lang/Object;" .null
set_option maxRecDepth 65536 in
set_option maxHeartbeats 40000000 in
theorem own_rm_ab (l : Launch) (Z : State) (a0 : Array Value) (hw : ∀ d ∈ tables_1, d.before a0 Z = true) (ws : List Jvm.Cond) (a1 : Addr) (h0 : Heap) (n0 : Nat) (Z0 : n0 ≤ h0.size) (E1 : Exa Z h0 a1 "java/util/ArrayList") (F1 : Fld Z h0 a1 "java/util/AbstractList" "modCount" "I" (.int (0 : Int32))) (F2 : Fld Z h0 a1 "java/util/ArrayList" "elementData" "[Ljava/lang/Object;" .null) (g1 : n0 ≤ a1) :
    MetFree l (⟨"java/util/AbstractList", "<init>", "()V"⟩ : MethodName) (head1 (Jvm.Cond.code (⟨"java/util/AbstractList", "<init>", "()V"⟩ : MethodName) jdk_39_method_1_code 1 none :: ws) ({ frames := 2, cells := 0, slots := 0, locals := 24 } : Room)) (fun a U => a = #[(.ref a1)] ∧ Z.Warmed39 U.vm ∧ U.heap = h0) (fun _ _ _ _ _ => True) (fun _ U o U' => ∃ v L, o = .returned v ∧ own_Q_ab Z a1 h0 n0 v U'.heap L ∧ FrameEnd U o U' L ({ frames := 2, cells := 0, slots := 0, locals := 24 } : Room).cells ({ frames := 2, cells := 0, slots := 0, locals := 24 } : Room).slots) := by
  refine MetFree.of_bodySF (plainFor_of_name own_pn1) hisR ?_
  intro p e s m args below meth c s₁ Bd hml0 hP hK
  obtain ⟨rfl, hZ, hh⟩ := hP
  have hx := Bd.exec
  have hby := Bd.bytes
  have hml : c.maxLocals = 1 := hml0
  have hown : s.vm.findClass "java/util/AbstractList" = some m.cls := findClass_of_methodNamed Bd.named
  have hnm := (name_of_methodNamed Bd.named Bd.method).1
  have X0 : Stand p l e ({ frames := 2, cells := 0, slots := 0, locals := 24 } : Room) s m #[(.ref a1)] below meth c s₁ [] 0 0 := Stand.of_body Bd
  have e0 : s₁.heap = h0 := by rw [← hh, Bd.state]; rfl
  have N0 := Fr.nil n0
  have K0 : Keep h0 h0 [a1] := Keep.refl _ _
  have pre0 : ∀ t, Steps p.tables e below (s₁.setTop (mkF m 0 #[.val (.ref a1)] [])) t → Steps p.tables e below (s₁.setTop (entryFrame m #[(.ref a1)] 1)) t := fun t k => castTop (own_ef_ab m a1) k
  have zs1 : n0 ≤ h0.size := Nat.le_trans Z0 K0.1
  obtain ⟨_, _, ⟨T2, L2, k2, n2⟩, -, X2, ⟨Lc2, hQ2, l2, y2, z2⟩, st2⟩ := X0.specialBack hx (y := (⟨"java/util/AbstractCollection", "<init>", "()V"⟩ : MethodName)) rfl hown (mvT hZ (hw _ (List.mem_of_getElem? (i := 22) rfl))) (mvT hZ (hw _ (List.mem_of_getElem? (i := 23) rfl))) (mvT hZ (hw _ (List.mem_of_getElem? (i := 27) rfl))) (by decide) (backOf (W := 0) (own_rm_ac l Z a0 hw [] a1 h0 n0 zs1 ) hZ (hw _ (List.mem_of_getElem? (i := 27) rfl)) (hw _ (List.mem_of_getElem? (i := 26) rfl)) (by decide) (by decide)) (g := (mkF m 1 #[.val (.ref a1)] [(.ref a1)])) rfl (by rw [hml]; rfl) (Steps.refl _) (a := a1) (argsL := []) (rest := []) (lenOf own_pd0 rfl) rfl (by show 2 * 0 + _ ≤ _; exact Nat.le_of_eq rfl) (hb hby own_d_jdk_39_method_1_1) (fun _ _ => ⟨rfl, e0, (by decide : 0 + 0 ≤ _), (by decide : 0 + 0 ≤ _)⟩)
  dsimp only [Pt.U, Pt.locs, Pt.cells, Pt.slots] at X2 l2 y2 z2 st2 hQ2
  subst l2 y2 z2
  obtain ⟨rfl, N3, eq3⟩ := hQ2
  have nf4 := Fr.app N0 N3
  obtain ⟨T5, h5, X5, e5, W5, st5⟩ := putF X2 hx hZ hown (host := "") (Or.inl (hw _ (List.mem_of_getElem? (i := 29) rfl))) Via.refl eq3 F1 E1 (Or.inl (hw _ (List.mem_of_getElem? (i := 30) rfl))) (hw _ (List.mem_of_getElem? (i := 11) rfl)) (ty := .int) (by decide) rfl rfl (g := (mkF m 6 #[.val (.ref a1)] [(.int (0 : Int32)), (.ref a1)])) rfl rfl (hb hby own_d_jdk_39_method_1_6)
  have f6 := E1.wr W5
  have f8 := F2.other W5 (Or.inr (slot_ne (Or.inl (hw _ (List.mem_of_getElem? (i := 33) rfl))) (Or.inl (hw _ (List.mem_of_getElem? (i := 30) rfl))) (by decide) (t := (.array (.object "java/lang/Object"))) (t' := .int) (by decide) (by decide)))
  have k9 := K0.wr W5 (Or.inl (List.mem_of_getElem? (i := 0) rfl))
  have nf10 := Fr.snoc X5 nf4 g1
  have f11 := F1.same W5
  have pre12 : ∀ t, Steps p.tables e below (T5.setTop (mkF m 9 #[.val (.ref a1)] [])) t → Steps p.tables e below (s₁.setTop (entryFrame m #[(.ref a1)] 1)) t := by
    intro t kt
    refine pre0 t ?_
    show Steps p.tables e below (s₁.setTop (mkF m 0 #[.val (.ref a1)] [])) _
    refine XS.aloadN X0.here hx rfl (hb hby own_d_jdk_39_method_1_0) rfl rfl ?_
    show Steps p.tables e below (s₁.setTop (mkF m 1 #[.val (.ref a1)] [(.ref a1)])) _
    refine st2.trans ?_
    show Steps p.tables e below (T2.setTop (mkF m 4 #[.val (.ref a1)] [])) _
    refine XS.aloadN X2.here hx rfl (hb hby own_d_jdk_39_method_1_4) rfl rfl ?_
    show Steps p.tables e below (T2.setTop (mkF m 5 #[.val (.ref a1)] [(.ref a1)])) _
    refine XS.iconst X2.here hx rfl (hb hby own_d_jdk_39_method_1_5) ?_
    show Steps p.tables e below (T2.setTop (mkF m 6 #[.val (.ref a1)] [(.int (0 : Int32)), (.ref a1)])) _
    refine st5 _ ?_
    exact kt
  obtain ⟨fs, hr, hrun, hended, hW, hsame⟩ := X5.leave (v := none) (fun _ => rfl)
  refine ⟨_, _, pre12 _ ?_, hrun, hended, _, _, rfl, ?_, ⟨_, rfl⟩, hW, hsame.mono (by decide) (by decide)⟩
  · show Steps p.tables e below (T5.setTop (mkF m 9 #[.val (.ref a1)] [])) _
    exact X5.returnOut hx Bd.returns (hb hby own_d_jdk_39_method_1_9) hr
  · show own_Q_ab Z a1 h0 n0 (none) T5.heap _
    rw [e5]
    exact ⟨rfl, nf10, k9, f8⟩
theorem own_d_jdk_38_method_2_0 : decode jdk_38_method_2_code 0 = .ok (.aload_n 0, 1) := by decide +kernel
theorem own_d_jdk_38_method_2_1 : decode jdk_38_method_2_code 1 = .ok (.invokespecial 1, 3) := by decide +kernel
theorem own_d_jdk_38_method_2_4 : decode jdk_38_method_2_code 4 = .ok (.aload_n 0, 1) := by decide +kernel
theorem own_d_jdk_38_method_2_5 : decode jdk_38_method_2_code 5 = .ok (.getstatic 39, 3) := by decide +kernel
theorem own_d_jdk_38_method_2_8 : decode jdk_38_method_2_code 8 = .ok (.putfield 9, 3) := by decide +kernel
theorem own_d_jdk_38_method_2_11 : decode jdk_38_method_2_code 11 = .ok (.return_, 1) := by decide +kernel
theorem own_pn2 : plainName "java/util/ArrayList" = true := by first | (simp [plainName, overriddenIn]; done) | decide +kernel
theorem own_ef_al (m : MethodId) (a1 : Addr) : entryFrame m #[(.ref a1)] 1 = mkF m 0 #[.val (.ref a1)] [] := by first | (simp [entryFrame, mkF, argsToLocals, Value.category]; done) | rfl
def own_Q_al (Z : State) (a1 : Addr) (aS : Addr) (h0 : Heap) (n0 : Nat) (v : Option Value) (h : Heap) (L : List Loc) : Prop := v = none ∧ Fr n0 L ∧ Keep h0 h [a1]
set_option maxRecDepth 65536 in
set_option maxHeartbeats 40000000 in
theorem own_rm_al (l : Launch) (Z : State) (a0 : Array Value) (hw : ∀ d ∈ tables_1, d.before a0 Z = true) (ws : List Jvm.Cond) (a1 : Addr) (aS : Addr) (h0 : Heap) (n0 : Nat) (Z0 : n0 ≤ h0.size) (S0 : Sta Z h0 "java/util/ArrayList" "DEFAULTCAPACITY_EMPTY_ELEMENTDATA" "[Ljava/lang/Object;" (.ref aS)) (E1 : Exa Z h0 a1 "java/util/ArrayList") (F1 : Fld Z h0 a1 "java/util/AbstractList" "modCount" "I" (.int (0 : Int32))) (F2 : Fld Z h0 a1 "java/util/ArrayList" "elementData" "[Ljava/lang/Object;" .null) (g1 : n0 ≤ a1) :
    MetFree l (⟨"java/util/ArrayList", "<init>", "()V"⟩ : MethodName) (head1 (Jvm.Cond.code (⟨"java/util/ArrayList", "<init>", "()V"⟩ : MethodName) jdk_38_method_2_code 1 none :: ws) ({ frames := 3, cells := 0, slots := 0, locals := 36 } : Room)) (fun a U => a = #[(.ref a1)] ∧ Z.Warmed39 U.vm ∧ U.heap = h0) (fun _ _ _ _ _ => True) (fun _ U o U' => ∃ v L, o = .returned v ∧ own_Q_al Z a1 aS h0 n0 v U'.heap L ∧ FrameEnd U o U' L ({ frames := 3, cells := 0, slots := 0, locals := 36 } : Room).cells ({ frames := 3, cells := 0, slots := 0, locals := 36 } : Room).slots) := by
  refine MetFree.of_bodySF (plainFor_of_name own_pn2) hisR ?_
  intro p e s m args below meth c s₁ Bd hml0 hP hK
  obtain ⟨rfl, hZ, hh⟩ := hP
  have hx := Bd.exec
  have hby := Bd.bytes
  have hml : c.maxLocals = 1 := hml0
  have hown : s.vm.findClass "java/util/ArrayList" = some m.cls := findClass_of_methodNamed Bd.named
  have hnm := (name_of_methodNamed Bd.named Bd.method).1
  have X0 : Stand p l e ({ frames := 3, cells := 0, slots := 0, locals := 36 } : Room) s m #[(.ref a1)] below meth c s₁ [] 0 0 := Stand.of_body Bd
  have e0 : s₁.heap = h0 := by rw [← hh, Bd.state]; rfl
  have N0 := Fr.nil n0
  have K0 : Keep h0 h0 [a1] := Keep.refl _ _
  have pre0 : ∀ t, Steps p.tables e below (s₁.setTop (mkF m 0 #[.val (.ref a1)] [])) t → Steps p.tables e below (s₁.setTop (entryFrame m #[(.ref a1)] 1)) t := fun t k => castTop (own_ef_al m a1) k
  have zs1 : n0 ≤ h0.size := Nat.le_trans Z0 K0.1
  obtain ⟨_, _, ⟨T2, L2, k2, n2⟩, -, X2, ⟨Lc2, hQ2, l2, y2, z2⟩, st2⟩ := X0.specialBack hx (y := (⟨"java/util/AbstractList", "<init>", "()V"⟩ : MethodName)) rfl hown (mvT hZ (hw _ (List.mem_of_getElem? (i := 16) rfl))) (mvT hZ (hw _ (List.mem_of_getElem? (i := 17) rfl))) (mvT hZ (hw _ (List.mem_of_getElem? (i := 21) rfl))) (by decide) (backOf (W := 0) (own_rm_ab l Z a0 hw [] a1 h0 n0 zs1 E1 F1 F2 g1) hZ (hw _ (List.mem_of_getElem? (i := 21) rfl)) (hw _ (List.mem_of_getElem? (i := 20) rfl)) (by decide) (by decide)) (g := (mkF m 1 #[.val (.ref a1)] [(.ref a1)])) rfl (by rw [hml]; rfl) (Steps.refl _) (a := a1) (argsL := []) (rest := []) (lenOf own_pd0 rfl) rfl (by show 2 * 0 + _ ≤ _; exact Nat.le_of_eq rfl) (hb hby own_d_jdk_38_method_2_1) (fun _ _ => ⟨rfl, e0, (by decide : 0 + 0 ≤ _), (by decide : 0 + 0 ≤ _)⟩)
  dsimp only [Pt.U, Pt.locs, Pt.cells, Pt.slots] at X2 l2 y2 z2 st2 hQ2
  subst l2 y2 z2
  obtain ⟨rfl, N3, K3, c3_0⟩ := hQ2
  have f4 := own_sta_keep S0 K3 (own_pl_cons E1 all0)
  have f5 := E1.keep K3
  have k6 := K0.trans K3 (allS (Or.inl (List.mem_of_getElem? (i := 0) rfl)) all0)
  have nf7 := Fr.app N0 N3
  obtain ⟨T8, X8, e8, st8⟩ := getS2 X2 hx hZ hown (host := "") (Or.inl (hw _ (List.mem_of_getElem? (i := 31) rfl))) Via.refl rfl f4 (g := (mkF m 5 #[.val (.ref a1)] [(.ref a1)])) rfl (hb hby own_d_jdk_38_method_2_5)
  obtain ⟨T9, h9, X9, e9, W9, st9⟩ := putF X8 hx hZ hown (host := "") (Or.inl (hw _ (List.mem_of_getElem? (i := 32) rfl))) Via.refl e8 c3_0 f5 (Or.inl (hw _ (List.mem_of_getElem? (i := 33) rfl))) (hw _ (List.mem_of_getElem? (i := 11) rfl)) (ty := (.array (.object "java/lang/Object"))) (by decide) rfl rfl (g := (mkF m 8 #[.val (.ref a1)] [(.ref aS), (.ref a1)])) rfl rfl (hb hby own_d_jdk_38_method_2_8)
  have f10 := f4.wr W9
  have f11 := f5.wr W9
  have k13 := k6.wr W9 (Or.inl (List.mem_of_getElem? (i := 0) rfl))
  have nf14 := Fr.snoc X9 nf7 g1
  have f15 := c3_0.same W9
  have pre16 : ∀ t, Steps p.tables e below (T9.setTop (mkF m 11 #[.val (.ref a1)] [])) t → Steps p.tables e below (s₁.setTop (entryFrame m #[(.ref a1)] 1)) t := by
    intro t kt
    refine pre0 t ?_
    show Steps p.tables e below (s₁.setTop (mkF m 0 #[.val (.ref a1)] [])) _
    refine XS.aloadN X0.here hx rfl (hb hby own_d_jdk_38_method_2_0) rfl rfl ?_
    show Steps p.tables e below (s₁.setTop (mkF m 1 #[.val (.ref a1)] [(.ref a1)])) _
    refine st2.trans ?_
    show Steps p.tables e below (T2.setTop (mkF m 4 #[.val (.ref a1)] [])) _
    refine XS.aloadN X2.here hx rfl (hb hby own_d_jdk_38_method_2_4) rfl rfl ?_
    show Steps p.tables e below (T2.setTop (mkF m 5 #[.val (.ref a1)] [(.ref a1)])) _
    refine st8 _ ?_
    show Steps p.tables e below (T8.setTop (mkF m 8 #[.val (.ref a1)] [(.ref aS), (.ref a1)])) _
    refine st9 _ ?_
    exact kt
  obtain ⟨fs, hr, hrun, hended, hW, hsame⟩ := X9.leave (v := none) (fun _ => rfl)
  refine ⟨_, _, pre16 _ ?_, hrun, hended, _, _, rfl, ?_, ⟨_, rfl⟩, hW, hsame.mono (by decide) (by decide)⟩
  · show Steps p.tables e below (T9.setTop (mkF m 11 #[.val (.ref a1)] [])) _
    exact X9.returnOut hx Bd.returns (hb hby own_d_jdk_38_method_2_11) hr
  · show own_Q_al Z a1 aS h0 n0 (none) T9.heap _
    rw [e9]
    exact ⟨rfl, nf14, k13⟩
theorem own_d_prog_13_method_1_0 : decode prog_13_method_1_code 0 = .ok (.aload_n 0, 1) := by decide +kernel
theorem own_d_prog_13_method_1_1 : decode prog_13_method_1_code 1 = .ok (.invokespecial 1, 3) := by decide +kernel
theorem own_d_prog_13_method_1_4 : decode prog_13_method_1_code 4 = .ok (.aload_n 0, 1) := by decide +kernel
theorem own_d_prog_13_method_1_5 : decode prog_13_method_1_code 5 = .ok (.new 7, 3) := by decide +kernel
theorem own_d_prog_13_method_1_8 : decode prog_13_method_1_code 8 = .ok (.dup, 1) := by decide +kernel
theorem own_d_prog_13_method_1_9 : decode prog_13_method_1_code 9 = .ok (.invokespecial 9, 3) := by decide +kernel
theorem own_d_prog_13_method_1_12 : decode prog_13_method_1_code 12 = .ok (.putfield 10, 3) := by decide +kernel
theorem own_d_prog_13_method_1_15 : decode prog_13_method_1_code 15 = .ok (.aload_n 0, 1) := by decide +kernel
theorem own_d_prog_13_method_1_16 : decode prog_13_method_1_code 16 = .ok (.new 7, 3) := by decide +kernel
theorem own_d_prog_13_method_1_19 : decode prog_13_method_1_code 19 = .ok (.dup, 1) := by decide +kernel
theorem own_d_prog_13_method_1_20 : decode prog_13_method_1_code 20 = .ok (.invokespecial 9, 3) := by decide +kernel
theorem own_d_prog_13_method_1_23 : decode prog_13_method_1_code 23 = .ok (.putfield 16, 3) := by decide +kernel
theorem own_d_prog_13_method_1_26 : decode prog_13_method_1_code 26 = .ok (.aload_n 0, 1) := by decide +kernel
theorem own_d_prog_13_method_1_27 : decode prog_13_method_1_code 27 = .ok (.iload_n 1, 1) := by decide +kernel
theorem own_d_prog_13_method_1_28 : decode prog_13_method_1_code 28 = .ok (.putfield 19, 3) := by decide +kernel
theorem own_d_prog_13_method_1_31 : decode prog_13_method_1_code 31 = .ok (.aload_n 0, 1) := by decide +kernel
theorem own_d_prog_13_method_1_32 : decode prog_13_method_1_code 32 = .ok (.iload_n 2, 1) := by decide +kernel
theorem own_d_prog_13_method_1_33 : decode prog_13_method_1_code 33 = .ok (.putfield 23, 3) := by decide +kernel
theorem own_d_prog_13_method_1_36 : decode prog_13_method_1_code 36 = .ok (.aload_n 0, 1) := by decide +kernel
theorem own_d_prog_13_method_1_37 : decode prog_13_method_1_code 37 = .ok (.aload_n 3, 1) := by decide +kernel
theorem own_d_prog_13_method_1_38 : decode prog_13_method_1_code 38 = .ok (.putfield 26, 3) := by decide +kernel
theorem own_d_prog_13_method_1_41 : decode prog_13_method_1_code 41 = .ok (.return_, 1) := by decide +kernel
theorem own_pn3 : plainName "com/example/interleave/interleave/check/Expansion" = true := by first | (simp [plainName, overriddenIn]; done) | decide +kernel
theorem own_ef_exR (m : MethodId) (a1 : Addr) (p2 : Int32) (p3 : Int32) (a4 : Addr) : entryFrame m #[(.ref a1), (.int p2), (.int p3), (.ref a4)] 4 = mkF m 0 #[.val (.ref a1), .val (.int p2), .val (.int p3), .val (.ref a4)] [] := by first | (simp [entryFrame, mkF, argsToLocals, Value.category]; done) | rfl
def own_Q_exR (Z : State) (a1 : Addr) (p2 : Int32) (p3 : Int32) (a4 : Addr) (aS : Addr) (h0 : Heap) (n0 : Nat) (v : Option Value) (h : Heap) (L : List Loc) : Prop := v = none ∧ Fr n0 L ∧ Keep h0 h [a1] ∧ Fld Z h a1 "com/example/interleave/interleave/check/Expansion" "sourceId" "I" (.int p2) ∧ Fld Z h a1 "com/example/interleave/interleave/check/Expansion" "sourceParent" "I" (.int p3) ∧ Fld Z h a1 "com/example/interleave/interleave/check/Expansion" "sourceBytes" "[B" (.ref a4)
set_option maxRecDepth 65536 in
set_option maxHeartbeats 40000000 in
theorem own_rm_exR (l : Launch) (Z : State) (a0 : Array Value) (hw : ∀ d ∈ tables_1, d.before a0 Z = true) (ws : List Jvm.Cond) (a1 : Addr) (p2 : Int32) (p3 : Int32) (a4 : Addr) (aS : Addr) (h0 : Heap) (n0 : Nat) (Z0 : n0 ≤ h0.size) (S0 : Sta Z h0 "java/util/ArrayList" "DEFAULTCAPACITY_EMPTY_ELEMENTDATA" "[Ljava/lang/Object;" (.ref aS)) (E1 : Exa Z h0 a1 "com/example/interleave/interleave/check/Expansion") (F_found : Fld Z h0 a1 "com/example/interleave/interleave/check/Expansion" "found" "Ljava/util/List;" .null) (F_printed : Fld Z h0 a1 "com/example/interleave/interleave/check/Expansion" "printed" "Ljava/util/List;" .null) (F_sourceId : Fld Z h0 a1 "com/example/interleave/interleave/check/Expansion" "sourceId" "I" (.int (0 : Int32))) (F_sourceParent : Fld Z h0 a1 "com/example/interleave/interleave/check/Expansion" "sourceParent" "I" (.int (0 : Int32))) (F_sourceBytes : Fld Z h0 a1 "com/example/interleave/interleave/check/Expansion" "sourceBytes" "[B" .null) (g1 : n0 ≤ a1) :
    MetFree l (⟨"com/example/interleave/interleave/check/Expansion", "<init>", "(II[B)V"⟩ : MethodName) (head1 (Jvm.Cond.code (⟨"com/example/interleave/interleave/check/Expansion", "<init>", "(II[B)V"⟩ : MethodName) prog_13_method_1_code 4 none :: ws) ({ frames := 4, cells := 2, slots := 6, locals := 50 } : Room)) (fun a U => a = #[(.ref a1), (.int p2), (.int p3), (.ref a4)] ∧ Z.Warmed39 U.vm ∧ U.heap = h0) (fun _ _ _ _ _ => True) (fun _ U o U' => ∃ v L, o = .returned v ∧ own_Q_exR Z a1 p2 p3 a4 aS h0 n0 v U'.heap L ∧ FrameEnd U o U' L ({ frames := 4, cells := 2, slots := 6, locals := 50 } : Room).cells ({ frames := 4, cells := 2, slots := 6, locals := 50 } : Room).slots) := by
  refine MetFree.of_bodySF (plainFor_of_name own_pn3) hisR ?_
  intro p e s m args below meth c s₁ Bd hml0 hP hK
  obtain ⟨rfl, hZ, hh⟩ := hP
  have hx := Bd.exec
  have hby := Bd.bytes
  have hml : c.maxLocals = 4 := hml0
  have hown : s.vm.findClass "com/example/interleave/interleave/check/Expansion" = some m.cls := findClass_of_methodNamed Bd.named
  have hnm := (name_of_methodNamed Bd.named Bd.method).1
  have X0 : Stand p l e ({ frames := 4, cells := 2, slots := 6, locals := 50 } : Room) s m #[(.ref a1), (.int p2), (.int p3), (.ref a4)] below meth c s₁ [] 0 0 := Stand.of_body Bd
  have e0 : s₁.heap = h0 := by rw [← hh, Bd.state]; rfl
  have N0 := Fr.nil n0
  have K0 : Keep h0 h0 [a1] := Keep.refl _ _
  have pre0 : ∀ t, Steps p.tables e below (s₁.setTop (mkF m 0 #[.val (.ref a1), .val (.int p2), .val (.int p3), .val (.ref a4)] [])) t → Steps p.tables e below (s₁.setTop (entryFrame m #[(.ref a1), (.int p2), (.int p3), (.ref a4)] 4)) t := fun t k => castTop (own_ef_exR m a1 p2 p3 a4) k
  obtain ⟨T1, X1, e1, st1⟩ := initO X0 hx hZ hown (hw _ (List.mem_of_getElem? (i := 7) rfl)) (hw _ (List.mem_of_getElem? (i := 8) rfl)) (hw _ (List.mem_of_getElem? (i := 9) rfl)) e0 (g := (mkF m 1 #[.val (.ref a1), .val (.int p2), .val (.int p3), .val (.ref a4)] [(.ref a1)])) rfl (by rw [hml]; rfl) rfl (hb hby own_d_prog_13_method_1_1) (by decide) (W := 0) (by show 2 * 0 + _ ≤ _; exact Nat.le_of_eq rfl) (by decide)
  obtain ⟨T2, h2, X2, e2, E2, A2, D2, -, st2⟩ := newO X1 hx hZ hown (hw _ (List.mem_of_getElem? (i := 10) rfl)) (hw _ (List.mem_of_getElem? (i := 11) rfl)) (hw _ (List.mem_of_getElem? (i := 12) rfl)) e1 (g := (mkF m 5 #[.val (.ref a1), .val (.int p2), .val (.int p3), .val (.ref a4)] [(.ref a1)])) rfl (hb hby own_d_prog_13_method_1_5) (by decide) (by decide)
  obtain ⟨b2, g2⟩ : ∃ z, z = h0.size := ⟨_, rfl⟩
  rw [← g2] at A2 D2 st2
  have sz_b2 : h0.size ≤ b2 := Nat.le_trans K0.1 (Nat.le_of_eq g2.symm)
  have gn_b2 : n0 ≤ b2 := Nat.le_trans Z0 sz_b2
  have ne_a1_b2 : a1 ≠ b2 := Nat.ne_of_lt (Nat.lt_of_lt_of_le F_sourceBytes.lt (Nat.le_of_eq g2.symm))
  have f3 := S0.ext E2
  have f4 := E1.ext E2
  have f5 := F_found.ext E2
  have f6 := F_printed.ext E2
  have f7 := F_sourceId.ext E2
  have f8 := F_sourceParent.ext E2
  have f9 := F_sourceBytes.ext E2
  have k10 := K0.ext E2
  have f11 : Fld Z h2 b2 "java/util/AbstractList" "modCount" "I" (.int (0 : Int32)) := D2 (Or.inl (hw _ (List.mem_of_getElem? (i := 30) rfl))) (ty := .int) (by decide)
  have f12 : Fld Z h2 b2 "java/util/ArrayList" "elementData" "[Ljava/lang/Object;" .null := D2 (Or.inl (hw _ (List.mem_of_getElem? (i := 33) rfl))) (ty := (.array (.object "java/lang/Object"))) (by decide)
  have zs13 : n0 ≤ h2.size := Nat.le_trans Z0 k10.1
  obtain ⟨_, _, ⟨T14, L14, k14, n14⟩, -, X14, ⟨Lc14, hQ14, l14, y14, z14⟩, st14⟩ := X2.specialBack hx (y := (⟨"java/util/ArrayList", "<init>", "()V"⟩ : MethodName)) rfl hown (mvT hZ (hw _ (List.mem_of_getElem? (i := 13) rfl))) (mvT hZ (hw _ (List.mem_of_getElem? (i := 14) rfl))) (mvT hZ (hw _ (List.mem_of_getElem? (i := 15) rfl))) (by decide) (backOf (W := 2) (own_rm_al l Z a0 hw [] b2 aS h2 n0 zs13 f3 A2 f11 f12 gn_b2) hZ (hw _ (List.mem_of_getElem? (i := 15) rfl)) (hw _ (List.mem_of_getElem? (i := 12) rfl)) (by decide) (by decide)) (g := (mkF m 9 #[.val (.ref a1), .val (.int p2), .val (.int p3), .val (.ref a4)] [(.ref b2), (.ref b2), (.ref a1)])) rfl (by rw [hml]; rfl) (Steps.refl _) (a := b2) (argsL := []) (rest := [(.ref b2), (.ref a1)]) (lenOf own_pd0 rfl) rfl (by show 2 * 0 + _ ≤ _; exact Nat.le_of_eq rfl) (hb hby own_d_prog_13_method_1_9) (fun _ _ => ⟨rfl, e2, (by decide : 1 + 0 ≤ _), (by decide : 3 + 0 ≤ _)⟩)
  dsimp only [Pt.U, Pt.locs, Pt.cells, Pt.slots] at X14 l14 y14 z14 st14 hQ14
  subst l14 y14 z14
  obtain ⟨rfl, N15, K15⟩ := hQ14
  have f16 := own_sta_keep f3 K15 (own_pl_cons A2 all0)
  have f17 := f4.keep K15
  have f18 := f5.keep K15 (ninS ne_a1_b2 nin0)
  have f19 := f6.keep K15 (ninS ne_a1_b2 nin0)
  have f20 := f7.keep K15 (ninS ne_a1_b2 nin0)
  have f21 := f8.keep K15 (ninS ne_a1_b2 nin0)
  have f22 := f9.keep K15 (ninS ne_a1_b2 nin0)
  have f23 := A2.keep K15
  have k24 := k10.trans K15 (allS (Or.inr sz_b2) all0)
  have nf25 := Fr.app N0 N15
  obtain ⟨T26, h26, X26, e26, W26, st26⟩ := putF X14 hx hZ hown (host := "") (Or.inl (hw _ (List.mem_of_getElem? (i := 34) rfl))) Via.refl rfl f18 f17 (Or.inr ⟨(hw _ (List.mem_of_getElem? (i := 35) rfl)), rfl, hnm⟩) (hw _ (List.mem_of_getElem? (i := 2) rfl)) (ty := (.object "java/util/List")) (by decide) rfl rfl (g := (mkF m 12 #[.val (.ref a1), .val (.int p2), .val (.int p3), .val (.ref a4)] [(.ref b2), (.ref a1)])) rfl rfl (hb hby own_d_prog_13_method_1_12)
  have f27 := f16.wr W26
  have f28 := f17.wr W26
  have f30 := f19.other W26 (Or.inr (slot_ne (Or.inr (hw _ (List.mem_of_getElem? (i := 37) rfl))) (Or.inr (hw _ (List.mem_of_getElem? (i := 35) rfl))) (by decide) (t := (.object "java/util/List")) (t' := (.object "java/util/List")) (by decide) (by decide)))
  have f31 := f20.other W26 (Or.inr (slot_ne (Or.inr (hw _ (List.mem_of_getElem? (i := 39) rfl))) (Or.inr (hw _ (List.mem_of_getElem? (i := 35) rfl))) (by decide) (t := .int) (t' := (.object "java/util/List")) (by decide) (by decide)))
  have f32 := f21.other W26 (Or.inr (slot_ne (Or.inr (hw _ (List.mem_of_getElem? (i := 41) rfl))) (Or.inr (hw _ (List.mem_of_getElem? (i := 35) rfl))) (by decide) (t := .int) (t' := (.object "java/util/List")) (by decide) (by decide)))
  have f33 := f22.other W26 (Or.inr (slot_ne (Or.inr (hw _ (List.mem_of_getElem? (i := 43) rfl))) (Or.inr (hw _ (List.mem_of_getElem? (i := 35) rfl))) (by decide) (t := (.array .byte)) (t' := (.object "java/util/List")) (by decide) (by decide)))
  have f34 := f23.wr W26
  have k35 := k24.wr W26 (Or.inl (List.mem_of_getElem? (i := 0) rfl))
  have nf36 := Fr.snoc X26 nf25 g1
  have f37 := f18.same W26
  obtain ⟨T38, h38, X38, e38, E38, A38, D38, -, st38⟩ := newO X26 hx hZ hown (hw _ (List.mem_of_getElem? (i := 10) rfl)) (hw _ (List.mem_of_getElem? (i := 11) rfl)) (hw _ (List.mem_of_getElem? (i := 12) rfl)) e26 (g := (mkF m 16 #[.val (.ref a1), .val (.int p2), .val (.int p3), .val (.ref a4)] [(.ref a1)])) rfl (hb hby own_d_prog_13_method_1_16) (by decide) (by decide)
  obtain ⟨b38, g38⟩ : ∃ z, z = h26.size := ⟨_, rfl⟩
  rw [← g38] at A38 D38 st38
  have sz_b38 : h0.size ≤ b38 := Nat.le_trans k35.1 (Nat.le_of_eq g38.symm)
  have gn_b38 : n0 ≤ b38 := Nat.le_trans Z0 sz_b38
  have ne_a1_b38 : a1 ≠ b38 := Nat.ne_of_lt (Nat.lt_of_lt_of_le f33.lt (Nat.le_of_eq g38.symm))
  have ne_b2_b38 : b2 ≠ b38 := Nat.ne_of_lt (Nat.lt_of_lt_of_le f34.lt (Nat.le_of_eq g38.symm))
  have f39 := f27.ext E38
  have f40 := f28.ext E38
  have f41 := f37.ext E38
  have f42 := f30.ext E38
  have f43 := f31.ext E38
  have f44 := f32.ext E38
  have f45 := f33.ext E38
  have f46 := f34.ext E38
  have k47 := k35.ext E38
  have f48 : Fld Z h38 b38 "java/util/AbstractList" "modCount" "I" (.int (0 : Int32)) := D38 (Or.inl (hw _ (List.mem_of_getElem? (i := 30) rfl))) (ty := .int) (by decide)
  have f49 : Fld Z h38 b38 "java/util/ArrayList" "elementData" "[Ljava/lang/Object;" .null := D38 (Or.inl (hw _ (List.mem_of_getElem? (i := 33) rfl))) (ty := (.array (.object "java/lang/Object"))) (by decide)
  have zs50 : n0 ≤ h38.size := Nat.le_trans Z0 k47.1
  obtain ⟨_, _, ⟨T51, L51, k51, n51⟩, -, X51, ⟨Lc51, hQ51, l51, y51, z51⟩, st51⟩ := X38.specialBack hx (y := (⟨"java/util/ArrayList", "<init>", "()V"⟩ : MethodName)) rfl hown (mvT hZ (hw _ (List.mem_of_getElem? (i := 13) rfl))) (mvT hZ (hw _ (List.mem_of_getElem? (i := 14) rfl))) (mvT hZ (hw _ (List.mem_of_getElem? (i := 15) rfl))) (by decide) (backOf (W := 2) (own_rm_al l Z a0 hw [] b38 aS h38 n0 zs50 f39 A38 f48 f49 gn_b38) hZ (hw _ (List.mem_of_getElem? (i := 15) rfl)) (hw _ (List.mem_of_getElem? (i := 12) rfl)) (by decide) (by decide)) (g := (mkF m 20 #[.val (.ref a1), .val (.int p2), .val (.int p3), .val (.ref a4)] [(.ref b38), (.ref b38), (.ref a1)])) rfl (by rw [hml]; rfl) (Steps.refl _) (a := b38) (argsL := []) (rest := [(.ref b38), (.ref a1)]) (lenOf own_pd0 rfl) rfl (by show 2 * 0 + _ ≤ _; exact Nat.le_of_eq rfl) (hb hby own_d_prog_13_method_1_20) (fun _ _ => ⟨rfl, e38, (by decide : 2 + 0 ≤ _), (by decide : 6 + 0 ≤ _)⟩)
  dsimp only [Pt.U, Pt.locs, Pt.cells, Pt.slots] at X51 l51 y51 z51 st51 hQ51
  subst l51 y51 z51
  obtain ⟨rfl, N52, K52⟩ := hQ51
  have f53 := own_sta_keep f39 K52 (own_pl_cons A38 all0)
  have f54 := f40.keep K52
  have f55 := f41.keep K52 (ninS ne_a1_b38 nin0)
  have f56 := f42.keep K52 (ninS ne_a1_b38 nin0)
  have f57 := f43.keep K52 (ninS ne_a1_b38 nin0)
  have f58 := f44.keep K52 (ninS ne_a1_b38 nin0)
  have f59 := f45.keep K52 (ninS ne_a1_b38 nin0)
  have f60 := f46.keep K52
  have f61 := A38.keep K52
  have k62 := k47.trans K52 (allS (Or.inr sz_b38) all0)
  have nf63 := Fr.app nf36 N52
  obtain ⟨T64, h64, X64, e64, W64, st64⟩ := putF X51 hx hZ hown (host := "") (Or.inl (hw _ (List.mem_of_getElem? (i := 36) rfl))) Via.refl rfl f56 f54 (Or.inr ⟨(hw _ (List.mem_of_getElem? (i := 37) rfl)), rfl, hnm⟩) (hw _ (List.mem_of_getElem? (i := 2) rfl)) (ty := (.object "java/util/List")) (by decide) rfl rfl (g := (mkF m 23 #[.val (.ref a1), .val (.int p2), .val (.int p3), .val (.ref a4)] [(.ref b38), (.ref a1)])) rfl rfl (hb hby own_d_prog_13_method_1_23)
  have f65 := f53.wr W64
  have f66 := f54.wr W64
  have f67 := f55.other W64 (Or.inr (slot_ne (Or.inr (hw _ (List.mem_of_getElem? (i := 35) rfl))) (Or.inr (hw _ (List.mem_of_getElem? (i := 37) rfl))) (by decide) (t := (.object "java/util/List")) (t' := (.object "java/util/List")) (by decide) (by decide)))
  have f69 := f57.other W64 (Or.inr (slot_ne (Or.inr (hw _ (List.mem_of_getElem? (i := 39) rfl))) (Or.inr (hw _ (List.mem_of_getElem? (i := 37) rfl))) (by decide) (t := .int) (t' := (.object "java/util/List")) (by decide) (by decide)))
  have f70 := f58.other W64 (Or.inr (slot_ne (Or.inr (hw _ (List.mem_of_getElem? (i := 41) rfl))) (Or.inr (hw _ (List.mem_of_getElem? (i := 37) rfl))) (by decide) (t := .int) (t' := (.object "java/util/List")) (by decide) (by decide)))
  have f71 := f59.other W64 (Or.inr (slot_ne (Or.inr (hw _ (List.mem_of_getElem? (i := 43) rfl))) (Or.inr (hw _ (List.mem_of_getElem? (i := 37) rfl))) (by decide) (t := (.array .byte)) (t' := (.object "java/util/List")) (by decide) (by decide)))
  have f72 := f60.wr W64
  have f73 := f61.wr W64
  have k74 := k62.wr W64 (Or.inl (List.mem_of_getElem? (i := 0) rfl))
  have nf75 := Fr.snoc X64 nf63 g1
  have f76 := f56.same W64
  obtain ⟨T77, h77, X77, e77, W77, st77⟩ := putF X64 hx hZ hown (host := "") (Or.inl (hw _ (List.mem_of_getElem? (i := 38) rfl))) Via.refl e64 f69 f66 (Or.inr ⟨(hw _ (List.mem_of_getElem? (i := 39) rfl)), rfl, hnm⟩) (hw _ (List.mem_of_getElem? (i := 2) rfl)) (ty := .int) (by decide) rfl rfl (g := (mkF m 28 #[.val (.ref a1), .val (.int p2), .val (.int p3), .val (.ref a4)] [(.int p2), (.ref a1)])) rfl rfl (hb hby own_d_prog_13_method_1_28)
  have f78 := f65.wr W77
  have f79 := f66.wr W77
  have f80 := f67.other W77 (Or.inr (slot_ne (Or.inr (hw _ (List.mem_of_getElem? (i := 35) rfl))) (Or.inr (hw _ (List.mem_of_getElem? (i := 39) rfl))) (by decide) (t := (.object "java/util/List")) (t' := .int) (by decide) (by decide)))
  have f81 := f76.other W77 (Or.inr (slot_ne (Or.inr (hw _ (List.mem_of_getElem? (i := 37) rfl))) (Or.inr (hw _ (List.mem_of_getElem? (i := 39) rfl))) (by decide) (t := (.object "java/util/List")) (t' := .int) (by decide) (by decide)))
  have f83 := f70.other W77 (Or.inr (slot_ne (Or.inr (hw _ (List.mem_of_getElem? (i := 41) rfl))) (Or.inr (hw _ (List.mem_of_getElem? (i := 39) rfl))) (by decide) (t := .int) (t' := .int) (by decide) (by decide)))
  have f84 := f71.other W77 (Or.inr (slot_ne (Or.inr (hw _ (List.mem_of_getElem? (i := 43) rfl))) (Or.inr (hw _ (List.mem_of_getElem? (i := 39) rfl))) (by decide) (t := (.array .byte)) (t' := .int) (by decide) (by decide)))
  have f85 := f72.wr W77
  have f86 := f73.wr W77
  have k87 := k74.wr W77 (Or.inl (List.mem_of_getElem? (i := 0) rfl))
  have nf88 := Fr.snoc X77 nf75 g1
  have f89 := f69.same W77
  obtain ⟨T90, h90, X90, e90, W90, st90⟩ := putF X77 hx hZ hown (host := "") (Or.inl (hw _ (List.mem_of_getElem? (i := 40) rfl))) Via.refl e77 f83 f79 (Or.inr ⟨(hw _ (List.mem_of_getElem? (i := 41) rfl)), rfl, hnm⟩) (hw _ (List.mem_of_getElem? (i := 2) rfl)) (ty := .int) (by decide) rfl rfl (g := (mkF m 33 #[.val (.ref a1), .val (.int p2), .val (.int p3), .val (.ref a4)] [(.int p3), (.ref a1)])) rfl rfl (hb hby own_d_prog_13_method_1_33)
  have f91 := f78.wr W90
  have f92 := f79.wr W90
  have f93 := f80.other W90 (Or.inr (slot_ne (Or.inr (hw _ (List.mem_of_getElem? (i := 35) rfl))) (Or.inr (hw _ (List.mem_of_getElem? (i := 41) rfl))) (by decide) (t := (.object "java/util/List")) (t' := .int) (by decide) (by decide)))
  have f94 := f81.other W90 (Or.inr (slot_ne (Or.inr (hw _ (List.mem_of_getElem? (i := 37) rfl))) (Or.inr (hw _ (List.mem_of_getElem? (i := 41) rfl))) (by decide) (t := (.object "java/util/List")) (t' := .int) (by decide) (by decide)))
  have f95 := f89.other W90 (Or.inr (slot_ne (Or.inr (hw _ (List.mem_of_getElem? (i := 39) rfl))) (Or.inr (hw _ (List.mem_of_getElem? (i := 41) rfl))) (by decide) (t := .int) (t' := .int) (by decide) (by decide)))
  have f97 := f84.other W90 (Or.inr (slot_ne (Or.inr (hw _ (List.mem_of_getElem? (i := 43) rfl))) (Or.inr (hw _ (List.mem_of_getElem? (i := 41) rfl))) (by decide) (t := (.array .byte)) (t' := .int) (by decide) (by decide)))
  have f98 := f85.wr W90
  have f99 := f86.wr W90
  have k100 := k87.wr W90 (Or.inl (List.mem_of_getElem? (i := 0) rfl))
  have nf101 := Fr.snoc X90 nf88 g1
  have f102 := f83.same W90
  obtain ⟨T103, h103, X103, e103, W103, st103⟩ := putF X90 hx hZ hown (host := "") (Or.inl (hw _ (List.mem_of_getElem? (i := 42) rfl))) Via.refl e90 f97 f92 (Or.inr ⟨(hw _ (List.mem_of_getElem? (i := 43) rfl)), rfl, hnm⟩) (hw _ (List.mem_of_getElem? (i := 2) rfl)) (ty := (.array .byte)) (by decide) rfl rfl (g := (mkF m 38 #[.val (.ref a1), .val (.int p2), .val (.int p3), .val (.ref a4)] [(.ref a4), (.ref a1)])) rfl rfl (hb hby own_d_prog_13_method_1_38)
  have f104 := f91.wr W103
  have f105 := f92.wr W103
  have f106 := f93.other W103 (Or.inr (slot_ne (Or.inr (hw _ (List.mem_of_getElem? (i := 35) rfl))) (Or.inr (hw _ (List.mem_of_getElem? (i := 43) rfl))) (by decide) (t := (.object "java/util/List")) (t' := (.array .byte)) (by decide) (by decide)))
  have f107 := f94.other W103 (Or.inr (slot_ne (Or.inr (hw _ (List.mem_of_getElem? (i := 37) rfl))) (Or.inr (hw _ (List.mem_of_getElem? (i := 43) rfl))) (by decide) (t := (.object "java/util/List")) (t' := (.array .byte)) (by decide) (by decide)))
  have f108 := f95.other W103 (Or.inr (slot_ne (Or.inr (hw _ (List.mem_of_getElem? (i := 39) rfl))) (Or.inr (hw _ (List.mem_of_getElem? (i := 43) rfl))) (by decide) (t := .int) (t' := (.array .byte)) (by decide) (by decide)))
  have f109 := f102.other W103 (Or.inr (slot_ne (Or.inr (hw _ (List.mem_of_getElem? (i := 41) rfl))) (Or.inr (hw _ (List.mem_of_getElem? (i := 43) rfl))) (by decide) (t := .int) (t' := (.array .byte)) (by decide) (by decide)))
  have f111 := f98.wr W103
  have f112 := f99.wr W103
  have k113 := k100.wr W103 (Or.inl (List.mem_of_getElem? (i := 0) rfl))
  have nf114 := Fr.snoc X103 nf101 g1
  have f115 := f97.same W103
  have pre116 : ∀ t, Steps p.tables e below (T103.setTop (mkF m 41 #[.val (.ref a1), .val (.int p2), .val (.int p3), .val (.ref a4)] [])) t → Steps p.tables e below (s₁.setTop (entryFrame m #[(.ref a1), (.int p2), (.int p3), (.ref a4)] 4)) t := by
    intro t kt
    refine pre0 t ?_
    show Steps p.tables e below (s₁.setTop (mkF m 0 #[.val (.ref a1), .val (.int p2), .val (.int p3), .val (.ref a4)] [])) _
    refine XS.aloadN X0.here hx rfl (hb hby own_d_prog_13_method_1_0) rfl rfl ?_
    show Steps p.tables e below (s₁.setTop (mkF m 1 #[.val (.ref a1), .val (.int p2), .val (.int p3), .val (.ref a4)] [(.ref a1)])) _
    refine st1 _ ?_
    show Steps p.tables e below (T1.setTop (mkF m 4 #[.val (.ref a1), .val (.int p2), .val (.int p3), .val (.ref a4)] [])) _
    refine XS.aloadN X1.here hx rfl (hb hby own_d_prog_13_method_1_4) rfl rfl ?_
    show Steps p.tables e below (T1.setTop (mkF m 5 #[.val (.ref a1), .val (.int p2), .val (.int p3), .val (.ref a4)] [(.ref a1)])) _
    refine st2 _ ?_
    show Steps p.tables e below (T2.setTop (mkF m 8 #[.val (.ref a1), .val (.int p2), .val (.int p3), .val (.ref a4)] [(.ref b2), (.ref a1)])) _
    refine XS.dup X2.here hx rfl (hb hby own_d_prog_13_method_1_8) rfl rfl ?_
    show Steps p.tables e below (T2.setTop (mkF m 9 #[.val (.ref a1), .val (.int p2), .val (.int p3), .val (.ref a4)] [(.ref b2), (.ref b2), (.ref a1)])) _
    refine st14.trans ?_
    show Steps p.tables e below (T14.setTop (mkF m 12 #[.val (.ref a1), .val (.int p2), .val (.int p3), .val (.ref a4)] [(.ref b2), (.ref a1)])) _
    refine st26 _ ?_
    show Steps p.tables e below (T26.setTop (mkF m 15 #[.val (.ref a1), .val (.int p2), .val (.int p3), .val (.ref a4)] [])) _
    refine XS.aloadN X26.here hx rfl (hb hby own_d_prog_13_method_1_15) rfl rfl ?_
    show Steps p.tables e below (T26.setTop (mkF m 16 #[.val (.ref a1), .val (.int p2), .val (.int p3), .val (.ref a4)] [(.ref a1)])) _
    refine st38 _ ?_
    show Steps p.tables e below (T38.setTop (mkF m 19 #[.val (.ref a1), .val (.int p2), .val (.int p3), .val (.ref a4)] [(.ref b38), (.ref a1)])) _
    refine XS.dup X38.here hx rfl (hb hby own_d_prog_13_method_1_19) rfl rfl ?_
    show Steps p.tables e below (T38.setTop (mkF m 20 #[.val (.ref a1), .val (.int p2), .val (.int p3), .val (.ref a4)] [(.ref b38), (.ref b38), (.ref a1)])) _
    refine st51.trans ?_
    show Steps p.tables e below (T51.setTop (mkF m 23 #[.val (.ref a1), .val (.int p2), .val (.int p3), .val (.ref a4)] [(.ref b38), (.ref a1)])) _
    refine st64 _ ?_
    show Steps p.tables e below (T64.setTop (mkF m 26 #[.val (.ref a1), .val (.int p2), .val (.int p3), .val (.ref a4)] [])) _
    refine XS.aloadN X64.here hx rfl (hb hby own_d_prog_13_method_1_26) rfl rfl ?_
    show Steps p.tables e below (T64.setTop (mkF m 27 #[.val (.ref a1), .val (.int p2), .val (.int p3), .val (.ref a4)] [(.ref a1)])) _
    refine XS.iloadN X64.here hx rfl (hb hby own_d_prog_13_method_1_27) rfl ?_
    show Steps p.tables e below (T64.setTop (mkF m 28 #[.val (.ref a1), .val (.int p2), .val (.int p3), .val (.ref a4)] [(.int p2), (.ref a1)])) _
    refine st77 _ ?_
    show Steps p.tables e below (T77.setTop (mkF m 31 #[.val (.ref a1), .val (.int p2), .val (.int p3), .val (.ref a4)] [])) _
    refine XS.aloadN X77.here hx rfl (hb hby own_d_prog_13_method_1_31) rfl rfl ?_
    show Steps p.tables e below (T77.setTop (mkF m 32 #[.val (.ref a1), .val (.int p2), .val (.int p3), .val (.ref a4)] [(.ref a1)])) _
    refine XS.iloadN X77.here hx rfl (hb hby own_d_prog_13_method_1_32) rfl ?_
    show Steps p.tables e below (T77.setTop (mkF m 33 #[.val (.ref a1), .val (.int p2), .val (.int p3), .val (.ref a4)] [(.int p3), (.ref a1)])) _
    refine st90 _ ?_
    show Steps p.tables e below (T90.setTop (mkF m 36 #[.val (.ref a1), .val (.int p2), .val (.int p3), .val (.ref a4)] [])) _
    refine XS.aloadN X90.here hx rfl (hb hby own_d_prog_13_method_1_36) rfl rfl ?_
    show Steps p.tables e below (T90.setTop (mkF m 37 #[.val (.ref a1), .val (.int p2), .val (.int p3), .val (.ref a4)] [(.ref a1)])) _
    refine XS.aloadN X90.here hx rfl (hb hby own_d_prog_13_method_1_37) rfl rfl ?_
    show Steps p.tables e below (T90.setTop (mkF m 38 #[.val (.ref a1), .val (.int p2), .val (.int p3), .val (.ref a4)] [(.ref a4), (.ref a1)])) _
    refine st103 _ ?_
    exact kt
  obtain ⟨fs, hr, hrun, hended, hW, hsame⟩ := X103.leave (v := none) (fun _ => rfl)
  refine ⟨_, _, pre116 _ ?_, hrun, hended, _, _, rfl, ?_, ⟨_, rfl⟩, hW, hsame.mono (by decide) (by decide)⟩
  · show Steps p.tables e below (T103.setTop (mkF m 41 #[.val (.ref a1), .val (.int p2), .val (.int p3), .val (.ref a4)] [])) _
    exact X103.returnOut hx Bd.returns (hb hby own_d_prog_13_method_1_41) hr
  · show own_Q_exR Z a1 p2 p3 a4 aS h0 n0 (none) T103.heap _
    rw [e103]
    exact ⟨rfl, nf114, k113, f108, f109, f115⟩
theorem own_ef_exN (m : MethodId) (a1 : Addr) (p2 : Int32) (p3 : Int32) : entryFrame m #[(.ref a1), (.int p2), (.int p3), .null] 4 = mkF m 0 #[.val (.ref a1), .val (.int p2), .val (.int p3), .val .null] [] := by first | (simp [entryFrame, mkF, argsToLocals, Value.category]; done) | rfl
def own_Q_exN (Z : State) (a1 : Addr) (p2 : Int32) (p3 : Int32) (aS : Addr) (h0 : Heap) (n0 : Nat) (v : Option Value) (h : Heap) (L : List Loc) : Prop := v = none ∧ Fr n0 L ∧ Keep h0 h [a1] ∧ Fld Z h a1 "com/example/interleave/interleave/check/Expansion" "sourceId" "I" (.int p2) ∧ Fld Z h a1 "com/example/interleave/interleave/check/Expansion" "sourceParent" "I" (.int p3) ∧ Fld Z h a1 "com/example/interleave/interleave/check/Expansion" "sourceBytes" "[B" .null
set_option maxRecDepth 65536 in
set_option maxHeartbeats 40000000 in
theorem own_rm_exN (l : Launch) (Z : State) (a0 : Array Value) (hw : ∀ d ∈ tables_1, d.before a0 Z = true) (ws : List Jvm.Cond) (a1 : Addr) (p2 : Int32) (p3 : Int32) (aS : Addr) (h0 : Heap) (n0 : Nat) (Z0 : n0 ≤ h0.size) (S0 : Sta Z h0 "java/util/ArrayList" "DEFAULTCAPACITY_EMPTY_ELEMENTDATA" "[Ljava/lang/Object;" (.ref aS)) (E1 : Exa Z h0 a1 "com/example/interleave/interleave/check/Expansion") (F_found : Fld Z h0 a1 "com/example/interleave/interleave/check/Expansion" "found" "Ljava/util/List;" .null) (F_printed : Fld Z h0 a1 "com/example/interleave/interleave/check/Expansion" "printed" "Ljava/util/List;" .null) (F_sourceId : Fld Z h0 a1 "com/example/interleave/interleave/check/Expansion" "sourceId" "I" (.int (0 : Int32))) (F_sourceParent : Fld Z h0 a1 "com/example/interleave/interleave/check/Expansion" "sourceParent" "I" (.int (0 : Int32))) (F_sourceBytes : Fld Z h0 a1 "com/example/interleave/interleave/check/Expansion" "sourceBytes" "[B" .null) (g1 : n0 ≤ a1) :
    MetFree l (⟨"com/example/interleave/interleave/check/Expansion", "<init>", "(II[B)V"⟩ : MethodName) (head1 (Jvm.Cond.code (⟨"com/example/interleave/interleave/check/Expansion", "<init>", "(II[B)V"⟩ : MethodName) prog_13_method_1_code 4 none :: ws) ({ frames := 4, cells := 2, slots := 6, locals := 50 } : Room)) (fun a U => a = #[(.ref a1), (.int p2), (.int p3), .null] ∧ Z.Warmed39 U.vm ∧ U.heap = h0) (fun _ _ _ _ _ => True) (fun _ U o U' => ∃ v L, o = .returned v ∧ own_Q_exN Z a1 p2 p3 aS h0 n0 v U'.heap L ∧ FrameEnd U o U' L ({ frames := 4, cells := 2, slots := 6, locals := 50 } : Room).cells ({ frames := 4, cells := 2, slots := 6, locals := 50 } : Room).slots) := by
  refine MetFree.of_bodySF (plainFor_of_name own_pn3) hisR ?_
  intro p e s m args below meth c s₁ Bd hml0 hP hK
  obtain ⟨rfl, hZ, hh⟩ := hP
  have hx := Bd.exec
  have hby := Bd.bytes
  have hml : c.maxLocals = 4 := hml0
  have hown : s.vm.findClass "com/example/interleave/interleave/check/Expansion" = some m.cls := findClass_of_methodNamed Bd.named
  have hnm := (name_of_methodNamed Bd.named Bd.method).1
  have X0 : Stand p l e ({ frames := 4, cells := 2, slots := 6, locals := 50 } : Room) s m #[(.ref a1), (.int p2), (.int p3), .null] below meth c s₁ [] 0 0 := Stand.of_body Bd
  have e0 : s₁.heap = h0 := by rw [← hh, Bd.state]; rfl
  have N0 := Fr.nil n0
  have K0 : Keep h0 h0 [a1] := Keep.refl _ _
  have pre0 : ∀ t, Steps p.tables e below (s₁.setTop (mkF m 0 #[.val (.ref a1), .val (.int p2), .val (.int p3), .val .null] [])) t → Steps p.tables e below (s₁.setTop (entryFrame m #[(.ref a1), (.int p2), (.int p3), .null] 4)) t := fun t k => castTop (own_ef_exN m a1 p2 p3) k
  obtain ⟨T1, X1, e1, st1⟩ := initO X0 hx hZ hown (hw _ (List.mem_of_getElem? (i := 7) rfl)) (hw _ (List.mem_of_getElem? (i := 8) rfl)) (hw _ (List.mem_of_getElem? (i := 9) rfl)) e0 (g := (mkF m 1 #[.val (.ref a1), .val (.int p2), .val (.int p3), .val .null] [(.ref a1)])) rfl (by rw [hml]; rfl) rfl (hb hby own_d_prog_13_method_1_1) (by decide) (W := 0) (by show 2 * 0 + _ ≤ _; exact Nat.le_of_eq rfl) (by decide)
  obtain ⟨T2, h2, X2, e2, E2, A2, D2, -, st2⟩ := newO X1 hx hZ hown (hw _ (List.mem_of_getElem? (i := 10) rfl)) (hw _ (List.mem_of_getElem? (i := 11) rfl)) (hw _ (List.mem_of_getElem? (i := 12) rfl)) e1 (g := (mkF m 5 #[.val (.ref a1), .val (.int p2), .val (.int p3), .val .null] [(.ref a1)])) rfl (hb hby own_d_prog_13_method_1_5) (by decide) (by decide)
  obtain ⟨b2, g2⟩ : ∃ z, z = h0.size := ⟨_, rfl⟩
  rw [← g2] at A2 D2 st2
  have sz_b2 : h0.size ≤ b2 := Nat.le_trans K0.1 (Nat.le_of_eq g2.symm)
  have gn_b2 : n0 ≤ b2 := Nat.le_trans Z0 sz_b2
  have ne_a1_b2 : a1 ≠ b2 := Nat.ne_of_lt (Nat.lt_of_lt_of_le F_sourceBytes.lt (Nat.le_of_eq g2.symm))
  have f3 := S0.ext E2
  have f4 := E1.ext E2
  have f5 := F_found.ext E2
  have f6 := F_printed.ext E2
  have f7 := F_sourceId.ext E2
  have f8 := F_sourceParent.ext E2
  have f9 := F_sourceBytes.ext E2
  have k10 := K0.ext E2
  have f11 : Fld Z h2 b2 "java/util/AbstractList" "modCount" "I" (.int (0 : Int32)) := D2 (Or.inl (hw _ (List.mem_of_getElem? (i := 30) rfl))) (ty := .int) (by decide)
  have f12 : Fld Z h2 b2 "java/util/ArrayList" "elementData" "[Ljava/lang/Object;" .null := D2 (Or.inl (hw _ (List.mem_of_getElem? (i := 33) rfl))) (ty := (.array (.object "java/lang/Object"))) (by decide)
  have zs13 : n0 ≤ h2.size := Nat.le_trans Z0 k10.1
  obtain ⟨_, _, ⟨T14, L14, k14, n14⟩, -, X14, ⟨Lc14, hQ14, l14, y14, z14⟩, st14⟩ := X2.specialBack hx (y := (⟨"java/util/ArrayList", "<init>", "()V"⟩ : MethodName)) rfl hown (mvT hZ (hw _ (List.mem_of_getElem? (i := 13) rfl))) (mvT hZ (hw _ (List.mem_of_getElem? (i := 14) rfl))) (mvT hZ (hw _ (List.mem_of_getElem? (i := 15) rfl))) (by decide) (backOf (W := 2) (own_rm_al l Z a0 hw [] b2 aS h2 n0 zs13 f3 A2 f11 f12 gn_b2) hZ (hw _ (List.mem_of_getElem? (i := 15) rfl)) (hw _ (List.mem_of_getElem? (i := 12) rfl)) (by decide) (by decide)) (g := (mkF m 9 #[.val (.ref a1), .val (.int p2), .val (.int p3), .val .null] [(.ref b2), (.ref b2), (.ref a1)])) rfl (by rw [hml]; rfl) (Steps.refl _) (a := b2) (argsL := []) (rest := [(.ref b2), (.ref a1)]) (lenOf own_pd0 rfl) rfl (by show 2 * 0 + _ ≤ _; exact Nat.le_of_eq rfl) (hb hby own_d_prog_13_method_1_9) (fun _ _ => ⟨rfl, e2, (by decide : 1 + 0 ≤ _), (by decide : 3 + 0 ≤ _)⟩)
  dsimp only [Pt.U, Pt.locs, Pt.cells, Pt.slots] at X14 l14 y14 z14 st14 hQ14
  subst l14 y14 z14
  obtain ⟨rfl, N15, K15⟩ := hQ14
  have f16 := own_sta_keep f3 K15 (own_pl_cons A2 all0)
  have f17 := f4.keep K15
  have f18 := f5.keep K15 (ninS ne_a1_b2 nin0)
  have f19 := f6.keep K15 (ninS ne_a1_b2 nin0)
  have f20 := f7.keep K15 (ninS ne_a1_b2 nin0)
  have f21 := f8.keep K15 (ninS ne_a1_b2 nin0)
  have f22 := f9.keep K15 (ninS ne_a1_b2 nin0)
  have f23 := A2.keep K15
  have k24 := k10.trans K15 (allS (Or.inr sz_b2) all0)
  have nf25 := Fr.app N0 N15
  obtain ⟨T26, h26, X26, e26, W26, st26⟩ := putF X14 hx hZ hown (host := "") (Or.inl (hw _ (List.mem_of_getElem? (i := 34) rfl))) Via.refl rfl f18 f17 (Or.inr ⟨(hw _ (List.mem_of_getElem? (i := 35) rfl)), rfl, hnm⟩) (hw _ (List.mem_of_getElem? (i := 2) rfl)) (ty := (.object "java/util/List")) (by decide) rfl rfl (g := (mkF m 12 #[.val (.ref a1), .val (.int p2), .val (.int p3), .val .null] [(.ref b2), (.ref a1)])) rfl rfl (hb hby own_d_prog_13_method_1_12)
  have f27 := f16.wr W26
  have f28 := f17.wr W26
  have f30 := f19.other W26 (Or.inr (slot_ne (Or.inr (hw _ (List.mem_of_getElem? (i := 37) rfl))) (Or.inr (hw _ (List.mem_of_getElem? (i := 35) rfl))) (by decide) (t := (.object "java/util/List")) (t' := (.object "java/util/List")) (by decide) (by decide)))
  have f31 := f20.other W26 (Or.inr (slot_ne (Or.inr (hw _ (List.mem_of_getElem? (i := 39) rfl))) (Or.inr (hw _ (List.mem_of_getElem? (i := 35) rfl))) (by decide) (t := .int) (t' := (.object "java/util/List")) (by decide) (by decide)))
  have f32 := f21.other W26 (Or.inr (slot_ne (Or.inr (hw _ (List.mem_of_getElem? (i := 41) rfl))) (Or.inr (hw _ (List.mem_of_getElem? (i := 35) rfl))) (by decide) (t := .int) (t' := (.object "java/util/List")) (by decide) (by decide)))
  have f33 := f22.other W26 (Or.inr (slot_ne (Or.inr (hw _ (List.mem_of_getElem? (i := 43) rfl))) (Or.inr (hw _ (List.mem_of_getElem? (i := 35) rfl))) (by decide) (t := (.array .byte)) (t' := (.object "java/util/List")) (by decide) (by decide)))
  have f34 := f23.wr W26
  have k35 := k24.wr W26 (Or.inl (List.mem_of_getElem? (i := 0) rfl))
  have nf36 := Fr.snoc X26 nf25 g1
  have f37 := f18.same W26
  obtain ⟨T38, h38, X38, e38, E38, A38, D38, -, st38⟩ := newO X26 hx hZ hown (hw _ (List.mem_of_getElem? (i := 10) rfl)) (hw _ (List.mem_of_getElem? (i := 11) rfl)) (hw _ (List.mem_of_getElem? (i := 12) rfl)) e26 (g := (mkF m 16 #[.val (.ref a1), .val (.int p2), .val (.int p3), .val .null] [(.ref a1)])) rfl (hb hby own_d_prog_13_method_1_16) (by decide) (by decide)
  obtain ⟨b38, g38⟩ : ∃ z, z = h26.size := ⟨_, rfl⟩
  rw [← g38] at A38 D38 st38
  have sz_b38 : h0.size ≤ b38 := Nat.le_trans k35.1 (Nat.le_of_eq g38.symm)
  have gn_b38 : n0 ≤ b38 := Nat.le_trans Z0 sz_b38
  have ne_a1_b38 : a1 ≠ b38 := Nat.ne_of_lt (Nat.lt_of_lt_of_le f33.lt (Nat.le_of_eq g38.symm))
  have ne_b2_b38 : b2 ≠ b38 := Nat.ne_of_lt (Nat.lt_of_lt_of_le f34.lt (Nat.le_of_eq g38.symm))
  have f39 := f27.ext E38
  have f40 := f28.ext E38
  have f41 := f37.ext E38
  have f42 := f30.ext E38
  have f43 := f31.ext E38
  have f44 := f32.ext E38
  have f45 := f33.ext E38
  have f46 := f34.ext E38
  have k47 := k35.ext E38
  have f48 : Fld Z h38 b38 "java/util/AbstractList" "modCount" "I" (.int (0 : Int32)) := D38 (Or.inl (hw _ (List.mem_of_getElem? (i := 30) rfl))) (ty := .int) (by decide)
  have f49 : Fld Z h38 b38 "java/util/ArrayList" "elementData" "[Ljava/lang/Object;" .null := D38 (Or.inl (hw _ (List.mem_of_getElem? (i := 33) rfl))) (ty := (.array (.object "java/lang/Object"))) (by decide)
  have zs50 : n0 ≤ h38.size := Nat.le_trans Z0 k47.1
  obtain ⟨_, _, ⟨T51, L51, k51, n51⟩, -, X51, ⟨Lc51, hQ51, l51, y51, z51⟩, st51⟩ := X38.specialBack hx (y := (⟨"java/util/ArrayList", "<init>", "()V"⟩ : MethodName)) rfl hown (mvT hZ (hw _ (List.mem_of_getElem? (i := 13) rfl))) (mvT hZ (hw _ (List.mem_of_getElem? (i := 14) rfl))) (mvT hZ (hw _ (List.mem_of_getElem? (i := 15) rfl))) (by decide) (backOf (W := 2) (own_rm_al l Z a0 hw [] b38 aS h38 n0 zs50 f39 A38 f48 f49 gn_b38) hZ (hw _ (List.mem_of_getElem? (i := 15) rfl)) (hw _ (List.mem_of_getElem? (i := 12) rfl)) (by decide) (by decide)) (g := (mkF m 20 #[.val (.ref a1), .val (.int p2), .val (.int p3), .val .null] [(.ref b38), (.ref b38), (.ref a1)])) rfl (by rw [hml]; rfl) (Steps.refl _) (a := b38) (argsL := []) (rest := [(.ref b38), (.ref a1)]) (lenOf own_pd0 rfl) rfl (by show 2 * 0 + _ ≤ _; exact Nat.le_of_eq rfl) (hb hby own_d_prog_13_method_1_20) (fun _ _ => ⟨rfl, e38, (by decide : 2 + 0 ≤ _), (by decide : 6 + 0 ≤ _)⟩)
  dsimp only [Pt.U, Pt.locs, Pt.cells, Pt.slots] at X51 l51 y51 z51 st51 hQ51
  subst l51 y51 z51
  obtain ⟨rfl, N52, K52⟩ := hQ51
  have f53 := own_sta_keep f39 K52 (own_pl_cons A38 all0)
  have f54 := f40.keep K52
  have f55 := f41.keep K52 (ninS ne_a1_b38 nin0)
  have f56 := f42.keep K52 (ninS ne_a1_b38 nin0)
  have f57 := f43.keep K52 (ninS ne_a1_b38 nin0)
  have f58 := f44.keep K52 (ninS ne_a1_b38 nin0)
  have f59 := f45.keep K52 (ninS ne_a1_b38 nin0)
  have f60 := f46.keep K52
  have f61 := A38.keep K52
  have k62 := k47.trans K52 (allS (Or.inr sz_b38) all0)
  have nf63 := Fr.app nf36 N52
  obtain ⟨T64, h64, X64, e64, W64, st64⟩ := putF X51 hx hZ hown (host := "") (Or.inl (hw _ (List.mem_of_getElem? (i := 36) rfl))) Via.refl rfl f56 f54 (Or.inr ⟨(hw _ (List.mem_of_getElem? (i := 37) rfl)), rfl, hnm⟩) (hw _ (List.mem_of_getElem? (i := 2) rfl)) (ty := (.object "java/util/List")) (by decide) rfl rfl (g := (mkF m 23 #[.val (.ref a1), .val (.int p2), .val (.int p3), .val .null] [(.ref b38), (.ref a1)])) rfl rfl (hb hby own_d_prog_13_method_1_23)
  have f65 := f53.wr W64
  have f66 := f54.wr W64
  have f67 := f55.other W64 (Or.inr (slot_ne (Or.inr (hw _ (List.mem_of_getElem? (i := 35) rfl))) (Or.inr (hw _ (List.mem_of_getElem? (i := 37) rfl))) (by decide) (t := (.object "java/util/List")) (t' := (.object "java/util/List")) (by decide) (by decide)))
  have f69 := f57.other W64 (Or.inr (slot_ne (Or.inr (hw _ (List.mem_of_getElem? (i := 39) rfl))) (Or.inr (hw _ (List.mem_of_getElem? (i := 37) rfl))) (by decide) (t := .int) (t' := (.object "java/util/List")) (by decide) (by decide)))
  have f70 := f58.other W64 (Or.inr (slot_ne (Or.inr (hw _ (List.mem_of_getElem? (i := 41) rfl))) (Or.inr (hw _ (List.mem_of_getElem? (i := 37) rfl))) (by decide) (t := .int) (t' := (.object "java/util/List")) (by decide) (by decide)))
  have f71 := f59.other W64 (Or.inr (slot_ne (Or.inr (hw _ (List.mem_of_getElem? (i := 43) rfl))) (Or.inr (hw _ (List.mem_of_getElem? (i := 37) rfl))) (by decide) (t := (.array .byte)) (t' := (.object "java/util/List")) (by decide) (by decide)))
  have f72 := f60.wr W64
  have f73 := f61.wr W64
  have k74 := k62.wr W64 (Or.inl (List.mem_of_getElem? (i := 0) rfl))
  have nf75 := Fr.snoc X64 nf63 g1
  have f76 := f56.same W64
  obtain ⟨T77, h77, X77, e77, W77, st77⟩ := putF X64 hx hZ hown (host := "") (Or.inl (hw _ (List.mem_of_getElem? (i := 38) rfl))) Via.refl e64 f69 f66 (Or.inr ⟨(hw _ (List.mem_of_getElem? (i := 39) rfl)), rfl, hnm⟩) (hw _ (List.mem_of_getElem? (i := 2) rfl)) (ty := .int) (by decide) rfl rfl (g := (mkF m 28 #[.val (.ref a1), .val (.int p2), .val (.int p3), .val .null] [(.int p2), (.ref a1)])) rfl rfl (hb hby own_d_prog_13_method_1_28)
  have f78 := f65.wr W77
  have f79 := f66.wr W77
  have f80 := f67.other W77 (Or.inr (slot_ne (Or.inr (hw _ (List.mem_of_getElem? (i := 35) rfl))) (Or.inr (hw _ (List.mem_of_getElem? (i := 39) rfl))) (by decide) (t := (.object "java/util/List")) (t' := .int) (by decide) (by decide)))
  have f81 := f76.other W77 (Or.inr (slot_ne (Or.inr (hw _ (List.mem_of_getElem? (i := 37) rfl))) (Or.inr (hw _ (List.mem_of_getElem? (i := 39) rfl))) (by decide) (t := (.object "java/util/List")) (t' := .int) (by decide) (by decide)))
  have f83 := f70.other W77 (Or.inr (slot_ne (Or.inr (hw _ (List.mem_of_getElem? (i := 41) rfl))) (Or.inr (hw _ (List.mem_of_getElem? (i := 39) rfl))) (by decide) (t := .int) (t' := .int) (by decide) (by decide)))
  have f84 := f71.other W77 (Or.inr (slot_ne (Or.inr (hw _ (List.mem_of_getElem? (i := 43) rfl))) (Or.inr (hw _ (List.mem_of_getElem? (i := 39) rfl))) (by decide) (t := (.array .byte)) (t' := .int) (by decide) (by decide)))
  have f85 := f72.wr W77
  have f86 := f73.wr W77
  have k87 := k74.wr W77 (Or.inl (List.mem_of_getElem? (i := 0) rfl))
  have nf88 := Fr.snoc X77 nf75 g1
  have f89 := f69.same W77
  obtain ⟨T90, h90, X90, e90, W90, st90⟩ := putF X77 hx hZ hown (host := "") (Or.inl (hw _ (List.mem_of_getElem? (i := 40) rfl))) Via.refl e77 f83 f79 (Or.inr ⟨(hw _ (List.mem_of_getElem? (i := 41) rfl)), rfl, hnm⟩) (hw _ (List.mem_of_getElem? (i := 2) rfl)) (ty := .int) (by decide) rfl rfl (g := (mkF m 33 #[.val (.ref a1), .val (.int p2), .val (.int p3), .val .null] [(.int p3), (.ref a1)])) rfl rfl (hb hby own_d_prog_13_method_1_33)
  have f91 := f78.wr W90
  have f92 := f79.wr W90
  have f93 := f80.other W90 (Or.inr (slot_ne (Or.inr (hw _ (List.mem_of_getElem? (i := 35) rfl))) (Or.inr (hw _ (List.mem_of_getElem? (i := 41) rfl))) (by decide) (t := (.object "java/util/List")) (t' := .int) (by decide) (by decide)))
  have f94 := f81.other W90 (Or.inr (slot_ne (Or.inr (hw _ (List.mem_of_getElem? (i := 37) rfl))) (Or.inr (hw _ (List.mem_of_getElem? (i := 41) rfl))) (by decide) (t := (.object "java/util/List")) (t' := .int) (by decide) (by decide)))
  have f95 := f89.other W90 (Or.inr (slot_ne (Or.inr (hw _ (List.mem_of_getElem? (i := 39) rfl))) (Or.inr (hw _ (List.mem_of_getElem? (i := 41) rfl))) (by decide) (t := .int) (t' := .int) (by decide) (by decide)))
  have f97 := f84.other W90 (Or.inr (slot_ne (Or.inr (hw _ (List.mem_of_getElem? (i := 43) rfl))) (Or.inr (hw _ (List.mem_of_getElem? (i := 41) rfl))) (by decide) (t := (.array .byte)) (t' := .int) (by decide) (by decide)))
  have f98 := f85.wr W90
  have f99 := f86.wr W90
  have k100 := k87.wr W90 (Or.inl (List.mem_of_getElem? (i := 0) rfl))
  have nf101 := Fr.snoc X90 nf88 g1
  have f102 := f83.same W90
  obtain ⟨T103, h103, X103, e103, W103, st103⟩ := putF X90 hx hZ hown (host := "") (Or.inl (hw _ (List.mem_of_getElem? (i := 42) rfl))) Via.refl e90 f97 f92 (Or.inr ⟨(hw _ (List.mem_of_getElem? (i := 43) rfl)), rfl, hnm⟩) (hw _ (List.mem_of_getElem? (i := 2) rfl)) (ty := (.array .byte)) (by decide) rfl rfl (g := (mkF m 38 #[.val (.ref a1), .val (.int p2), .val (.int p3), .val .null] [.null, (.ref a1)])) rfl rfl (hb hby own_d_prog_13_method_1_38)
  have f104 := f91.wr W103
  have f105 := f92.wr W103
  have f106 := f93.other W103 (Or.inr (slot_ne (Or.inr (hw _ (List.mem_of_getElem? (i := 35) rfl))) (Or.inr (hw _ (List.mem_of_getElem? (i := 43) rfl))) (by decide) (t := (.object "java/util/List")) (t' := (.array .byte)) (by decide) (by decide)))
  have f107 := f94.other W103 (Or.inr (slot_ne (Or.inr (hw _ (List.mem_of_getElem? (i := 37) rfl))) (Or.inr (hw _ (List.mem_of_getElem? (i := 43) rfl))) (by decide) (t := (.object "java/util/List")) (t' := (.array .byte)) (by decide) (by decide)))
  have f108 := f95.other W103 (Or.inr (slot_ne (Or.inr (hw _ (List.mem_of_getElem? (i := 39) rfl))) (Or.inr (hw _ (List.mem_of_getElem? (i := 43) rfl))) (by decide) (t := .int) (t' := (.array .byte)) (by decide) (by decide)))
  have f109 := f102.other W103 (Or.inr (slot_ne (Or.inr (hw _ (List.mem_of_getElem? (i := 41) rfl))) (Or.inr (hw _ (List.mem_of_getElem? (i := 43) rfl))) (by decide) (t := .int) (t' := (.array .byte)) (by decide) (by decide)))
  have f111 := f98.wr W103
  have f112 := f99.wr W103
  have k113 := k100.wr W103 (Or.inl (List.mem_of_getElem? (i := 0) rfl))
  have nf114 := Fr.snoc X103 nf101 g1
  have f115 := f97.same W103
  have pre116 : ∀ t, Steps p.tables e below (T103.setTop (mkF m 41 #[.val (.ref a1), .val (.int p2), .val (.int p3), .val .null] [])) t → Steps p.tables e below (s₁.setTop (entryFrame m #[(.ref a1), (.int p2), (.int p3), .null] 4)) t := by
    intro t kt
    refine pre0 t ?_
    show Steps p.tables e below (s₁.setTop (mkF m 0 #[.val (.ref a1), .val (.int p2), .val (.int p3), .val .null] [])) _
    refine XS.aloadN X0.here hx rfl (hb hby own_d_prog_13_method_1_0) rfl rfl ?_
    show Steps p.tables e below (s₁.setTop (mkF m 1 #[.val (.ref a1), .val (.int p2), .val (.int p3), .val .null] [(.ref a1)])) _
    refine st1 _ ?_
    show Steps p.tables e below (T1.setTop (mkF m 4 #[.val (.ref a1), .val (.int p2), .val (.int p3), .val .null] [])) _
    refine XS.aloadN X1.here hx rfl (hb hby own_d_prog_13_method_1_4) rfl rfl ?_
    show Steps p.tables e below (T1.setTop (mkF m 5 #[.val (.ref a1), .val (.int p2), .val (.int p3), .val .null] [(.ref a1)])) _
    refine st2 _ ?_
    show Steps p.tables e below (T2.setTop (mkF m 8 #[.val (.ref a1), .val (.int p2), .val (.int p3), .val .null] [(.ref b2), (.ref a1)])) _
    refine XS.dup X2.here hx rfl (hb hby own_d_prog_13_method_1_8) rfl rfl ?_
    show Steps p.tables e below (T2.setTop (mkF m 9 #[.val (.ref a1), .val (.int p2), .val (.int p3), .val .null] [(.ref b2), (.ref b2), (.ref a1)])) _
    refine st14.trans ?_
    show Steps p.tables e below (T14.setTop (mkF m 12 #[.val (.ref a1), .val (.int p2), .val (.int p3), .val .null] [(.ref b2), (.ref a1)])) _
    refine st26 _ ?_
    show Steps p.tables e below (T26.setTop (mkF m 15 #[.val (.ref a1), .val (.int p2), .val (.int p3), .val .null] [])) _
    refine XS.aloadN X26.here hx rfl (hb hby own_d_prog_13_method_1_15) rfl rfl ?_
    show Steps p.tables e below (T26.setTop (mkF m 16 #[.val (.ref a1), .val (.int p2), .val (.int p3), .val .null] [(.ref a1)])) _
    refine st38 _ ?_
    show Steps p.tables e below (T38.setTop (mkF m 19 #[.val (.ref a1), .val (.int p2), .val (.int p3), .val .null] [(.ref b38), (.ref a1)])) _
    refine XS.dup X38.here hx rfl (hb hby own_d_prog_13_method_1_19) rfl rfl ?_
    show Steps p.tables e below (T38.setTop (mkF m 20 #[.val (.ref a1), .val (.int p2), .val (.int p3), .val .null] [(.ref b38), (.ref b38), (.ref a1)])) _
    refine st51.trans ?_
    show Steps p.tables e below (T51.setTop (mkF m 23 #[.val (.ref a1), .val (.int p2), .val (.int p3), .val .null] [(.ref b38), (.ref a1)])) _
    refine st64 _ ?_
    show Steps p.tables e below (T64.setTop (mkF m 26 #[.val (.ref a1), .val (.int p2), .val (.int p3), .val .null] [])) _
    refine XS.aloadN X64.here hx rfl (hb hby own_d_prog_13_method_1_26) rfl rfl ?_
    show Steps p.tables e below (T64.setTop (mkF m 27 #[.val (.ref a1), .val (.int p2), .val (.int p3), .val .null] [(.ref a1)])) _
    refine XS.iloadN X64.here hx rfl (hb hby own_d_prog_13_method_1_27) rfl ?_
    show Steps p.tables e below (T64.setTop (mkF m 28 #[.val (.ref a1), .val (.int p2), .val (.int p3), .val .null] [(.int p2), (.ref a1)])) _
    refine st77 _ ?_
    show Steps p.tables e below (T77.setTop (mkF m 31 #[.val (.ref a1), .val (.int p2), .val (.int p3), .val .null] [])) _
    refine XS.aloadN X77.here hx rfl (hb hby own_d_prog_13_method_1_31) rfl rfl ?_
    show Steps p.tables e below (T77.setTop (mkF m 32 #[.val (.ref a1), .val (.int p2), .val (.int p3), .val .null] [(.ref a1)])) _
    refine XS.iloadN X77.here hx rfl (hb hby own_d_prog_13_method_1_32) rfl ?_
    show Steps p.tables e below (T77.setTop (mkF m 33 #[.val (.ref a1), .val (.int p2), .val (.int p3), .val .null] [(.int p3), (.ref a1)])) _
    refine st90 _ ?_
    show Steps p.tables e below (T90.setTop (mkF m 36 #[.val (.ref a1), .val (.int p2), .val (.int p3), .val .null] [])) _
    refine XS.aloadN X90.here hx rfl (hb hby own_d_prog_13_method_1_36) rfl rfl ?_
    show Steps p.tables e below (T90.setTop (mkF m 37 #[.val (.ref a1), .val (.int p2), .val (.int p3), .val .null] [(.ref a1)])) _
    refine XS.aloadN X90.here hx rfl (hb hby own_d_prog_13_method_1_37) rfl rfl ?_
    show Steps p.tables e below (T90.setTop (mkF m 38 #[.val (.ref a1), .val (.int p2), .val (.int p3), .val .null] [.null, (.ref a1)])) _
    refine st103 _ ?_
    exact kt
  obtain ⟨fs, hr, hrun, hended, hW, hsame⟩ := X103.leave (v := none) (fun _ => rfl)
  refine ⟨_, _, pre116 _ ?_, hrun, hended, _, _, rfl, ?_, ⟨_, rfl⟩, hW, hsame.mono (by decide) (by decide)⟩
  · show Steps p.tables e below (T103.setTop (mkF m 41 #[.val (.ref a1), .val (.int p2), .val (.int p3), .val .null] [])) _
    exact X103.returnOut hx Bd.returns (hb hby own_d_prog_13_method_1_41) hr
  · show own_Q_exN Z a1 p2 p3 aS h0 n0 (none) T103.heap _
    rw [e103]
    exact ⟨rfl, nf114, k113, f108, f109, f115⟩
theorem own_n3 (x : Int32) : 0 ≤ (x &&& (3 : Int32)).toInt ∧ (x &&& (3 : Int32)).toInt ≤ 3 := c_and x 3 (by decide)
theorem own_nn {n : Int32} (h : 0 ≤ n.toInt) : ¬ n < 0 := by rw [Int32.lt_iff_toInt_lt]; have : (0 : Int32).toInt = 0 := rfl; omega
theorem own_cap {n : Int32} (h : n.toInt ≤ 3) : n.toNatClampNeg ≤ 3 := by simp only [Int32.toNatClampNeg]; omega
theorem own_no1 {n : Int32} (h : ¬ 0 < n) : ¬ 1 < n := by rw [Int32.lt_iff_toInt_lt] at h ⊢; have : (0 : Int32).toInt = 0 := rfl; have : (1 : Int32).toInt = 1 := rfl; omega
theorem own_no2 {n : Int32} (h : ¬ 1 < n) : ¬ 2 < n := by rw [Int32.lt_iff_toInt_lt] at h ⊢; have : (2 : Int32).toInt = 2 := rfl; have : (1 : Int32).toInt = 1 := rfl; omega
theorem own_d_prog_13_method_3_0 : decode prog_13_method_3_code 0 = .ok (.aload_n 0, 1) := by decide +kernel
theorem own_d_prog_13_method_3_1 : decode prog_13_method_3_code 1 = .ok (.getfield 26, 3) := by decide +kernel
theorem own_d_prog_13_method_3_4 : decode prog_13_method_3_code 4 = .ok (.ifnonnull 7, 3) := by decide +kernel
theorem own_d_prog_13_method_3_7 : decode prog_13_method_3_code 7 = .ok (.iconst 1, 1) := by decide +kernel
theorem own_d_prog_13_method_3_8 : decode prog_13_method_3_code 8 = .ok (.goto 4, 3) := by decide +kernel
theorem own_d_prog_13_method_3_11 : decode prog_13_method_3_code 11 = .ok (.iconst 0, 1) := by decide +kernel
theorem own_d_prog_13_method_3_12 : decode prog_13_method_3_code 12 = .ok (.ireturn, 1) := by decide +kernel
theorem own_ef_isN (m : MethodId) (a1 : Addr) : entryFrame m #[(.ref a1)] 1 = mkF m 0 #[.val (.ref a1)] [] := by first | (simp [entryFrame, mkF, argsToLocals, Value.category]; done) | rfl
def own_Q_isN (Z : State) (a1 : Addr) (h0 : Heap) (n0 : Nat) (v : Option Value) (h : Heap) (L : List Loc) : Prop := v = some (.int 1) ∧ Fr n0 L ∧ h = h0
set_option maxRecDepth 65536 in
set_option maxHeartbeats 40000000 in
theorem own_rm_isN (l : Launch) (Z : State) (a0 : Array Value) (hw : ∀ d ∈ tables_1, d.before a0 Z = true) (ws : List Jvm.Cond) (a1 : Addr) (h0 : Heap) (n0 : Nat) (Z0 : n0 ≤ h0.size) (F0 : Fld Z h0 a1 "com/example/interleave/interleave/check/Expansion" "sourceBytes" "[B" .null) :
    MetFree l (⟨"com/example/interleave/interleave/check/Expansion", "isInitial", "()Z"⟩ : MethodName) (head1 (Jvm.Cond.code (⟨"com/example/interleave/interleave/check/Expansion", "isInitial", "()Z"⟩ : MethodName) prog_13_method_3_code 1 (some .boolean) :: ws) ({ frames := 0, cells := 0, slots := 0, locals := 0 } : Room)) (fun a U => a = #[(.ref a1)] ∧ Z.Warmed39 U.vm ∧ U.heap = h0) (fun _ _ _ _ _ => True) (fun _ U o U' => ∃ v L, o = .returned v ∧ own_Q_isN Z a1 h0 n0 v U'.heap L ∧ FrameEnd U o U' L ({ frames := 0, cells := 0, slots := 0, locals := 0 } : Room).cells ({ frames := 0, cells := 0, slots := 0, locals := 0 } : Room).slots) := by
  refine MetFree.of_bodySF (plainFor_of_name own_pn3) hisR ?_
  intro p e s m args below meth c s₁ Bd hml0 hP hK
  obtain ⟨rfl, hZ, hh⟩ := hP
  have hx := Bd.exec
  have hby := Bd.bytes
  have hml : c.maxLocals = 1 := hml0
  have hown : s.vm.findClass "com/example/interleave/interleave/check/Expansion" = some m.cls := findClass_of_methodNamed Bd.named
  have hnm := (name_of_methodNamed Bd.named Bd.method).1
  have X0 : Stand p l e ({ frames := 0, cells := 0, slots := 0, locals := 0 } : Room) s m #[(.ref a1)] below meth c s₁ [] 0 0 := Stand.of_body Bd
  have e0 : s₁.heap = h0 := by rw [← hh, Bd.state]; rfl
  have N0 := Fr.nil n0
  have K0 : Keep h0 h0 [] := Keep.refl _ _
  have pre0 : ∀ t, Steps p.tables e below (s₁.setTop (mkF m 0 #[.val (.ref a1)] [])) t → Steps p.tables e below (s₁.setTop (entryFrame m #[(.ref a1)] 1)) t := fun t k => castTop (own_ef_isN m a1) k
  obtain ⟨T1, X1, e1, st1⟩ := getF X0 hx hZ hown (host := "") (Or.inl (hw _ (List.mem_of_getElem? (i := 42) rfl))) Via.refl e0 F0 (g := (mkF m 1 #[.val (.ref a1)] [(.ref a1)])) rfl rfl (hb hby own_d_prog_13_method_3_1)
  have pre2 : ∀ t, Steps p.tables e below (T1.setTop (mkF m 12 #[.val (.ref a1)] [(.int (1 : Int32))])) t → Steps p.tables e below (s₁.setTop (entryFrame m #[(.ref a1)] 1)) t := by
    intro t kt
    refine pre0 t ?_
    show Steps p.tables e below (s₁.setTop (mkF m 0 #[.val (.ref a1)] [])) _
    refine XS.aloadN X0.here hx rfl (hb hby own_d_prog_13_method_3_0) rfl rfl ?_
    show Steps p.tables e below (s₁.setTop (mkF m 1 #[.val (.ref a1)] [(.ref a1)])) _
    refine st1 _ ?_
    show Steps p.tables e below (T1.setTop (mkF m 4 #[.val (.ref a1)] [.null])) _
    refine XS.ifnonnullNo X1.here hx rfl (hb hby own_d_prog_13_method_3_4) rfl ?_
    show Steps p.tables e below (T1.setTop (mkF m 7 #[.val (.ref a1)] [])) _
    refine XS.iconst X1.here hx rfl (hb hby own_d_prog_13_method_3_7) ?_
    show Steps p.tables e below (T1.setTop (mkF m 8 #[.val (.ref a1)] [(.int (1 : Int32))])) _
    refine XS.goto X1.here hx rfl (pc0 := 8) (pc' := 12) rfl (hb hby own_d_prog_13_method_3_8) (by decide) (by decide) ?_
    exact kt
  obtain ⟨fs, hr, hrun, hended, hW, hsame⟩ := X1.leave (v := some (.int (1 : Int32))) (fun h => by rw [Bd.returns] at h; cases h)
  refine ⟨_, _, pre2 _ ?_, hrun, hended, _, _, rfl, ?_, ⟨_, rfl⟩, hW, hsame.mono (by decide) (by decide)⟩
  · show Steps p.tables e below (T1.setTop (mkF m 12 #[.val (.ref a1)] [(.int (1 : Int32))])) _
    exact retN X1 hx (t := .boolean) Bd.returns (by simp) (hb hby own_d_prog_13_method_3_12) hr
  · show own_Q_isN Z a1 h0 n0 (some (.int (1 : Int32))) T1.heap _
    rw [e1]
    exact ⟨rfl, N0, rfl⟩
theorem own_ef_isR (m : MethodId) (a1 : Addr) : entryFrame m #[(.ref a1)] 1 = mkF m 0 #[.val (.ref a1)] [] := by first | (simp [entryFrame, mkF, argsToLocals, Value.category]; done) | rfl
def own_Q_isR (Z : State) (a1 : Addr) (b1 : Addr) (h0 : Heap) (n0 : Nat) (v : Option Value) (h : Heap) (L : List Loc) : Prop := v = some (.int 0) ∧ Fr n0 L ∧ h = h0
set_option maxRecDepth 65536 in
set_option maxHeartbeats 40000000 in
theorem own_rm_isR (l : Launch) (Z : State) (a0 : Array Value) (hw : ∀ d ∈ tables_1, d.before a0 Z = true) (ws : List Jvm.Cond) (a1 : Addr) (b1 : Addr) (h0 : Heap) (n0 : Nat) (Z0 : n0 ≤ h0.size) (F0 : Fld Z h0 a1 "com/example/interleave/interleave/check/Expansion" "sourceBytes" "[B" (.ref b1)) :
    MetFree l (⟨"com/example/interleave/interleave/check/Expansion", "isInitial", "()Z"⟩ : MethodName) (head1 (Jvm.Cond.code (⟨"com/example/interleave/interleave/check/Expansion", "isInitial", "()Z"⟩ : MethodName) prog_13_method_3_code 1 (some .boolean) :: ws) ({ frames := 0, cells := 0, slots := 0, locals := 0 } : Room)) (fun a U => a = #[(.ref a1)] ∧ Z.Warmed39 U.vm ∧ U.heap = h0) (fun _ _ _ _ _ => True) (fun _ U o U' => ∃ v L, o = .returned v ∧ own_Q_isR Z a1 b1 h0 n0 v U'.heap L ∧ FrameEnd U o U' L ({ frames := 0, cells := 0, slots := 0, locals := 0 } : Room).cells ({ frames := 0, cells := 0, slots := 0, locals := 0 } : Room).slots) := by
  refine MetFree.of_bodySF (plainFor_of_name own_pn3) hisR ?_
  intro p e s m args below meth c s₁ Bd hml0 hP hK
  obtain ⟨rfl, hZ, hh⟩ := hP
  have hx := Bd.exec
  have hby := Bd.bytes
  have hml : c.maxLocals = 1 := hml0
  have hown : s.vm.findClass "com/example/interleave/interleave/check/Expansion" = some m.cls := findClass_of_methodNamed Bd.named
  have hnm := (name_of_methodNamed Bd.named Bd.method).1
  have X0 : Stand p l e ({ frames := 0, cells := 0, slots := 0, locals := 0 } : Room) s m #[(.ref a1)] below meth c s₁ [] 0 0 := Stand.of_body Bd
  have e0 : s₁.heap = h0 := by rw [← hh, Bd.state]; rfl
  have N0 := Fr.nil n0
  have K0 : Keep h0 h0 [] := Keep.refl _ _
  have pre0 : ∀ t, Steps p.tables e below (s₁.setTop (mkF m 0 #[.val (.ref a1)] [])) t → Steps p.tables e below (s₁.setTop (entryFrame m #[(.ref a1)] 1)) t := fun t k => castTop (own_ef_isR m a1) k
  obtain ⟨T1, X1, e1, st1⟩ := getF X0 hx hZ hown (host := "") (Or.inl (hw _ (List.mem_of_getElem? (i := 42) rfl))) Via.refl e0 F0 (g := (mkF m 1 #[.val (.ref a1)] [(.ref a1)])) rfl rfl (hb hby own_d_prog_13_method_3_1)
  have pre2 : ∀ t, Steps p.tables e below (T1.setTop (mkF m 12 #[.val (.ref a1)] [(.int (0 : Int32))])) t → Steps p.tables e below (s₁.setTop (entryFrame m #[(.ref a1)] 1)) t := by
    intro t kt
    refine pre0 t ?_
    show Steps p.tables e below (s₁.setTop (mkF m 0 #[.val (.ref a1)] [])) _
    refine XS.aloadN X0.here hx rfl (hb hby own_d_prog_13_method_3_0) rfl rfl ?_
    show Steps p.tables e below (s₁.setTop (mkF m 1 #[.val (.ref a1)] [(.ref a1)])) _
    refine st1 _ ?_
    show Steps p.tables e below (T1.setTop (mkF m 4 #[.val (.ref a1)] [(.ref b1)])) _
    refine XS.ifnonnullYes X1.here hx rfl (pc0 := 4) (pc' := 11) rfl (hb hby own_d_prog_13_method_3_4) rfl (by decide) (by decide) ?_
    show Steps p.tables e below (T1.setTop (mkF m 11 #[.val (.ref a1)] [])) _
    refine XS.iconst X1.here hx rfl (hb hby own_d_prog_13_method_3_11) ?_
    exact kt
  obtain ⟨fs, hr, hrun, hended, hW, hsame⟩ := X1.leave (v := some (.int (0 : Int32))) (fun h => by rw [Bd.returns] at h; cases h)
  refine ⟨_, _, pre2 _ ?_, hrun, hended, _, _, rfl, ?_, ⟨_, rfl⟩, hW, hsame.mono (by decide) (by decide)⟩
  · show Steps p.tables e below (T1.setTop (mkF m 12 #[.val (.ref a1)] [(.int (0 : Int32))])) _
    exact retN X1 hx (t := .boolean) Bd.returns (by simp) (hb hby own_d_prog_13_method_3_12) hr
  · show own_Q_isR Z a1 b1 h0 n0 (some (.int (0 : Int32))) T1.heap _
    rw [e1]
    exact ⟨rfl, N0, rfl⟩
theorem own_d_prog_13_method_2_0 : decode prog_13_method_2_code 0 = .ok (.new 11, 3) := by decide +kernel
theorem own_d_prog_13_method_2_3 : decode prog_13_method_2_code 3 = .ok (.dup, 1) := by decide +kernel
theorem own_d_prog_13_method_2_4 : decode prog_13_method_2_code 4 = .ok (.iconst (-1), 1) := by decide +kernel
theorem own_d_prog_13_method_2_5 : decode prog_13_method_2_code 5 = .ok (.iconst (-1), 1) := by decide +kernel
theorem own_d_prog_13_method_2_6 : decode prog_13_method_2_code 6 = .ok (.aconst_null, 1) := by decide +kernel
theorem own_d_prog_13_method_2_7 : decode prog_13_method_2_code 7 = .ok (.invokespecial 30, 3) := by decide +kernel
theorem own_d_prog_13_method_2_10 : decode prog_13_method_2_code 10 = .ok (.areturn, 1) := by decide +kernel
theorem own_pd1 : parseMethodDescriptor "(II[B)V" = some ⟨[.int, .int, (.array .byte)], none⟩ := by decide +kernel
theorem own_ef_ini (m : MethodId)  : entryFrame m #[] 0 = mkF m 0 #[] [] := by first | (simp [entryFrame, mkF, argsToLocals, Value.category]; done) | rfl
def own_Q_ini (Z : State) (aS : Addr) (h0 : Heap) (n0 : Nat) (v : Option Value) (h : Heap) (L : List Loc) : Prop := ∃ b : Addr, v = some (.ref b) ∧ Fr n0 L ∧ Keep h0 h [] ∧ h0.size ≤ b ∧ Exa Z h b "com/example/interleave/interleave/check/Expansion" ∧ Fld Z h b "com/example/interleave/interleave/check/Expansion" "sourceBytes" "[B" .null
set_option maxRecDepth 65536 in
set_option maxHeartbeats 40000000 in
theorem own_rm_ini (l : Launch) (Z : State) (a0 : Array Value) (hw : ∀ d ∈ tables_1, d.before a0 Z = true) (ws : List Jvm.Cond) (aS : Addr) (h0 : Heap) (n0 : Nat) (Z0 : n0 ≤ h0.size) (S0 : Sta Z h0 "java/util/ArrayList" "DEFAULTCAPACITY_EMPTY_ELEMENTDATA" "[Ljava/lang/Object;" (.ref aS)) :
    MetFree l (⟨"com/example/interleave/interleave/check/Expansion", "initial", "()Lcom/example/interleave/interleave/check/Expansion;"⟩ : MethodName) (head1 (Jvm.Cond.code (⟨"com/example/interleave/interleave/check/Expansion", "initial", "()Lcom/example/interleave/interleave/check/Expansion;"⟩ : MethodName) prog_13_method_2_code 0 (some (.object "com/example/interleave/interleave/check/Expansion")) :: ws) ({ frames := 5, cells := 3, slots := 27, locals := 66 } : Room)) (fun a U => a = #[] ∧ Z.Warmed39 U.vm ∧ U.heap = h0) (fun _ _ _ _ _ => True) (fun _ U o U' => ∃ v L, o = .returned v ∧ own_Q_ini Z aS h0 n0 v U'.heap L ∧ FrameEnd U o U' L ({ frames := 5, cells := 3, slots := 27, locals := 66 } : Room).cells ({ frames := 5, cells := 3, slots := 27, locals := 66 } : Room).slots) := by
  refine MetFree.of_bodySF (plainFor_of_name own_pn3) hisR ?_
  intro p e s m args below meth c s₁ Bd hml0 hP hK
  obtain ⟨rfl, hZ, hh⟩ := hP
  have hx := Bd.exec
  have hby := Bd.bytes
  have hml : c.maxLocals = 0 := hml0
  have hown : s.vm.findClass "com/example/interleave/interleave/check/Expansion" = some m.cls := findClass_of_methodNamed Bd.named
  have hnm := (name_of_methodNamed Bd.named Bd.method).1
  have X0 : Stand p l e ({ frames := 5, cells := 3, slots := 27, locals := 66 } : Room) s m #[] below meth c s₁ [] 0 0 := Stand.of_body Bd
  have e0 : s₁.heap = h0 := by rw [← hh, Bd.state]; rfl
  have N0 := Fr.nil n0
  have K0 : Keep h0 h0 [] := Keep.refl _ _
  have pre0 : ∀ t, Steps p.tables e below (s₁.setTop (mkF m 0 #[] [])) t → Steps p.tables e below (s₁.setTop (entryFrame m #[] 0)) t := fun t k => castTop (own_ef_ini m ) k
  obtain ⟨T1, h1, X1, e1, E1, A1, D1, -, st1⟩ := newO X0 hx hZ hown (hw _ (List.mem_of_getElem? (i := 52) rfl)) (hw _ (List.mem_of_getElem? (i := 2) rfl)) (hw _ (List.mem_of_getElem? (i := 3) rfl)) e0 (g := (mkF m 0 #[] [])) rfl (hb hby own_d_prog_13_method_2_0) (by decide) (by decide)
  obtain ⟨b1, g1⟩ : ∃ z, z = h0.size := ⟨_, rfl⟩
  rw [← g1] at A1 D1 st1
  have sz_b1 : h0.size ≤ b1 := Nat.le_trans K0.1 (Nat.le_of_eq g1.symm)
  have gn_b1 : n0 ≤ b1 := Nat.le_trans Z0 sz_b1
  have f2 := S0.ext E1
  have k3 := K0.ext E1
  have f4 : Fld Z h1 b1 "com/example/interleave/interleave/check/Expansion" "found" "Ljava/util/List;" .null := D1 (Or.inr (hw _ (List.mem_of_getElem? (i := 35) rfl))) (ty := (.object "java/util/List")) (by decide)
  have f5 : Fld Z h1 b1 "com/example/interleave/interleave/check/Expansion" "printed" "Ljava/util/List;" .null := D1 (Or.inr (hw _ (List.mem_of_getElem? (i := 37) rfl))) (ty := (.object "java/util/List")) (by decide)
  have f6 : Fld Z h1 b1 "com/example/interleave/interleave/check/Expansion" "sourceId" "I" (.int (0 : Int32)) := D1 (Or.inr (hw _ (List.mem_of_getElem? (i := 39) rfl))) (ty := .int) (by decide)
  have f7 : Fld Z h1 b1 "com/example/interleave/interleave/check/Expansion" "sourceParent" "I" (.int (0 : Int32)) := D1 (Or.inr (hw _ (List.mem_of_getElem? (i := 41) rfl))) (ty := .int) (by decide)
  have f8 : Fld Z h1 b1 "com/example/interleave/interleave/check/Expansion" "sourceBytes" "[B" .null := D1 (Or.inr (hw _ (List.mem_of_getElem? (i := 43) rfl))) (ty := (.array .byte)) (by decide)
  have zs9 : n0 ≤ h1.size := Nat.le_trans Z0 k3.1
  obtain ⟨_, _, ⟨T10, L10, k10, n10⟩, -, X10, ⟨Lc10, hQ10, l10, y10, z10⟩, st10⟩ := X1.specialBack hx (y := (⟨"com/example/interleave/interleave/check/Expansion", "<init>", "(II[B)V"⟩ : MethodName)) rfl hown (mvT hZ (hw _ (List.mem_of_getElem? (i := 53) rfl))) (mvT hZ (hw _ (List.mem_of_getElem? (i := 5) rfl))) (mvT hZ (hw _ (List.mem_of_getElem? (i := 6) rfl))) (by decide) (backOf (W := 1) (own_rm_exN l Z a0 hw [] b1 (-1 : Int32) (-1 : Int32) aS h1 n0 zs9 f2 A1 f4 f5 f6 f7 f8 gn_b1) hZ (hw _ (List.mem_of_getElem? (i := 6) rfl)) (hw _ (List.mem_of_getElem? (i := 3) rfl)) (by decide) (by decide)) (g := (mkF m 7 #[] [.null, (.int (-1 : Int32)), (.int (-1 : Int32)), (.ref b1), (.ref b1)])) rfl (by rw [hml]; rfl) (Steps.refl _) (a := b1) (argsL := [(.int (-1 : Int32)), (.int (-1 : Int32)), .null]) (rest := [(.ref b1)]) (lenOf own_pd1 rfl) rfl (by show 2 * 0 + _ ≤ _; exact Nat.le_of_eq rfl) (hb hby own_d_prog_13_method_2_7) (fun _ _ => ⟨rfl, e1, (by decide : 1 + 2 ≤ _), (by decide : 21 + 6 ≤ _)⟩)
  dsimp only [Pt.U, Pt.locs, Pt.cells, Pt.slots] at X10 l10 y10 z10 st10 hQ10
  subst l10 y10 z10
  obtain ⟨rfl, N11, K11, c11_0, c11_1, c11_2⟩ := hQ10
  have f12 := own_sta_keep f2 K11 (own_pl_cons A1 all0)
  have f13 := A1.keep K11
  have k14 := k3.trans K11 (allS (Or.inr sz_b1) all0)
  have nf15 := Fr.app N0 N11
  have pre16 : ∀ t, Steps p.tables e below (T10.setTop (mkF m 10 #[] [(.ref b1)])) t → Steps p.tables e below (s₁.setTop (entryFrame m #[] 0)) t := by
    intro t kt
    refine pre0 t ?_
    show Steps p.tables e below (s₁.setTop (mkF m 0 #[] [])) _
    refine st1 _ ?_
    show Steps p.tables e below (T1.setTop (mkF m 3 #[] [(.ref b1)])) _
    refine XS.dup X1.here hx rfl (hb hby own_d_prog_13_method_2_3) rfl rfl ?_
    show Steps p.tables e below (T1.setTop (mkF m 4 #[] [(.ref b1), (.ref b1)])) _
    refine XS.iconst X1.here hx rfl (hb hby own_d_prog_13_method_2_4) ?_
    show Steps p.tables e below (T1.setTop (mkF m 5 #[] [(.int (-1 : Int32)), (.ref b1), (.ref b1)])) _
    refine XS.iconst X1.here hx rfl (hb hby own_d_prog_13_method_2_5) ?_
    show Steps p.tables e below (T1.setTop (mkF m 6 #[] [(.int (-1 : Int32)), (.int (-1 : Int32)), (.ref b1), (.ref b1)])) _
    refine XS.aconstNull X1.here hx rfl (hb hby own_d_prog_13_method_2_6) ?_
    show Steps p.tables e below (T1.setTop (mkF m 7 #[] [.null, (.int (-1 : Int32)), (.int (-1 : Int32)), (.ref b1), (.ref b1)])) _
    refine st10.trans ?_
    exact kt
  obtain ⟨fs, hr, hrun, hended, hW, hsame⟩ := X10.leave (v := some (.ref b1)) (fun h => by rw [Bd.returns] at h; cases h)
  refine ⟨_, _, pre16 _ ?_, hrun, hended, _, _, rfl, ?_, ⟨_, rfl⟩, hW, hsame.mono (by decide) (by decide)⟩
  · show Steps p.tables e below (T10.setTop (mkF m 10 #[] [(.ref b1)])) _
    jvm_step X10.here [X10.here.top, hx, (hb hby own_d_prog_13_method_2_10), X10.method', Bd.returns, Value.isRef, FieldType.isReference]
    first | (intro acts; rw [hr _ acts rfl rfl rfl]) | rw [hr _ _ rfl rfl rfl]
    exact Steps.refl _
  · show own_Q_ini Z aS h0 n0 (some (.ref b1)) T10.heap _
    skip
    exact ⟨_, rfl, nf15, k14, sz_b1, f13, c11_2⟩
theorem own_pd2 : parseMethodDescriptor "()Z" = some ⟨[], some .boolean⟩ := by decide +kernel
theorem own_pd3 : parseMethodDescriptor "()Lcom/example/interleave/interleave/check/Expansion;" = some ⟨[], some (.object "com/example/interleave/interleave/check/Expansion")⟩ := by decide +kernel
theorem own_pn4 : plainName "com/example/interleave/interleave/check/ExpansionIsInitialPinLaw" = true := by first | (simp [plainName, overriddenIn]; done) | decide +kernel
theorem own_ef_law (m : MethodId) (p0 : Int32) (p1 : Int32) (p2 : Int32) (p3 : Int32) (p4 : Int32) (p5 : Int32) : entryFrame m #[(.int p0), (.int p1), (.int p2), (.int p3), (.int p4), (.int p5)] maxLocals = mkF m 0 #[.val (.int p0), .val (.int p1), .val (.int p2), .val (.int p3), .val (.int p4), .val (.int p5), .unset, .unset, .unset, .unset, .unset, .unset, .unset] [] := by first | (simp [entryFrame, mkF, argsToLocals, Value.category, maxLocals]; done) | rfl
def own_Q_law (Z : State) (p0 : Int32) (p1 : Int32) (p2 : Int32) (p3 : Int32) (p4 : Int32) (p5 : Int32) (aS : Addr) (h0 : Heap) (n0 : Nat) (v : Option Value) (h : Heap) (L : List Loc) : Prop := v = some (.int 1) ∧ Fr n0 L
set_option maxRecDepth 65536 in
set_option maxHeartbeats 40000000 in
theorem own_rm_law (l : Launch) (Z : State) (a0 : Array Value) (hw : ∀ d ∈ tables_1, d.before a0 Z = true) (ws : List Jvm.Cond) (p0 : Int32) (p1 : Int32) (p2 : Int32) (p3 : Int32) (p4 : Int32) (p5 : Int32) (aS : Addr) (h0 : Heap) (n0 : Nat) (Z0 : n0 ≤ h0.size) (S0 : Sta Z h0 "java/util/ArrayList" "DEFAULTCAPACITY_EMPTY_ELEMENTDATA" "[Ljava/lang/Object;" (.ref aS)) :
    MetFree l x (head1 (Jvm.Cond.code x code maxLocals ret :: ws) room_1) (fun a U => a = #[(.int p0), (.int p1), (.int p2), (.int p3), (.int p4), (.int p5)] ∧ Z.Warmed39 U.vm ∧ U.heap = h0) (fun _ _ _ _ _ => True) (fun _ U o U' => ∃ v L, o = .returned v ∧ own_Q_law Z p0 p1 p2 p3 p4 p5 aS h0 n0 v U'.heap L ∧ FrameEnd U o U' L room_1.cells room_1.slots) := by
  refine MetFree.of_bodySF (plainFor_of_name own_pn4) hisR ?_
  intro p e s m args below meth c s₁ Bd hml0 hP hK
  obtain ⟨rfl, hZ, hh⟩ := hP
  have hx := Bd.exec
  have hby := Bd.bytes
  have hml : c.maxLocals = 13 := hml0
  have hown : s.vm.findClass "com/example/interleave/interleave/check/ExpansionIsInitialPinLaw" = some m.cls := findClass_of_methodNamed Bd.named
  have hnm := (name_of_methodNamed Bd.named Bd.method).1
  have X0 : Stand p l e room_1 s m #[(.int p0), (.int p1), (.int p2), (.int p3), (.int p4), (.int p5)] below meth c s₁ [] 0 0 := Stand.of_body Bd
  have e0 : s₁.heap = h0 := by rw [← hh, Bd.state]; rfl
  have N0 := Fr.nil n0
  have K0 : Keep h0 h0 [] := Keep.refl _ _
  have pre0 : ∀ t, Steps p.tables e below (s₁.setTop (mkF m 0 #[.val (.int p0), .val (.int p1), .val (.int p2), .val (.int p3), .val (.int p4), .val (.int p5), .unset, .unset, .unset, .unset, .unset, .unset, .unset] [])) t → Steps p.tables e below (s₁.setTop (entryFrame m #[(.int p0), (.int p1), (.int p2), (.int p3), (.int p4), (.int p5)] maxLocals)) t := fun t k => castTop (own_ef_law m p0 p1 p2 p3 p4 p5) k
  have pre1 : ∀ t, Steps p.tables e below (s₁.setTop (mkF m 3 #[.val (.int p0), .val (.int p1), .val (.int p2), .val (.int p3), .val (.int p4), .val (.int p5), .unset, .unset, .unset, .unset, .unset, .unset, .unset] [(.int (p2 &&& (4 : Int32)))])) t → Steps p.tables e below (s₁.setTop (entryFrame m #[(.int p0), (.int p1), (.int p2), (.int p3), (.int p4), (.int p5)] maxLocals)) t := by
    intro t kt
    refine pre0 t ?_
    show Steps p.tables e below (s₁.setTop (mkF m 0 #[.val (.int p0), .val (.int p1), .val (.int p2), .val (.int p3), .val (.int p4), .val (.int p5), .unset, .unset, .unset, .unset, .unset, .unset, .unset] [])) _
    refine XS.iloadN X0.here hx rfl (hb hby at_0) rfl ?_
    show Steps p.tables e below (s₁.setTop (mkF m 1 #[.val (.int p0), .val (.int p1), .val (.int p2), .val (.int p3), .val (.int p4), .val (.int p5), .unset, .unset, .unset, .unset, .unset, .unset, .unset] [(.int p2)])) _
    refine XS.iconst X0.here hx rfl (hb hby at_1) ?_
    show Steps p.tables e below (s₁.setTop (mkF m 2 #[.val (.int p0), .val (.int p1), .val (.int p2), .val (.int p3), .val (.int p4), .val (.int p5), .unset, .unset, .unset, .unset, .unset, .unset, .unset] [(.int (4 : Int32)), (.int p2)])) _
    refine XS.iand X0.here hx rfl (hb hby at_2) rfl ?_
    exact kt
  by_cases hc2 : (p2 &&& (4 : Int32)) = (0 : Int32)
  · obtain ⟨T3, h3, k3, X3, e3, E3, A3, I3, st3⟩ := newPE X0 hx hZ (hw _ (List.mem_of_getElem? (i := 0) rfl)) e0 (g := (mkF m 28 #[.val (.int p0), .val (.int p1), .val (.int p2), .val (.int p3), .val (.int p4), .val (.int p5), .val (.int (0 : Int32)), .val (.int (p2 &&& (3 : Int32))), .val .null, .unset, .unset, .unset, .unset] [(.int (p2 &&& (3 : Int32)))])) rfl (hb hby at_28) rfl (own_nn (own_n3 p2).1) (cap := 3) (own_cap (own_n3 p2).2) (by decide) (by decide) (by decide) (ad := "[B") rfl
    obtain ⟨b3, g3⟩ : ∃ z, z = h0.size := ⟨_, rfl⟩
    rw [← g3] at A3 I3 st3
    have sz_b3 : h0.size ≤ b3 := Nat.le_trans K0.1 (Nat.le_of_eq g3.symm)
    have gn_b3 : n0 ≤ b3 := Nat.le_trans Z0 sz_b3
    have f4 := S0.ext E3
    have k5 := K0.ext E3
    have f6 : own_L Z h3 b3 .byte (p2 &&& (3 : Int32)) := ⟨_, A3, sz_new _ _ _⟩
    have pre7 : ∀ t, Steps p.tables e below (T3.setTop (mkF m 34 #[.val (.int p0), .val (.int p1), .val (.int p2), .val (.int p3), .val (.int p4), .val (.int p5), .val (.int (0 : Int32)), .val (.int (p2 &&& (3 : Int32))), .val (.ref b3), .unset, .unset, .unset, .unset] [(.int (p2 &&& (3 : Int32)))])) t → Steps p.tables e below (s₁.setTop (entryFrame m #[(.int p0), (.int p1), (.int p2), (.int p3), (.int p4), (.int p5)] maxLocals)) t := by
      intro t kt
      refine pre1 t ?_
      show Steps p.tables e below (s₁.setTop (mkF m 3 #[.val (.int p0), .val (.int p1), .val (.int p2), .val (.int p3), .val (.int p4), .val (.int p5), .unset, .unset, .unset, .unset, .unset, .unset, .unset] [(.int (p2 &&& (4 : Int32)))])) _
      refine XS.ifYes X0.here hx rfl (pc0 := 3) (pc' := 10) rfl (hb hby at_3) rfl ((if0 _ _).trans (teq hc2).1) (by decide) (by decide) ?_
      show Steps p.tables e below (s₁.setTop (mkF m 10 #[.val (.int p0), .val (.int p1), .val (.int p2), .val (.int p3), .val (.int p4), .val (.int p5), .unset, .unset, .unset, .unset, .unset, .unset, .unset] [])) _
      refine XS.iconst X0.here hx rfl (hb hby at_10) ?_
      show Steps p.tables e below (s₁.setTop (mkF m 11 #[.val (.int p0), .val (.int p1), .val (.int p2), .val (.int p3), .val (.int p4), .val (.int p5), .unset, .unset, .unset, .unset, .unset, .unset, .unset] [(.int (0 : Int32))])) _
      refine XS.istore X0.here hx rfl (hb hby at_11) rfl (l' := #[.val (.int p0), .val (.int p1), .val (.int p2), .val (.int p3), .val (.int p4), .val (.int p5), .val (.int (0 : Int32)), .unset, .unset, .unset, .unset, .unset, .unset]) rfl ?_
      show Steps p.tables e below (s₁.setTop (mkF m 13 #[.val (.int p0), .val (.int p1), .val (.int p2), .val (.int p3), .val (.int p4), .val (.int p5), .val (.int (0 : Int32)), .unset, .unset, .unset, .unset, .unset, .unset] [])) _
      refine XS.iloadN X0.here hx rfl (hb hby at_13) rfl ?_
      show Steps p.tables e below (s₁.setTop (mkF m 14 #[.val (.int p0), .val (.int p1), .val (.int p2), .val (.int p3), .val (.int p4), .val (.int p5), .val (.int (0 : Int32)), .unset, .unset, .unset, .unset, .unset, .unset] [(.int p2)])) _
      refine XS.iconst X0.here hx rfl (hb hby at_14) ?_
      show Steps p.tables e below (s₁.setTop (mkF m 15 #[.val (.int p0), .val (.int p1), .val (.int p2), .val (.int p3), .val (.int p4), .val (.int p5), .val (.int (0 : Int32)), .unset, .unset, .unset, .unset, .unset, .unset] [(.int (3 : Int32)), (.int p2)])) _
      refine XS.iand X0.here hx rfl (hb hby at_15) rfl ?_
      show Steps p.tables e below (s₁.setTop (mkF m 16 #[.val (.int p0), .val (.int p1), .val (.int p2), .val (.int p3), .val (.int p4), .val (.int p5), .val (.int (0 : Int32)), .unset, .unset, .unset, .unset, .unset, .unset] [(.int (p2 &&& (3 : Int32)))])) _
      refine XS.istore X0.here hx rfl (hb hby at_16) rfl (l' := #[.val (.int p0), .val (.int p1), .val (.int p2), .val (.int p3), .val (.int p4), .val (.int p5), .val (.int (0 : Int32)), .val (.int (p2 &&& (3 : Int32))), .unset, .unset, .unset, .unset, .unset]) rfl ?_
      show Steps p.tables e below (s₁.setTop (mkF m 18 #[.val (.int p0), .val (.int p1), .val (.int p2), .val (.int p3), .val (.int p4), .val (.int p5), .val (.int (0 : Int32)), .val (.int (p2 &&& (3 : Int32))), .unset, .unset, .unset, .unset, .unset] [])) _
      refine XS.aconstNull X0.here hx rfl (hb hby at_18) ?_
      show Steps p.tables e below (s₁.setTop (mkF m 19 #[.val (.int p0), .val (.int p1), .val (.int p2), .val (.int p3), .val (.int p4), .val (.int p5), .val (.int (0 : Int32)), .val (.int (p2 &&& (3 : Int32))), .unset, .unset, .unset, .unset, .unset] [.null])) _
      refine XS.astore X0.here hx rfl (hb hby at_19) rfl rfl (l' := #[.val (.int p0), .val (.int p1), .val (.int p2), .val (.int p3), .val (.int p4), .val (.int p5), .val (.int (0 : Int32)), .val (.int (p2 &&& (3 : Int32))), .val .null, .unset, .unset, .unset, .unset]) rfl ?_
      show Steps p.tables e below (s₁.setTop (mkF m 21 #[.val (.int p0), .val (.int p1), .val (.int p2), .val (.int p3), .val (.int p4), .val (.int p5), .val (.int (0 : Int32)), .val (.int (p2 &&& (3 : Int32))), .val .null, .unset, .unset, .unset, .unset] [])) _
      refine XS.iload X0.here hx rfl (hb hby at_21) rfl ?_
      show Steps p.tables e below (s₁.setTop (mkF m 23 #[.val (.int p0), .val (.int p1), .val (.int p2), .val (.int p3), .val (.int p4), .val (.int p5), .val (.int (0 : Int32)), .val (.int (p2 &&& (3 : Int32))), .val .null, .unset, .unset, .unset, .unset] [(.int (0 : Int32))])) _
      refine XS.ifNo X0.here hx rfl (hb hby at_23) rfl ((if0 _ _).trans (teq (rfl : (0 : Int32) = (0 : Int32))).2) ?_
      show Steps p.tables e below (s₁.setTop (mkF m 26 #[.val (.int p0), .val (.int p1), .val (.int p2), .val (.int p3), .val (.int p4), .val (.int p5), .val (.int (0 : Int32)), .val (.int (p2 &&& (3 : Int32))), .val .null, .unset, .unset, .unset, .unset] [])) _
      refine XS.iload X0.here hx rfl (hb hby at_26) rfl ?_
      show Steps p.tables e below (s₁.setTop (mkF m 28 #[.val (.int p0), .val (.int p1), .val (.int p2), .val (.int p3), .val (.int p4), .val (.int p5), .val (.int (0 : Int32)), .val (.int (p2 &&& (3 : Int32))), .val .null, .unset, .unset, .unset, .unset] [(.int (p2 &&& (3 : Int32)))])) _
      refine st3 _ ?_
      show Steps p.tables e below (T3.setTop (mkF m 30 #[.val (.int p0), .val (.int p1), .val (.int p2), .val (.int p3), .val (.int p4), .val (.int p5), .val (.int (0 : Int32)), .val (.int (p2 &&& (3 : Int32))), .val .null, .unset, .unset, .unset, .unset] [(.ref b3)])) _
      refine XS.astore X3.here hx rfl (hb hby at_30) rfl rfl (l' := #[.val (.int p0), .val (.int p1), .val (.int p2), .val (.int p3), .val (.int p4), .val (.int p5), .val (.int (0 : Int32)), .val (.int (p2 &&& (3 : Int32))), .val (.ref b3), .unset, .unset, .unset, .unset]) rfl ?_
      show Steps p.tables e below (T3.setTop (mkF m 32 #[.val (.int p0), .val (.int p1), .val (.int p2), .val (.int p3), .val (.int p4), .val (.int p5), .val (.int (0 : Int32)), .val (.int (p2 &&& (3 : Int32))), .val (.ref b3), .unset, .unset, .unset, .unset] [])) _
      refine XS.iload X3.here hx rfl (hb hby at_32) rfl ?_
      exact kt
    by_cases hc8 : (0 : Int32) < (p2 &&& (3 : Int32))
    · obtain ⟨cl9, Ar9, S9⟩ := id f6
      have hin9 : ¬ ((0 : Int32) < 0 ∨ cl9.slots.size ≤ ((0 : Int32)).toNatClampNeg) := inb_of S9 ⟨by decide, hc8⟩
      obtain ⟨T10, h10, X10, e10, W10, st10⟩ := stB X3 hx hZ e3 Ar9 (j := (0 : Int32)) hin9 (g := (mkF m 42 #[.val (.int p0), .val (.int p1), .val (.int p2), .val (.int p3), .val (.int p4), .val (.int p5), .val (.int (0 : Int32)), .val (.int (p2 &&& (3 : Int32))), .val (.ref b3), .unset, .unset, .unset, .unset] [(.int (p3.toInt8.toInt32)), (.int (0 : Int32)), (.ref b3)])) rfl rfl (hb hby at_42)
      have f11 := f4.wr W10
      have f12 := I3.wr W10
      have k14 := k5.wr W10 (Or.inr sz_b3)
      have nf15 := Fr.snoc X10 N0 gn_b3
      have f16 := f6.same W10
      have pre17 : ∀ t, Steps p.tables e below (T10.setTop (mkF m 46 #[.val (.int p0), .val (.int p1), .val (.int p2), .val (.int p3), .val (.int p4), .val (.int p5), .val (.int (0 : Int32)), .val (.int (p2 &&& (3 : Int32))), .val (.ref b3), .unset, .unset, .unset, .unset] [(.int (1 : Int32)), (.int (p2 &&& (3 : Int32)))])) t → Steps p.tables e below (s₁.setTop (entryFrame m #[(.int p0), (.int p1), (.int p2), (.int p3), (.int p4), (.int p5)] maxLocals)) t := by
        intro t kt
        refine pre7 t ?_
        show Steps p.tables e below (T3.setTop (mkF m 34 #[.val (.int p0), .val (.int p1), .val (.int p2), .val (.int p3), .val (.int p4), .val (.int p5), .val (.int (0 : Int32)), .val (.int (p2 &&& (3 : Int32))), .val (.ref b3), .unset, .unset, .unset, .unset] [(.int (p2 &&& (3 : Int32)))])) _
        refine XS.ifNo X3.here hx rfl (hb hby at_34) rfl ((if0 _ _).trans (tlt hc8).2.2.2) ?_
        show Steps p.tables e below (T3.setTop (mkF m 37 #[.val (.int p0), .val (.int p1), .val (.int p2), .val (.int p3), .val (.int p4), .val (.int p5), .val (.int (0 : Int32)), .val (.int (p2 &&& (3 : Int32))), .val (.ref b3), .unset, .unset, .unset, .unset] [])) _
        refine XS.aload X3.here hx rfl (hb hby at_37) rfl rfl ?_
        show Steps p.tables e below (T3.setTop (mkF m 39 #[.val (.int p0), .val (.int p1), .val (.int p2), .val (.int p3), .val (.int p4), .val (.int p5), .val (.int (0 : Int32)), .val (.int (p2 &&& (3 : Int32))), .val (.ref b3), .unset, .unset, .unset, .unset] [(.ref b3)])) _
        refine XS.iconst X3.here hx rfl (hb hby at_39) ?_
        show Steps p.tables e below (T3.setTop (mkF m 40 #[.val (.int p0), .val (.int p1), .val (.int p2), .val (.int p3), .val (.int p4), .val (.int p5), .val (.int (0 : Int32)), .val (.int (p2 &&& (3 : Int32))), .val (.ref b3), .unset, .unset, .unset, .unset] [(.int (0 : Int32)), (.ref b3)])) _
        refine XS.iloadN X3.here hx rfl (hb hby at_40) rfl ?_
        show Steps p.tables e below (T3.setTop (mkF m 41 #[.val (.int p0), .val (.int p1), .val (.int p2), .val (.int p3), .val (.int p4), .val (.int p5), .val (.int (0 : Int32)), .val (.int (p2 &&& (3 : Int32))), .val (.ref b3), .unset, .unset, .unset, .unset] [(.int p3), (.int (0 : Int32)), (.ref b3)])) _
        refine XS.i2b X3.here hx rfl (hb hby at_41) rfl ?_
        show Steps p.tables e below (T3.setTop (mkF m 42 #[.val (.int p0), .val (.int p1), .val (.int p2), .val (.int p3), .val (.int p4), .val (.int p5), .val (.int (0 : Int32)), .val (.int (p2 &&& (3 : Int32))), .val (.ref b3), .unset, .unset, .unset, .unset] [(.int (p3.toInt8.toInt32)), (.int (0 : Int32)), (.ref b3)])) _
        refine st10 _ ?_
        show Steps p.tables e below (T10.setTop (mkF m 43 #[.val (.int p0), .val (.int p1), .val (.int p2), .val (.int p3), .val (.int p4), .val (.int p5), .val (.int (0 : Int32)), .val (.int (p2 &&& (3 : Int32))), .val (.ref b3), .unset, .unset, .unset, .unset] [])) _
        refine XS.iload X10.here hx rfl (hb hby at_43) rfl ?_
        show Steps p.tables e below (T10.setTop (mkF m 45 #[.val (.int p0), .val (.int p1), .val (.int p2), .val (.int p3), .val (.int p4), .val (.int p5), .val (.int (0 : Int32)), .val (.int (p2 &&& (3 : Int32))), .val (.ref b3), .unset, .unset, .unset, .unset] [(.int (p2 &&& (3 : Int32)))])) _
        refine XS.iconst X10.here hx rfl (hb hby at_45) ?_
        exact kt
      by_cases hc18 : (1 : Int32) < (p2 &&& (3 : Int32))
      · obtain ⟨cl19, Ar19, S19⟩ := id f16
        have hin19 : ¬ ((1 : Int32) < 0 ∨ cl19.slots.size ≤ ((1 : Int32)).toNatClampNeg) := inb_of S19 ⟨by decide, hc18⟩
        obtain ⟨T20, h20, X20, e20, W20, st20⟩ := stB X10 hx hZ e10 Ar19 (j := (1 : Int32)) hin19 (g := (mkF m 55 #[.val (.int p0), .val (.int p1), .val (.int p2), .val (.int p3), .val (.int p4), .val (.int p5), .val (.int (0 : Int32)), .val (.int (p2 &&& (3 : Int32))), .val (.ref b3), .unset, .unset, .unset, .unset] [(.int (p4.toInt8.toInt32)), (.int (1 : Int32)), (.ref b3)])) rfl rfl (hb hby at_55)
        have f21 := f11.wr W20
        have f22 := f12.wr W20
        have k24 := k14.wr W20 (Or.inr sz_b3)
        have nf25 := Fr.snoc X20 nf15 gn_b3
        have f26 := f16.same W20
        have pre27 : ∀ t, Steps p.tables e below (T20.setTop (mkF m 59 #[.val (.int p0), .val (.int p1), .val (.int p2), .val (.int p3), .val (.int p4), .val (.int p5), .val (.int (0 : Int32)), .val (.int (p2 &&& (3 : Int32))), .val (.ref b3), .unset, .unset, .unset, .unset] [(.int (2 : Int32)), (.int (p2 &&& (3 : Int32)))])) t → Steps p.tables e below (s₁.setTop (entryFrame m #[(.int p0), (.int p1), (.int p2), (.int p3), (.int p4), (.int p5)] maxLocals)) t := by
          intro t kt
          refine pre17 t ?_
          show Steps p.tables e below (T10.setTop (mkF m 46 #[.val (.int p0), .val (.int p1), .val (.int p2), .val (.int p3), .val (.int p4), .val (.int p5), .val (.int (0 : Int32)), .val (.int (p2 &&& (3 : Int32))), .val (.ref b3), .unset, .unset, .unset, .unset] [(.int (1 : Int32)), (.int (p2 &&& (3 : Int32)))])) _
          refine XS.icmpNo X10.here hx rfl (hb hby at_46) rfl (tlt hc18).2.2.2 ?_
          show Steps p.tables e below (T10.setTop (mkF m 49 #[.val (.int p0), .val (.int p1), .val (.int p2), .val (.int p3), .val (.int p4), .val (.int p5), .val (.int (0 : Int32)), .val (.int (p2 &&& (3 : Int32))), .val (.ref b3), .unset, .unset, .unset, .unset] [])) _
          refine XS.aload X10.here hx rfl (hb hby at_49) rfl rfl ?_
          show Steps p.tables e below (T10.setTop (mkF m 51 #[.val (.int p0), .val (.int p1), .val (.int p2), .val (.int p3), .val (.int p4), .val (.int p5), .val (.int (0 : Int32)), .val (.int (p2 &&& (3 : Int32))), .val (.ref b3), .unset, .unset, .unset, .unset] [(.ref b3)])) _
          refine XS.iconst X10.here hx rfl (hb hby at_51) ?_
          show Steps p.tables e below (T10.setTop (mkF m 52 #[.val (.int p0), .val (.int p1), .val (.int p2), .val (.int p3), .val (.int p4), .val (.int p5), .val (.int (0 : Int32)), .val (.int (p2 &&& (3 : Int32))), .val (.ref b3), .unset, .unset, .unset, .unset] [(.int (1 : Int32)), (.ref b3)])) _
          refine XS.iload X10.here hx rfl (hb hby at_52) rfl ?_
          show Steps p.tables e below (T10.setTop (mkF m 54 #[.val (.int p0), .val (.int p1), .val (.int p2), .val (.int p3), .val (.int p4), .val (.int p5), .val (.int (0 : Int32)), .val (.int (p2 &&& (3 : Int32))), .val (.ref b3), .unset, .unset, .unset, .unset] [(.int p4), (.int (1 : Int32)), (.ref b3)])) _
          refine XS.i2b X10.here hx rfl (hb hby at_54) rfl ?_
          show Steps p.tables e below (T10.setTop (mkF m 55 #[.val (.int p0), .val (.int p1), .val (.int p2), .val (.int p3), .val (.int p4), .val (.int p5), .val (.int (0 : Int32)), .val (.int (p2 &&& (3 : Int32))), .val (.ref b3), .unset, .unset, .unset, .unset] [(.int (p4.toInt8.toInt32)), (.int (1 : Int32)), (.ref b3)])) _
          refine st20 _ ?_
          show Steps p.tables e below (T20.setTop (mkF m 56 #[.val (.int p0), .val (.int p1), .val (.int p2), .val (.int p3), .val (.int p4), .val (.int p5), .val (.int (0 : Int32)), .val (.int (p2 &&& (3 : Int32))), .val (.ref b3), .unset, .unset, .unset, .unset] [])) _
          refine XS.iload X20.here hx rfl (hb hby at_56) rfl ?_
          show Steps p.tables e below (T20.setTop (mkF m 58 #[.val (.int p0), .val (.int p1), .val (.int p2), .val (.int p3), .val (.int p4), .val (.int p5), .val (.int (0 : Int32)), .val (.int (p2 &&& (3 : Int32))), .val (.ref b3), .unset, .unset, .unset, .unset] [(.int (p2 &&& (3 : Int32)))])) _
          refine XS.iconst X20.here hx rfl (hb hby at_58) ?_
          exact kt
        by_cases hc28 : (2 : Int32) < (p2 &&& (3 : Int32))
        · obtain ⟨cl29, Ar29, S29⟩ := id f26
          have hin29 : ¬ ((2 : Int32) < 0 ∨ cl29.slots.size ≤ ((2 : Int32)).toNatClampNeg) := inb_of S29 ⟨by decide, hc28⟩
          obtain ⟨T30, h30, X30, e30, W30, st30⟩ := stB X20 hx hZ e20 Ar29 (j := (2 : Int32)) hin29 (g := (mkF m 68 #[.val (.int p0), .val (.int p1), .val (.int p2), .val (.int p3), .val (.int p4), .val (.int p5), .val (.int (0 : Int32)), .val (.int (p2 &&& (3 : Int32))), .val (.ref b3), .unset, .unset, .unset, .unset] [(.int (p5.toInt8.toInt32)), (.int (2 : Int32)), (.ref b3)])) rfl rfl (hb hby at_68)
          have f31 := f21.wr W30
          have f32 := f22.wr W30
          have k34 := k24.wr W30 (Or.inr sz_b3)
          have nf35 := Fr.snoc X30 nf25 gn_b3
          have f36 := f26.same W30
          obtain ⟨T37, h37, X37, e37, E37, A37, D37, -, st37⟩ := newO X30 hx hZ hown (hw _ (List.mem_of_getElem? (i := 1) rfl)) (hw _ (List.mem_of_getElem? (i := 2) rfl)) (hw _ (List.mem_of_getElem? (i := 3) rfl)) e30 (g := (mkF m 69 #[.val (.int p0), .val (.int p1), .val (.int p2), .val (.int p3), .val (.int p4), .val (.int p5), .val (.int (0 : Int32)), .val (.int (p2 &&& (3 : Int32))), .val (.ref b3), .unset, .unset, .unset, .unset] [])) rfl (hb hby at_69) (by decide) (by decide)
          obtain ⟨b37, g37⟩ : ∃ z, z = h30.size := ⟨_, rfl⟩
          rw [← g37] at A37 D37 st37
          have sz_b37 : h0.size ≤ b37 := Nat.le_trans k34.1 (Nat.le_of_eq g37.symm)
          have gn_b37 : n0 ≤ b37 := Nat.le_trans Z0 sz_b37
          have ne_b3_b37 : b3 ≠ b37 := Nat.ne_of_lt (Nat.lt_of_lt_of_le f36.lt (Nat.le_of_eq g37.symm))
          have f38 := f31.ext E37
          have f39 := f32.ext E37
          have f40 := f36.ext E37
          have k41 := k34.ext E37
          have f42 : Fld Z h37 b37 "com/example/interleave/interleave/check/Expansion" "found" "Ljava/util/List;" .null := D37 (Or.inr (hw _ (List.mem_of_getElem? (i := 35) rfl))) (ty := (.object "java/util/List")) (by decide)
          have f43 : Fld Z h37 b37 "com/example/interleave/interleave/check/Expansion" "printed" "Ljava/util/List;" .null := D37 (Or.inr (hw _ (List.mem_of_getElem? (i := 37) rfl))) (ty := (.object "java/util/List")) (by decide)
          have f44 : Fld Z h37 b37 "com/example/interleave/interleave/check/Expansion" "sourceId" "I" (.int (0 : Int32)) := D37 (Or.inr (hw _ (List.mem_of_getElem? (i := 39) rfl))) (ty := .int) (by decide)
          have f45 : Fld Z h37 b37 "com/example/interleave/interleave/check/Expansion" "sourceParent" "I" (.int (0 : Int32)) := D37 (Or.inr (hw _ (List.mem_of_getElem? (i := 41) rfl))) (ty := .int) (by decide)
          have f46 : Fld Z h37 b37 "com/example/interleave/interleave/check/Expansion" "sourceBytes" "[B" .null := D37 (Or.inr (hw _ (List.mem_of_getElem? (i := 43) rfl))) (ty := (.array .byte)) (by decide)
          have zs47 : n0 ≤ h37.size := Nat.le_trans Z0 k41.1
          obtain ⟨_, _, ⟨T48, L48, k48, n48⟩, -, X48, ⟨Lc48, hQ48, l48, y48, z48⟩, st48⟩ := X37.specialBack hx (y := (⟨"com/example/interleave/interleave/check/Expansion", "<init>", "(II[B)V"⟩ : MethodName)) rfl hown (mvT hZ (hw _ (List.mem_of_getElem? (i := 4) rfl))) (mvT hZ (hw _ (List.mem_of_getElem? (i := 5) rfl))) (mvT hZ (hw _ (List.mem_of_getElem? (i := 6) rfl))) (by decide) (backOf (W := 1) (own_rm_exR l Z a0 hw [] b37 p0 p1 b3 aS h37 n0 zs47 f38 A37 f42 f43 f44 f45 f46 gn_b37) hZ (hw _ (List.mem_of_getElem? (i := 6) rfl)) (hw _ (List.mem_of_getElem? (i := 3) rfl)) (by decide) (by decide)) (g := (mkF m 77 #[.val (.int p0), .val (.int p1), .val (.int p2), .val (.int p3), .val (.int p4), .val (.int p5), .val (.int (0 : Int32)), .val (.int (p2 &&& (3 : Int32))), .val (.ref b3), .unset, .unset, .unset, .unset] [(.ref b3), (.int p1), (.int p0), (.ref b37), (.ref b37)])) rfl (by rw [hml]; rfl) (Steps.refl _) (a := b37) (argsL := [(.int p0), (.int p1), (.ref b3)]) (rest := [(.ref b37)]) (lenOf own_pd1 rfl) rfl (by show 2 * 0 + _ ≤ _; exact Nat.le_of_eq rfl) (hb hby at_77) (fun _ _ => ⟨rfl, e37, (by decide : 2 + 2 ≤ _), (by decide : 24 + 6 ≤ _)⟩)
          dsimp only [Pt.U, Pt.locs, Pt.cells, Pt.slots] at X48 l48 y48 z48 st48 hQ48
          subst l48 y48 z48
          obtain ⟨rfl, N49, K49, c49_0, c49_1, c49_2⟩ := hQ48
          have f50 := own_sta_keep f38 K49 (own_pl_cons A37 all0)
          have f51 := f39.keep K49
          have f52 := f40.keep K49 (ninS ne_b3_b37 nin0)
          have f53 := A37.keep K49
          have k54 := k41.trans K49 (allS (Or.inr sz_b37) all0)
          have nf55 := Fr.app nf35 N49
          have zs56 : n0 ≤ T48.heap.size := Nat.le_trans Z0 k54.1
          obtain ⟨cq58, kq58, q58a, q58b, q58c⟩ := isOf hZ rfl f53
          obtain ⟨_, _, ⟨T57, L57, k57, n57⟩, -, X57, ⟨Lc57, hQ57, l57, y57, z57⟩, st57⟩ := X48.virtualBack hx (y := (⟨"com/example/interleave/interleave/check/Expansion", "isInitial", "()Z"⟩ : MethodName)) (z := (⟨"com/example/interleave/interleave/check/Expansion", "isInitial", "()Z"⟩ : MethodName)) hown (mvT hZ (hw _ (List.mem_of_getElem? (i := 44) rfl))) (mvT hZ (hw _ (List.mem_of_getElem? (i := 45) rfl))) (notFace_of_selects (args := #[]) (mvT hZ (hw _ (List.mem_of_getElem? (i := 47) rfl)))) (mvT hZ (hw _ (List.mem_of_getElem? (i := 47) rfl))) (mvT hZ (hw _ (List.mem_of_getElem? (i := 46) rfl))) (by decide) (backOf (W := 0) (own_rm_isR l Z a0 hw [] b37 b3 T48.heap n0 zs56 c49_2) hZ (hw _ (List.mem_of_getElem? (i := 48) rfl)) (hw _ (List.mem_of_getElem? (i := 3) rfl)) (by decide) (by decide)) q58a q58c (g := (mkF m 96 #[.val (.int p0), .val (.int p1), .val (.int p2), .val (.int p3), .val (.int p4), .val (.int p5), .val (.int (0 : Int32)), .val (.int (p2 &&& (3 : Int32))), .val (.ref b3), .val (.ref b37), .val (.int (0 : Int32)), .unset, .unset] [(.ref b37)])) rfl (by rw [hml]; rfl) (Steps.refl _) (argsL := []) (rest := []) (lenOf own_pd2 rfl) rfl (by show 2 * 0 + _ ≤ _; exact Nat.le_of_eq rfl) (hb hby at_96) (fun _ _ => ⟨rfl, rfl, (by decide : 4 + 0 ≤ _), (by decide : 30 + 0 ≤ _)⟩)
          dsimp only [Pt.U, Pt.locs, Pt.cells, Pt.slots] at X57 l57 y57 z57 st57 hQ57
          subst l57 y57 z57
          obtain ⟨rfl, N59, eq59⟩ := hQ57
          have nf60 := Fr.app nf55 N59
          have zs61 : n0 ≤ T48.heap.size := Nat.le_trans Z0 k54.1
          obtain ⟨_, _, ⟨T62, L62, k62, n62⟩, -, X62, ⟨Lc62, hQ62, l62, y62, z62⟩, st62⟩ := Jvm.LawKit.callS X57 hx (y := (⟨"com/example/interleave/interleave/check/Expansion", "initial", "()Lcom/example/interleave/interleave/check/Expansion;"⟩ : MethodName)) hown (mvT hZ (hw _ (List.mem_of_getElem? (i := 49) rfl))) (mvT hZ (hw _ (List.mem_of_getElem? (i := 50) rfl))) (mvT hZ (hw _ (List.mem_of_getElem? (i := 3) rfl))) (mvT hZ (hw _ (List.mem_of_getElem? (i := 51) rfl))) (by decide) (backOf (W := 0) (own_rm_ini l Z a0 hw [] aS T48.heap n0 zs61 f50) hZ (hw _ (List.mem_of_getElem? (i := 51) rfl)) (hw _ (List.mem_of_getElem? (i := 3) rfl)) (by decide) (by decide)) (g := (mkF m 101 #[.val (.int p0), .val (.int p1), .val (.int p2), .val (.int p3), .val (.int p4), .val (.int p5), .val (.int (0 : Int32)), .val (.int (p2 &&& (3 : Int32))), .val (.ref b3), .val (.ref b37), .val (.int (0 : Int32)), .val (.int (0 : Int32)), .unset] [])) rfl (by rw [hml]; rfl) (argsL := []) (rest := []) (lenOf own_pd3 rfl) rfl (by show 2 * 0 + _ ≤ _; exact Nat.le_of_eq rfl) (hb hby at_101) (fun _ _ => ⟨rfl, eq59, (by decide : 4 + 3 ≤ _), (by decide : 30 + 27 ≤ _)⟩)
          dsimp only [Pt.U, Pt.locs, Pt.cells, Pt.slots] at X62 l62 y62 z62 st62 hQ62
          subst l62 y62 z62
          obtain ⟨bi63, rfl, N63, K63, c63_0, c63_1, c63_2⟩ := hQ62
          have sz_bi63 : h0.size ≤ bi63 := Nat.le_trans k54.1 c63_0
          have gn_bi63 : n0 ≤ bi63 := Nat.le_trans Z0 sz_bi63
          have ne_b3_bi63 : b3 ≠ bi63 := Nat.ne_of_lt (Nat.lt_of_lt_of_le f52.lt c63_0)
          have ne_b37_bi63 : b37 ≠ bi63 := Nat.ne_of_lt (Nat.lt_of_lt_of_le c49_2.lt c63_0)
          have f64 := own_sta_keep f50 K63 all0
          have f65 := f51.keep K63
          have f66 := f52.keep K63 nin0
          have f67 := f53.keep K63
          have f68 := c49_0.keep K63 nin0
          have f69 := c49_1.keep K63 nin0
          have f70 := c49_2.keep K63 nin0
          have k71 := k54.trans K63 all0
          have nf72 := Fr.app nf60 N63
          have zs73 : n0 ≤ T62.heap.size := Nat.le_trans Z0 k71.1
          obtain ⟨cq75, kq75, q75a, q75b, q75c⟩ := isOf hZ rfl c63_1
          obtain ⟨_, _, ⟨T74, L74, k74, n74⟩, -, X74, ⟨Lc74, hQ74, l74, y74, z74⟩, st74⟩ := X62.virtualBack hx (y := (⟨"com/example/interleave/interleave/check/Expansion", "isInitial", "()Z"⟩ : MethodName)) (z := (⟨"com/example/interleave/interleave/check/Expansion", "isInitial", "()Z"⟩ : MethodName)) hown (mvT hZ (hw _ (List.mem_of_getElem? (i := 44) rfl))) (mvT hZ (hw _ (List.mem_of_getElem? (i := 45) rfl))) (notFace_of_selects (args := #[]) (mvT hZ (hw _ (List.mem_of_getElem? (i := 47) rfl)))) (mvT hZ (hw _ (List.mem_of_getElem? (i := 47) rfl))) (mvT hZ (hw _ (List.mem_of_getElem? (i := 46) rfl))) (by decide) (backOf (W := 0) (own_rm_isN l Z a0 hw [] bi63 T62.heap n0 zs73 c63_2) hZ (hw _ (List.mem_of_getElem? (i := 48) rfl)) (hw _ (List.mem_of_getElem? (i := 3) rfl)) (by decide) (by decide)) q75a q75c (g := (mkF m 104 #[.val (.int p0), .val (.int p1), .val (.int p2), .val (.int p3), .val (.int p4), .val (.int p5), .val (.int (0 : Int32)), .val (.int (p2 &&& (3 : Int32))), .val (.ref b3), .val (.ref b37), .val (.int (0 : Int32)), .val (.int (0 : Int32)), .unset] [(.ref bi63)])) rfl (by rw [hml]; rfl) (Steps.refl _) (argsL := []) (rest := []) (lenOf own_pd2 rfl) rfl (by show 2 * 0 + _ ≤ _; exact Nat.le_of_eq rfl) (hb hby at_104) (fun _ _ => ⟨rfl, rfl, (by decide : 7 + 0 ≤ _), (by decide : 57 + 0 ≤ _)⟩)
          dsimp only [Pt.U, Pt.locs, Pt.cells, Pt.slots] at X74 l74 y74 z74 st74 hQ74
          subst l74 y74 z74
          obtain ⟨rfl, N76, eq76⟩ := hQ74
          have nf77 := Fr.app nf72 N76
          have pre78 : ∀ t, Steps p.tables e below (T74.setTop (mkF m 126 #[.val (.int p0), .val (.int p1), .val (.int p2), .val (.int p3), .val (.int p4), .val (.int p5), .val (.int (0 : Int32)), .val (.int (p2 &&& (3 : Int32))), .val (.ref b3), .val (.ref b37), .val (.int (0 : Int32)), .val (.int (0 : Int32)), .val (.int (1 : Int32))] [(.int (1 : Int32))])) t → Steps p.tables e below (s₁.setTop (entryFrame m #[(.int p0), (.int p1), (.int p2), (.int p3), (.int p4), (.int p5)] maxLocals)) t := by
            intro t kt
            refine pre27 t ?_
            show Steps p.tables e below (T20.setTop (mkF m 59 #[.val (.int p0), .val (.int p1), .val (.int p2), .val (.int p3), .val (.int p4), .val (.int p5), .val (.int (0 : Int32)), .val (.int (p2 &&& (3 : Int32))), .val (.ref b3), .unset, .unset, .unset, .unset] [(.int (2 : Int32)), (.int (p2 &&& (3 : Int32)))])) _
            refine XS.icmpNo X20.here hx rfl (hb hby at_59) rfl (tlt hc28).2.2.2 ?_
            show Steps p.tables e below (T20.setTop (mkF m 62 #[.val (.int p0), .val (.int p1), .val (.int p2), .val (.int p3), .val (.int p4), .val (.int p5), .val (.int (0 : Int32)), .val (.int (p2 &&& (3 : Int32))), .val (.ref b3), .unset, .unset, .unset, .unset] [])) _
            refine XS.aload X20.here hx rfl (hb hby at_62) rfl rfl ?_
            show Steps p.tables e below (T20.setTop (mkF m 64 #[.val (.int p0), .val (.int p1), .val (.int p2), .val (.int p3), .val (.int p4), .val (.int p5), .val (.int (0 : Int32)), .val (.int (p2 &&& (3 : Int32))), .val (.ref b3), .unset, .unset, .unset, .unset] [(.ref b3)])) _
            refine XS.iconst X20.here hx rfl (hb hby at_64) ?_
            show Steps p.tables e below (T20.setTop (mkF m 65 #[.val (.int p0), .val (.int p1), .val (.int p2), .val (.int p3), .val (.int p4), .val (.int p5), .val (.int (0 : Int32)), .val (.int (p2 &&& (3 : Int32))), .val (.ref b3), .unset, .unset, .unset, .unset] [(.int (2 : Int32)), (.ref b3)])) _
            refine XS.iload X20.here hx rfl (hb hby at_65) rfl ?_
            show Steps p.tables e below (T20.setTop (mkF m 67 #[.val (.int p0), .val (.int p1), .val (.int p2), .val (.int p3), .val (.int p4), .val (.int p5), .val (.int (0 : Int32)), .val (.int (p2 &&& (3 : Int32))), .val (.ref b3), .unset, .unset, .unset, .unset] [(.int p5), (.int (2 : Int32)), (.ref b3)])) _
            refine XS.i2b X20.here hx rfl (hb hby at_67) rfl ?_
            show Steps p.tables e below (T20.setTop (mkF m 68 #[.val (.int p0), .val (.int p1), .val (.int p2), .val (.int p3), .val (.int p4), .val (.int p5), .val (.int (0 : Int32)), .val (.int (p2 &&& (3 : Int32))), .val (.ref b3), .unset, .unset, .unset, .unset] [(.int (p5.toInt8.toInt32)), (.int (2 : Int32)), (.ref b3)])) _
            refine st30 _ ?_
            show Steps p.tables e below (T30.setTop (mkF m 69 #[.val (.int p0), .val (.int p1), .val (.int p2), .val (.int p3), .val (.int p4), .val (.int p5), .val (.int (0 : Int32)), .val (.int (p2 &&& (3 : Int32))), .val (.ref b3), .unset, .unset, .unset, .unset] [])) _
            refine st37 _ ?_
            show Steps p.tables e below (T37.setTop (mkF m 72 #[.val (.int p0), .val (.int p1), .val (.int p2), .val (.int p3), .val (.int p4), .val (.int p5), .val (.int (0 : Int32)), .val (.int (p2 &&& (3 : Int32))), .val (.ref b3), .unset, .unset, .unset, .unset] [(.ref b37)])) _
            refine XS.dup X37.here hx rfl (hb hby at_72) rfl rfl ?_
            show Steps p.tables e below (T37.setTop (mkF m 73 #[.val (.int p0), .val (.int p1), .val (.int p2), .val (.int p3), .val (.int p4), .val (.int p5), .val (.int (0 : Int32)), .val (.int (p2 &&& (3 : Int32))), .val (.ref b3), .unset, .unset, .unset, .unset] [(.ref b37), (.ref b37)])) _
            refine XS.iloadN X37.here hx rfl (hb hby at_73) rfl ?_
            show Steps p.tables e below (T37.setTop (mkF m 74 #[.val (.int p0), .val (.int p1), .val (.int p2), .val (.int p3), .val (.int p4), .val (.int p5), .val (.int (0 : Int32)), .val (.int (p2 &&& (3 : Int32))), .val (.ref b3), .unset, .unset, .unset, .unset] [(.int p0), (.ref b37), (.ref b37)])) _
            refine XS.iloadN X37.here hx rfl (hb hby at_74) rfl ?_
            show Steps p.tables e below (T37.setTop (mkF m 75 #[.val (.int p0), .val (.int p1), .val (.int p2), .val (.int p3), .val (.int p4), .val (.int p5), .val (.int (0 : Int32)), .val (.int (p2 &&& (3 : Int32))), .val (.ref b3), .unset, .unset, .unset, .unset] [(.int p1), (.int p0), (.ref b37), (.ref b37)])) _
            refine XS.aload X37.here hx rfl (hb hby at_75) rfl rfl ?_
            show Steps p.tables e below (T37.setTop (mkF m 77 #[.val (.int p0), .val (.int p1), .val (.int p2), .val (.int p3), .val (.int p4), .val (.int p5), .val (.int (0 : Int32)), .val (.int (p2 &&& (3 : Int32))), .val (.ref b3), .unset, .unset, .unset, .unset] [(.ref b3), (.int p1), (.int p0), (.ref b37), (.ref b37)])) _
            refine st48.trans ?_
            show Steps p.tables e below (T48.setTop (mkF m 80 #[.val (.int p0), .val (.int p1), .val (.int p2), .val (.int p3), .val (.int p4), .val (.int p5), .val (.int (0 : Int32)), .val (.int (p2 &&& (3 : Int32))), .val (.ref b3), .unset, .unset, .unset, .unset] [(.ref b37)])) _
            refine XS.astore X48.here hx rfl (hb hby at_80) rfl rfl (l' := #[.val (.int p0), .val (.int p1), .val (.int p2), .val (.int p3), .val (.int p4), .val (.int p5), .val (.int (0 : Int32)), .val (.int (p2 &&& (3 : Int32))), .val (.ref b3), .val (.ref b37), .unset, .unset, .unset]) rfl ?_
            show Steps p.tables e below (T48.setTop (mkF m 82 #[.val (.int p0), .val (.int p1), .val (.int p2), .val (.int p3), .val (.int p4), .val (.int p5), .val (.int (0 : Int32)), .val (.int (p2 &&& (3 : Int32))), .val (.ref b3), .val (.ref b37), .unset, .unset, .unset] [])) _
            refine XS.aload X48.here hx rfl (hb hby at_82) rfl rfl ?_
            show Steps p.tables e below (T48.setTop (mkF m 84 #[.val (.int p0), .val (.int p1), .val (.int p2), .val (.int p3), .val (.int p4), .val (.int p5), .val (.int (0 : Int32)), .val (.int (p2 &&& (3 : Int32))), .val (.ref b3), .val (.ref b37), .unset, .unset, .unset] [(.ref b3)])) _
            refine XS.ifnonnullYes X48.here hx rfl (pc0 := 84) (pc' := 91) rfl (hb hby at_84) rfl (by decide) (by decide) ?_
            show Steps p.tables e below (T48.setTop (mkF m 91 #[.val (.int p0), .val (.int p1), .val (.int p2), .val (.int p3), .val (.int p4), .val (.int p5), .val (.int (0 : Int32)), .val (.int (p2 &&& (3 : Int32))), .val (.ref b3), .val (.ref b37), .unset, .unset, .unset] [])) _
            refine XS.iconst X48.here hx rfl (hb hby at_91) ?_
            show Steps p.tables e below (T48.setTop (mkF m 92 #[.val (.int p0), .val (.int p1), .val (.int p2), .val (.int p3), .val (.int p4), .val (.int p5), .val (.int (0 : Int32)), .val (.int (p2 &&& (3 : Int32))), .val (.ref b3), .val (.ref b37), .unset, .unset, .unset] [(.int (0 : Int32))])) _
            refine XS.istore X48.here hx rfl (hb hby at_92) rfl (l' := #[.val (.int p0), .val (.int p1), .val (.int p2), .val (.int p3), .val (.int p4), .val (.int p5), .val (.int (0 : Int32)), .val (.int (p2 &&& (3 : Int32))), .val (.ref b3), .val (.ref b37), .val (.int (0 : Int32)), .unset, .unset]) rfl ?_
            show Steps p.tables e below (T48.setTop (mkF m 94 #[.val (.int p0), .val (.int p1), .val (.int p2), .val (.int p3), .val (.int p4), .val (.int p5), .val (.int (0 : Int32)), .val (.int (p2 &&& (3 : Int32))), .val (.ref b3), .val (.ref b37), .val (.int (0 : Int32)), .unset, .unset] [])) _
            refine XS.aload X48.here hx rfl (hb hby at_94) rfl rfl ?_
            show Steps p.tables e below (T48.setTop (mkF m 96 #[.val (.int p0), .val (.int p1), .val (.int p2), .val (.int p3), .val (.int p4), .val (.int p5), .val (.int (0 : Int32)), .val (.int (p2 &&& (3 : Int32))), .val (.ref b3), .val (.ref b37), .val (.int (0 : Int32)), .unset, .unset] [(.ref b37)])) _
            refine st57.trans ?_
            show Steps p.tables e below (T57.setTop (mkF m 99 #[.val (.int p0), .val (.int p1), .val (.int p2), .val (.int p3), .val (.int p4), .val (.int p5), .val (.int (0 : Int32)), .val (.int (p2 &&& (3 : Int32))), .val (.ref b3), .val (.ref b37), .val (.int (0 : Int32)), .unset, .unset] [(.int (0 : Int32))])) _
            refine XS.istore X57.here hx rfl (hb hby at_99) rfl (l' := #[.val (.int p0), .val (.int p1), .val (.int p2), .val (.int p3), .val (.int p4), .val (.int p5), .val (.int (0 : Int32)), .val (.int (p2 &&& (3 : Int32))), .val (.ref b3), .val (.ref b37), .val (.int (0 : Int32)), .val (.int (0 : Int32)), .unset]) rfl ?_
            show Steps p.tables e below (T57.setTop (mkF m 101 #[.val (.int p0), .val (.int p1), .val (.int p2), .val (.int p3), .val (.int p4), .val (.int p5), .val (.int (0 : Int32)), .val (.int (p2 &&& (3 : Int32))), .val (.ref b3), .val (.ref b37), .val (.int (0 : Int32)), .val (.int (0 : Int32)), .unset] [])) _
            refine st62 _ ?_
            show Steps p.tables e below (T62.setTop (mkF m 104 #[.val (.int p0), .val (.int p1), .val (.int p2), .val (.int p3), .val (.int p4), .val (.int p5), .val (.int (0 : Int32)), .val (.int (p2 &&& (3 : Int32))), .val (.ref b3), .val (.ref b37), .val (.int (0 : Int32)), .val (.int (0 : Int32)), .unset] [(.ref bi63)])) _
            refine st74.trans ?_
            show Steps p.tables e below (T74.setTop (mkF m 107 #[.val (.int p0), .val (.int p1), .val (.int p2), .val (.int p3), .val (.int p4), .val (.int p5), .val (.int (0 : Int32)), .val (.int (p2 &&& (3 : Int32))), .val (.ref b3), .val (.ref b37), .val (.int (0 : Int32)), .val (.int (0 : Int32)), .unset] [(.int (1 : Int32))])) _
            refine XS.istore X74.here hx rfl (hb hby at_107) rfl (l' := #[.val (.int p0), .val (.int p1), .val (.int p2), .val (.int p3), .val (.int p4), .val (.int p5), .val (.int (0 : Int32)), .val (.int (p2 &&& (3 : Int32))), .val (.ref b3), .val (.ref b37), .val (.int (0 : Int32)), .val (.int (0 : Int32)), .val (.int (1 : Int32))]) rfl ?_
            show Steps p.tables e below (T74.setTop (mkF m 109 #[.val (.int p0), .val (.int p1), .val (.int p2), .val (.int p3), .val (.int p4), .val (.int p5), .val (.int (0 : Int32)), .val (.int (p2 &&& (3 : Int32))), .val (.ref b3), .val (.ref b37), .val (.int (0 : Int32)), .val (.int (0 : Int32)), .val (.int (1 : Int32))] [])) _
            refine XS.iload X74.here hx rfl (hb hby at_109) rfl ?_
            show Steps p.tables e below (T74.setTop (mkF m 111 #[.val (.int p0), .val (.int p1), .val (.int p2), .val (.int p3), .val (.int p4), .val (.int p5), .val (.int (0 : Int32)), .val (.int (p2 &&& (3 : Int32))), .val (.ref b3), .val (.ref b37), .val (.int (0 : Int32)), .val (.int (0 : Int32)), .val (.int (1 : Int32))] [(.int (0 : Int32))])) _
            refine XS.iload X74.here hx rfl (hb hby at_111) rfl ?_
            show Steps p.tables e below (T74.setTop (mkF m 113 #[.val (.int p0), .val (.int p1), .val (.int p2), .val (.int p3), .val (.int p4), .val (.int p5), .val (.int (0 : Int32)), .val (.int (p2 &&& (3 : Int32))), .val (.ref b3), .val (.ref b37), .val (.int (0 : Int32)), .val (.int (0 : Int32)), .val (.int (1 : Int32))] [(.int (0 : Int32)), (.int (0 : Int32))])) _
            refine XS.icmpNo X74.here hx rfl (hb hby at_113) rfl (teq (rfl : (0 : Int32) = (0 : Int32))).2 ?_
            show Steps p.tables e below (T74.setTop (mkF m 116 #[.val (.int p0), .val (.int p1), .val (.int p2), .val (.int p3), .val (.int p4), .val (.int p5), .val (.int (0 : Int32)), .val (.int (p2 &&& (3 : Int32))), .val (.ref b3), .val (.ref b37), .val (.int (0 : Int32)), .val (.int (0 : Int32)), .val (.int (1 : Int32))] [])) _
            refine XS.iload X74.here hx rfl (hb hby at_116) rfl ?_
            show Steps p.tables e below (T74.setTop (mkF m 118 #[.val (.int p0), .val (.int p1), .val (.int p2), .val (.int p3), .val (.int p4), .val (.int p5), .val (.int (0 : Int32)), .val (.int (p2 &&& (3 : Int32))), .val (.ref b3), .val (.ref b37), .val (.int (0 : Int32)), .val (.int (0 : Int32)), .val (.int (1 : Int32))] [(.int (1 : Int32))])) _
            refine XS.ifNo X74.here hx rfl (hb hby at_118) rfl ((if0 _ _).trans (feq (by decide : ¬ ((1 : Int32) = (0 : Int32)))).1) ?_
            show Steps p.tables e below (T74.setTop (mkF m 121 #[.val (.int p0), .val (.int p1), .val (.int p2), .val (.int p3), .val (.int p4), .val (.int p5), .val (.int (0 : Int32)), .val (.int (p2 &&& (3 : Int32))), .val (.ref b3), .val (.ref b37), .val (.int (0 : Int32)), .val (.int (0 : Int32)), .val (.int (1 : Int32))] [])) _
            refine XS.iconst X74.here hx rfl (hb hby at_121) ?_
            show Steps p.tables e below (T74.setTop (mkF m 122 #[.val (.int p0), .val (.int p1), .val (.int p2), .val (.int p3), .val (.int p4), .val (.int p5), .val (.int (0 : Int32)), .val (.int (p2 &&& (3 : Int32))), .val (.ref b3), .val (.ref b37), .val (.int (0 : Int32)), .val (.int (0 : Int32)), .val (.int (1 : Int32))] [(.int (1 : Int32))])) _
            refine XS.goto X74.here hx rfl (pc0 := 122) (pc' := 126) rfl (hb hby at_122) (by decide) (by decide) ?_
            exact kt
          obtain ⟨fs, hr, hrun, hended, hW, hsame⟩ := X74.leave (v := some (.int (1 : Int32))) (fun h => by rw [Bd.returns] at h; cases h)
          refine ⟨_, _, pre78 _ ?_, hrun, hended, _, _, rfl, ?_, ⟨_, rfl⟩, hW, hsame.mono (by decide) (by decide)⟩
          · show Steps p.tables e below (T74.setTop (mkF m 126 #[.val (.int p0), .val (.int p1), .val (.int p2), .val (.int p3), .val (.int p4), .val (.int p5), .val (.int (0 : Int32)), .val (.int (p2 &&& (3 : Int32))), .val (.ref b3), .val (.ref b37), .val (.int (0 : Int32)), .val (.int (0 : Int32)), .val (.int (1 : Int32))] [(.int (1 : Int32))])) _
            exact retN X74 hx (t := .boolean) Bd.returns (by simp) (hb hby at_126) hr
          · show own_Q_law Z p0 p1 p2 p3 p4 p5 aS h0 n0 (some (.int (1 : Int32))) T74.heap _
            rw [eq76]
            exact ⟨rfl, nf77⟩
        · obtain ⟨T79, h79, X79, e79, E79, A79, D79, -, st79⟩ := newO X20 hx hZ hown (hw _ (List.mem_of_getElem? (i := 1) rfl)) (hw _ (List.mem_of_getElem? (i := 2) rfl)) (hw _ (List.mem_of_getElem? (i := 3) rfl)) e20 (g := (mkF m 69 #[.val (.int p0), .val (.int p1), .val (.int p2), .val (.int p3), .val (.int p4), .val (.int p5), .val (.int (0 : Int32)), .val (.int (p2 &&& (3 : Int32))), .val (.ref b3), .unset, .unset, .unset, .unset] [])) rfl (hb hby at_69) (by decide) (by decide)
          obtain ⟨b79, g79⟩ : ∃ z, z = h20.size := ⟨_, rfl⟩
          rw [← g79] at A79 D79 st79
          have sz_b79 : h0.size ≤ b79 := Nat.le_trans k24.1 (Nat.le_of_eq g79.symm)
          have gn_b79 : n0 ≤ b79 := Nat.le_trans Z0 sz_b79
          have ne_b3_b79 : b3 ≠ b79 := Nat.ne_of_lt (Nat.lt_of_lt_of_le f26.lt (Nat.le_of_eq g79.symm))
          have f80 := f21.ext E79
          have f81 := f22.ext E79
          have f82 := f26.ext E79
          have k83 := k24.ext E79
          have f84 : Fld Z h79 b79 "com/example/interleave/interleave/check/Expansion" "found" "Ljava/util/List;" .null := D79 (Or.inr (hw _ (List.mem_of_getElem? (i := 35) rfl))) (ty := (.object "java/util/List")) (by decide)
          have f85 : Fld Z h79 b79 "com/example/interleave/interleave/check/Expansion" "printed" "Ljava/util/List;" .null := D79 (Or.inr (hw _ (List.mem_of_getElem? (i := 37) rfl))) (ty := (.object "java/util/List")) (by decide)
          have f86 : Fld Z h79 b79 "com/example/interleave/interleave/check/Expansion" "sourceId" "I" (.int (0 : Int32)) := D79 (Or.inr (hw _ (List.mem_of_getElem? (i := 39) rfl))) (ty := .int) (by decide)
          have f87 : Fld Z h79 b79 "com/example/interleave/interleave/check/Expansion" "sourceParent" "I" (.int (0 : Int32)) := D79 (Or.inr (hw _ (List.mem_of_getElem? (i := 41) rfl))) (ty := .int) (by decide)
          have f88 : Fld Z h79 b79 "com/example/interleave/interleave/check/Expansion" "sourceBytes" "[B" .null := D79 (Or.inr (hw _ (List.mem_of_getElem? (i := 43) rfl))) (ty := (.array .byte)) (by decide)
          have zs89 : n0 ≤ h79.size := Nat.le_trans Z0 k83.1
          obtain ⟨_, _, ⟨T90, L90, k90, n90⟩, -, X90, ⟨Lc90, hQ90, l90, y90, z90⟩, st90⟩ := X79.specialBack hx (y := (⟨"com/example/interleave/interleave/check/Expansion", "<init>", "(II[B)V"⟩ : MethodName)) rfl hown (mvT hZ (hw _ (List.mem_of_getElem? (i := 4) rfl))) (mvT hZ (hw _ (List.mem_of_getElem? (i := 5) rfl))) (mvT hZ (hw _ (List.mem_of_getElem? (i := 6) rfl))) (by decide) (backOf (W := 1) (own_rm_exR l Z a0 hw [] b79 p0 p1 b3 aS h79 n0 zs89 f80 A79 f84 f85 f86 f87 f88 gn_b79) hZ (hw _ (List.mem_of_getElem? (i := 6) rfl)) (hw _ (List.mem_of_getElem? (i := 3) rfl)) (by decide) (by decide)) (g := (mkF m 77 #[.val (.int p0), .val (.int p1), .val (.int p2), .val (.int p3), .val (.int p4), .val (.int p5), .val (.int (0 : Int32)), .val (.int (p2 &&& (3 : Int32))), .val (.ref b3), .unset, .unset, .unset, .unset] [(.ref b3), (.int p1), (.int p0), (.ref b79), (.ref b79)])) rfl (by rw [hml]; rfl) (Steps.refl _) (a := b79) (argsL := [(.int p0), (.int p1), (.ref b3)]) (rest := [(.ref b79)]) (lenOf own_pd1 rfl) rfl (by show 2 * 0 + _ ≤ _; exact Nat.le_of_eq rfl) (hb hby at_77) (fun _ _ => ⟨rfl, e79, (by decide : 2 + 2 ≤ _), (by decide : 24 + 6 ≤ _)⟩)
          dsimp only [Pt.U, Pt.locs, Pt.cells, Pt.slots] at X90 l90 y90 z90 st90 hQ90
          subst l90 y90 z90
          obtain ⟨rfl, N91, K91, c91_0, c91_1, c91_2⟩ := hQ90
          have f92 := own_sta_keep f80 K91 (own_pl_cons A79 all0)
          have f93 := f81.keep K91
          have f94 := f82.keep K91 (ninS ne_b3_b79 nin0)
          have f95 := A79.keep K91
          have k96 := k83.trans K91 (allS (Or.inr sz_b79) all0)
          have nf97 := Fr.app nf25 N91
          have zs98 : n0 ≤ T90.heap.size := Nat.le_trans Z0 k96.1
          obtain ⟨cq100, kq100, q100a, q100b, q100c⟩ := isOf hZ rfl f95
          obtain ⟨_, _, ⟨T99, L99, k99, n99⟩, -, X99, ⟨Lc99, hQ99, l99, y99, z99⟩, st99⟩ := X90.virtualBack hx (y := (⟨"com/example/interleave/interleave/check/Expansion", "isInitial", "()Z"⟩ : MethodName)) (z := (⟨"com/example/interleave/interleave/check/Expansion", "isInitial", "()Z"⟩ : MethodName)) hown (mvT hZ (hw _ (List.mem_of_getElem? (i := 44) rfl))) (mvT hZ (hw _ (List.mem_of_getElem? (i := 45) rfl))) (notFace_of_selects (args := #[]) (mvT hZ (hw _ (List.mem_of_getElem? (i := 47) rfl)))) (mvT hZ (hw _ (List.mem_of_getElem? (i := 47) rfl))) (mvT hZ (hw _ (List.mem_of_getElem? (i := 46) rfl))) (by decide) (backOf (W := 0) (own_rm_isR l Z a0 hw [] b79 b3 T90.heap n0 zs98 c91_2) hZ (hw _ (List.mem_of_getElem? (i := 48) rfl)) (hw _ (List.mem_of_getElem? (i := 3) rfl)) (by decide) (by decide)) q100a q100c (g := (mkF m 96 #[.val (.int p0), .val (.int p1), .val (.int p2), .val (.int p3), .val (.int p4), .val (.int p5), .val (.int (0 : Int32)), .val (.int (p2 &&& (3 : Int32))), .val (.ref b3), .val (.ref b79), .val (.int (0 : Int32)), .unset, .unset] [(.ref b79)])) rfl (by rw [hml]; rfl) (Steps.refl _) (argsL := []) (rest := []) (lenOf own_pd2 rfl) rfl (by show 2 * 0 + _ ≤ _; exact Nat.le_of_eq rfl) (hb hby at_96) (fun _ _ => ⟨rfl, rfl, (by decide : 4 + 0 ≤ _), (by decide : 30 + 0 ≤ _)⟩)
          dsimp only [Pt.U, Pt.locs, Pt.cells, Pt.slots] at X99 l99 y99 z99 st99 hQ99
          subst l99 y99 z99
          obtain ⟨rfl, N101, eq101⟩ := hQ99
          have nf102 := Fr.app nf97 N101
          have zs103 : n0 ≤ T90.heap.size := Nat.le_trans Z0 k96.1
          obtain ⟨_, _, ⟨T104, L104, k104, n104⟩, -, X104, ⟨Lc104, hQ104, l104, y104, z104⟩, st104⟩ := Jvm.LawKit.callS X99 hx (y := (⟨"com/example/interleave/interleave/check/Expansion", "initial", "()Lcom/example/interleave/interleave/check/Expansion;"⟩ : MethodName)) hown (mvT hZ (hw _ (List.mem_of_getElem? (i := 49) rfl))) (mvT hZ (hw _ (List.mem_of_getElem? (i := 50) rfl))) (mvT hZ (hw _ (List.mem_of_getElem? (i := 3) rfl))) (mvT hZ (hw _ (List.mem_of_getElem? (i := 51) rfl))) (by decide) (backOf (W := 0) (own_rm_ini l Z a0 hw [] aS T90.heap n0 zs103 f92) hZ (hw _ (List.mem_of_getElem? (i := 51) rfl)) (hw _ (List.mem_of_getElem? (i := 3) rfl)) (by decide) (by decide)) (g := (mkF m 101 #[.val (.int p0), .val (.int p1), .val (.int p2), .val (.int p3), .val (.int p4), .val (.int p5), .val (.int (0 : Int32)), .val (.int (p2 &&& (3 : Int32))), .val (.ref b3), .val (.ref b79), .val (.int (0 : Int32)), .val (.int (0 : Int32)), .unset] [])) rfl (by rw [hml]; rfl) (argsL := []) (rest := []) (lenOf own_pd3 rfl) rfl (by show 2 * 0 + _ ≤ _; exact Nat.le_of_eq rfl) (hb hby at_101) (fun _ _ => ⟨rfl, eq101, (by decide : 4 + 3 ≤ _), (by decide : 30 + 27 ≤ _)⟩)
          dsimp only [Pt.U, Pt.locs, Pt.cells, Pt.slots] at X104 l104 y104 z104 st104 hQ104
          subst l104 y104 z104
          obtain ⟨bi105, rfl, N105, K105, c105_0, c105_1, c105_2⟩ := hQ104
          have sz_bi105 : h0.size ≤ bi105 := Nat.le_trans k96.1 c105_0
          have gn_bi105 : n0 ≤ bi105 := Nat.le_trans Z0 sz_bi105
          have ne_b3_bi105 : b3 ≠ bi105 := Nat.ne_of_lt (Nat.lt_of_lt_of_le f94.lt c105_0)
          have ne_b79_bi105 : b79 ≠ bi105 := Nat.ne_of_lt (Nat.lt_of_lt_of_le c91_2.lt c105_0)
          have f106 := own_sta_keep f92 K105 all0
          have f107 := f93.keep K105
          have f108 := f94.keep K105 nin0
          have f109 := f95.keep K105
          have f110 := c91_0.keep K105 nin0
          have f111 := c91_1.keep K105 nin0
          have f112 := c91_2.keep K105 nin0
          have k113 := k96.trans K105 all0
          have nf114 := Fr.app nf102 N105
          have zs115 : n0 ≤ T104.heap.size := Nat.le_trans Z0 k113.1
          obtain ⟨cq117, kq117, q117a, q117b, q117c⟩ := isOf hZ rfl c105_1
          obtain ⟨_, _, ⟨T116, L116, k116, n116⟩, -, X116, ⟨Lc116, hQ116, l116, y116, z116⟩, st116⟩ := X104.virtualBack hx (y := (⟨"com/example/interleave/interleave/check/Expansion", "isInitial", "()Z"⟩ : MethodName)) (z := (⟨"com/example/interleave/interleave/check/Expansion", "isInitial", "()Z"⟩ : MethodName)) hown (mvT hZ (hw _ (List.mem_of_getElem? (i := 44) rfl))) (mvT hZ (hw _ (List.mem_of_getElem? (i := 45) rfl))) (notFace_of_selects (args := #[]) (mvT hZ (hw _ (List.mem_of_getElem? (i := 47) rfl)))) (mvT hZ (hw _ (List.mem_of_getElem? (i := 47) rfl))) (mvT hZ (hw _ (List.mem_of_getElem? (i := 46) rfl))) (by decide) (backOf (W := 0) (own_rm_isN l Z a0 hw [] bi105 T104.heap n0 zs115 c105_2) hZ (hw _ (List.mem_of_getElem? (i := 48) rfl)) (hw _ (List.mem_of_getElem? (i := 3) rfl)) (by decide) (by decide)) q117a q117c (g := (mkF m 104 #[.val (.int p0), .val (.int p1), .val (.int p2), .val (.int p3), .val (.int p4), .val (.int p5), .val (.int (0 : Int32)), .val (.int (p2 &&& (3 : Int32))), .val (.ref b3), .val (.ref b79), .val (.int (0 : Int32)), .val (.int (0 : Int32)), .unset] [(.ref bi105)])) rfl (by rw [hml]; rfl) (Steps.refl _) (argsL := []) (rest := []) (lenOf own_pd2 rfl) rfl (by show 2 * 0 + _ ≤ _; exact Nat.le_of_eq rfl) (hb hby at_104) (fun _ _ => ⟨rfl, rfl, (by decide : 7 + 0 ≤ _), (by decide : 57 + 0 ≤ _)⟩)
          dsimp only [Pt.U, Pt.locs, Pt.cells, Pt.slots] at X116 l116 y116 z116 st116 hQ116
          subst l116 y116 z116
          obtain ⟨rfl, N118, eq118⟩ := hQ116
          have nf119 := Fr.app nf114 N118
          have pre120 : ∀ t, Steps p.tables e below (T116.setTop (mkF m 126 #[.val (.int p0), .val (.int p1), .val (.int p2), .val (.int p3), .val (.int p4), .val (.int p5), .val (.int (0 : Int32)), .val (.int (p2 &&& (3 : Int32))), .val (.ref b3), .val (.ref b79), .val (.int (0 : Int32)), .val (.int (0 : Int32)), .val (.int (1 : Int32))] [(.int (1 : Int32))])) t → Steps p.tables e below (s₁.setTop (entryFrame m #[(.int p0), (.int p1), (.int p2), (.int p3), (.int p4), (.int p5)] maxLocals)) t := by
            intro t kt
            refine pre27 t ?_
            show Steps p.tables e below (T20.setTop (mkF m 59 #[.val (.int p0), .val (.int p1), .val (.int p2), .val (.int p3), .val (.int p4), .val (.int p5), .val (.int (0 : Int32)), .val (.int (p2 &&& (3 : Int32))), .val (.ref b3), .unset, .unset, .unset, .unset] [(.int (2 : Int32)), (.int (p2 &&& (3 : Int32)))])) _
            refine XS.icmpYes X20.here hx rfl (pc0 := 59) (pc' := 69) rfl (hb hby at_59) rfl (flt hc28).2.2.2 (by decide) (by decide) ?_
            show Steps p.tables e below (T20.setTop (mkF m 69 #[.val (.int p0), .val (.int p1), .val (.int p2), .val (.int p3), .val (.int p4), .val (.int p5), .val (.int (0 : Int32)), .val (.int (p2 &&& (3 : Int32))), .val (.ref b3), .unset, .unset, .unset, .unset] [])) _
            refine st79 _ ?_
            show Steps p.tables e below (T79.setTop (mkF m 72 #[.val (.int p0), .val (.int p1), .val (.int p2), .val (.int p3), .val (.int p4), .val (.int p5), .val (.int (0 : Int32)), .val (.int (p2 &&& (3 : Int32))), .val (.ref b3), .unset, .unset, .unset, .unset] [(.ref b79)])) _
            refine XS.dup X79.here hx rfl (hb hby at_72) rfl rfl ?_
            show Steps p.tables e below (T79.setTop (mkF m 73 #[.val (.int p0), .val (.int p1), .val (.int p2), .val (.int p3), .val (.int p4), .val (.int p5), .val (.int (0 : Int32)), .val (.int (p2 &&& (3 : Int32))), .val (.ref b3), .unset, .unset, .unset, .unset] [(.ref b79), (.ref b79)])) _
            refine XS.iloadN X79.here hx rfl (hb hby at_73) rfl ?_
            show Steps p.tables e below (T79.setTop (mkF m 74 #[.val (.int p0), .val (.int p1), .val (.int p2), .val (.int p3), .val (.int p4), .val (.int p5), .val (.int (0 : Int32)), .val (.int (p2 &&& (3 : Int32))), .val (.ref b3), .unset, .unset, .unset, .unset] [(.int p0), (.ref b79), (.ref b79)])) _
            refine XS.iloadN X79.here hx rfl (hb hby at_74) rfl ?_
            show Steps p.tables e below (T79.setTop (mkF m 75 #[.val (.int p0), .val (.int p1), .val (.int p2), .val (.int p3), .val (.int p4), .val (.int p5), .val (.int (0 : Int32)), .val (.int (p2 &&& (3 : Int32))), .val (.ref b3), .unset, .unset, .unset, .unset] [(.int p1), (.int p0), (.ref b79), (.ref b79)])) _
            refine XS.aload X79.here hx rfl (hb hby at_75) rfl rfl ?_
            show Steps p.tables e below (T79.setTop (mkF m 77 #[.val (.int p0), .val (.int p1), .val (.int p2), .val (.int p3), .val (.int p4), .val (.int p5), .val (.int (0 : Int32)), .val (.int (p2 &&& (3 : Int32))), .val (.ref b3), .unset, .unset, .unset, .unset] [(.ref b3), (.int p1), (.int p0), (.ref b79), (.ref b79)])) _
            refine st90.trans ?_
            show Steps p.tables e below (T90.setTop (mkF m 80 #[.val (.int p0), .val (.int p1), .val (.int p2), .val (.int p3), .val (.int p4), .val (.int p5), .val (.int (0 : Int32)), .val (.int (p2 &&& (3 : Int32))), .val (.ref b3), .unset, .unset, .unset, .unset] [(.ref b79)])) _
            refine XS.astore X90.here hx rfl (hb hby at_80) rfl rfl (l' := #[.val (.int p0), .val (.int p1), .val (.int p2), .val (.int p3), .val (.int p4), .val (.int p5), .val (.int (0 : Int32)), .val (.int (p2 &&& (3 : Int32))), .val (.ref b3), .val (.ref b79), .unset, .unset, .unset]) rfl ?_
            show Steps p.tables e below (T90.setTop (mkF m 82 #[.val (.int p0), .val (.int p1), .val (.int p2), .val (.int p3), .val (.int p4), .val (.int p5), .val (.int (0 : Int32)), .val (.int (p2 &&& (3 : Int32))), .val (.ref b3), .val (.ref b79), .unset, .unset, .unset] [])) _
            refine XS.aload X90.here hx rfl (hb hby at_82) rfl rfl ?_
            show Steps p.tables e below (T90.setTop (mkF m 84 #[.val (.int p0), .val (.int p1), .val (.int p2), .val (.int p3), .val (.int p4), .val (.int p5), .val (.int (0 : Int32)), .val (.int (p2 &&& (3 : Int32))), .val (.ref b3), .val (.ref b79), .unset, .unset, .unset] [(.ref b3)])) _
            refine XS.ifnonnullYes X90.here hx rfl (pc0 := 84) (pc' := 91) rfl (hb hby at_84) rfl (by decide) (by decide) ?_
            show Steps p.tables e below (T90.setTop (mkF m 91 #[.val (.int p0), .val (.int p1), .val (.int p2), .val (.int p3), .val (.int p4), .val (.int p5), .val (.int (0 : Int32)), .val (.int (p2 &&& (3 : Int32))), .val (.ref b3), .val (.ref b79), .unset, .unset, .unset] [])) _
            refine XS.iconst X90.here hx rfl (hb hby at_91) ?_
            show Steps p.tables e below (T90.setTop (mkF m 92 #[.val (.int p0), .val (.int p1), .val (.int p2), .val (.int p3), .val (.int p4), .val (.int p5), .val (.int (0 : Int32)), .val (.int (p2 &&& (3 : Int32))), .val (.ref b3), .val (.ref b79), .unset, .unset, .unset] [(.int (0 : Int32))])) _
            refine XS.istore X90.here hx rfl (hb hby at_92) rfl (l' := #[.val (.int p0), .val (.int p1), .val (.int p2), .val (.int p3), .val (.int p4), .val (.int p5), .val (.int (0 : Int32)), .val (.int (p2 &&& (3 : Int32))), .val (.ref b3), .val (.ref b79), .val (.int (0 : Int32)), .unset, .unset]) rfl ?_
            show Steps p.tables e below (T90.setTop (mkF m 94 #[.val (.int p0), .val (.int p1), .val (.int p2), .val (.int p3), .val (.int p4), .val (.int p5), .val (.int (0 : Int32)), .val (.int (p2 &&& (3 : Int32))), .val (.ref b3), .val (.ref b79), .val (.int (0 : Int32)), .unset, .unset] [])) _
            refine XS.aload X90.here hx rfl (hb hby at_94) rfl rfl ?_
            show Steps p.tables e below (T90.setTop (mkF m 96 #[.val (.int p0), .val (.int p1), .val (.int p2), .val (.int p3), .val (.int p4), .val (.int p5), .val (.int (0 : Int32)), .val (.int (p2 &&& (3 : Int32))), .val (.ref b3), .val (.ref b79), .val (.int (0 : Int32)), .unset, .unset] [(.ref b79)])) _
            refine st99.trans ?_
            show Steps p.tables e below (T99.setTop (mkF m 99 #[.val (.int p0), .val (.int p1), .val (.int p2), .val (.int p3), .val (.int p4), .val (.int p5), .val (.int (0 : Int32)), .val (.int (p2 &&& (3 : Int32))), .val (.ref b3), .val (.ref b79), .val (.int (0 : Int32)), .unset, .unset] [(.int (0 : Int32))])) _
            refine XS.istore X99.here hx rfl (hb hby at_99) rfl (l' := #[.val (.int p0), .val (.int p1), .val (.int p2), .val (.int p3), .val (.int p4), .val (.int p5), .val (.int (0 : Int32)), .val (.int (p2 &&& (3 : Int32))), .val (.ref b3), .val (.ref b79), .val (.int (0 : Int32)), .val (.int (0 : Int32)), .unset]) rfl ?_
            show Steps p.tables e below (T99.setTop (mkF m 101 #[.val (.int p0), .val (.int p1), .val (.int p2), .val (.int p3), .val (.int p4), .val (.int p5), .val (.int (0 : Int32)), .val (.int (p2 &&& (3 : Int32))), .val (.ref b3), .val (.ref b79), .val (.int (0 : Int32)), .val (.int (0 : Int32)), .unset] [])) _
            refine st104 _ ?_
            show Steps p.tables e below (T104.setTop (mkF m 104 #[.val (.int p0), .val (.int p1), .val (.int p2), .val (.int p3), .val (.int p4), .val (.int p5), .val (.int (0 : Int32)), .val (.int (p2 &&& (3 : Int32))), .val (.ref b3), .val (.ref b79), .val (.int (0 : Int32)), .val (.int (0 : Int32)), .unset] [(.ref bi105)])) _
            refine st116.trans ?_
            show Steps p.tables e below (T116.setTop (mkF m 107 #[.val (.int p0), .val (.int p1), .val (.int p2), .val (.int p3), .val (.int p4), .val (.int p5), .val (.int (0 : Int32)), .val (.int (p2 &&& (3 : Int32))), .val (.ref b3), .val (.ref b79), .val (.int (0 : Int32)), .val (.int (0 : Int32)), .unset] [(.int (1 : Int32))])) _
            refine XS.istore X116.here hx rfl (hb hby at_107) rfl (l' := #[.val (.int p0), .val (.int p1), .val (.int p2), .val (.int p3), .val (.int p4), .val (.int p5), .val (.int (0 : Int32)), .val (.int (p2 &&& (3 : Int32))), .val (.ref b3), .val (.ref b79), .val (.int (0 : Int32)), .val (.int (0 : Int32)), .val (.int (1 : Int32))]) rfl ?_
            show Steps p.tables e below (T116.setTop (mkF m 109 #[.val (.int p0), .val (.int p1), .val (.int p2), .val (.int p3), .val (.int p4), .val (.int p5), .val (.int (0 : Int32)), .val (.int (p2 &&& (3 : Int32))), .val (.ref b3), .val (.ref b79), .val (.int (0 : Int32)), .val (.int (0 : Int32)), .val (.int (1 : Int32))] [])) _
            refine XS.iload X116.here hx rfl (hb hby at_109) rfl ?_
            show Steps p.tables e below (T116.setTop (mkF m 111 #[.val (.int p0), .val (.int p1), .val (.int p2), .val (.int p3), .val (.int p4), .val (.int p5), .val (.int (0 : Int32)), .val (.int (p2 &&& (3 : Int32))), .val (.ref b3), .val (.ref b79), .val (.int (0 : Int32)), .val (.int (0 : Int32)), .val (.int (1 : Int32))] [(.int (0 : Int32))])) _
            refine XS.iload X116.here hx rfl (hb hby at_111) rfl ?_
            show Steps p.tables e below (T116.setTop (mkF m 113 #[.val (.int p0), .val (.int p1), .val (.int p2), .val (.int p3), .val (.int p4), .val (.int p5), .val (.int (0 : Int32)), .val (.int (p2 &&& (3 : Int32))), .val (.ref b3), .val (.ref b79), .val (.int (0 : Int32)), .val (.int (0 : Int32)), .val (.int (1 : Int32))] [(.int (0 : Int32)), (.int (0 : Int32))])) _
            refine XS.icmpNo X116.here hx rfl (hb hby at_113) rfl (teq (rfl : (0 : Int32) = (0 : Int32))).2 ?_
            show Steps p.tables e below (T116.setTop (mkF m 116 #[.val (.int p0), .val (.int p1), .val (.int p2), .val (.int p3), .val (.int p4), .val (.int p5), .val (.int (0 : Int32)), .val (.int (p2 &&& (3 : Int32))), .val (.ref b3), .val (.ref b79), .val (.int (0 : Int32)), .val (.int (0 : Int32)), .val (.int (1 : Int32))] [])) _
            refine XS.iload X116.here hx rfl (hb hby at_116) rfl ?_
            show Steps p.tables e below (T116.setTop (mkF m 118 #[.val (.int p0), .val (.int p1), .val (.int p2), .val (.int p3), .val (.int p4), .val (.int p5), .val (.int (0 : Int32)), .val (.int (p2 &&& (3 : Int32))), .val (.ref b3), .val (.ref b79), .val (.int (0 : Int32)), .val (.int (0 : Int32)), .val (.int (1 : Int32))] [(.int (1 : Int32))])) _
            refine XS.ifNo X116.here hx rfl (hb hby at_118) rfl ((if0 _ _).trans (feq (by decide : ¬ ((1 : Int32) = (0 : Int32)))).1) ?_
            show Steps p.tables e below (T116.setTop (mkF m 121 #[.val (.int p0), .val (.int p1), .val (.int p2), .val (.int p3), .val (.int p4), .val (.int p5), .val (.int (0 : Int32)), .val (.int (p2 &&& (3 : Int32))), .val (.ref b3), .val (.ref b79), .val (.int (0 : Int32)), .val (.int (0 : Int32)), .val (.int (1 : Int32))] [])) _
            refine XS.iconst X116.here hx rfl (hb hby at_121) ?_
            show Steps p.tables e below (T116.setTop (mkF m 122 #[.val (.int p0), .val (.int p1), .val (.int p2), .val (.int p3), .val (.int p4), .val (.int p5), .val (.int (0 : Int32)), .val (.int (p2 &&& (3 : Int32))), .val (.ref b3), .val (.ref b79), .val (.int (0 : Int32)), .val (.int (0 : Int32)), .val (.int (1 : Int32))] [(.int (1 : Int32))])) _
            refine XS.goto X116.here hx rfl (pc0 := 122) (pc' := 126) rfl (hb hby at_122) (by decide) (by decide) ?_
            exact kt
          obtain ⟨fs, hr, hrun, hended, hW, hsame⟩ := X116.leave (v := some (.int (1 : Int32))) (fun h => by rw [Bd.returns] at h; cases h)
          refine ⟨_, _, pre120 _ ?_, hrun, hended, _, _, rfl, ?_, ⟨_, rfl⟩, hW, hsame.mono (by decide) (by decide)⟩
          · show Steps p.tables e below (T116.setTop (mkF m 126 #[.val (.int p0), .val (.int p1), .val (.int p2), .val (.int p3), .val (.int p4), .val (.int p5), .val (.int (0 : Int32)), .val (.int (p2 &&& (3 : Int32))), .val (.ref b3), .val (.ref b79), .val (.int (0 : Int32)), .val (.int (0 : Int32)), .val (.int (1 : Int32))] [(.int (1 : Int32))])) _
            exact retN X116 hx (t := .boolean) Bd.returns (by simp) (hb hby at_126) hr
          · show own_Q_law Z p0 p1 p2 p3 p4 p5 aS h0 n0 (some (.int (1 : Int32))) T116.heap _
            rw [eq118]
            exact ⟨rfl, nf119⟩
      · obtain ⟨T121, h121, X121, e121, E121, A121, D121, -, st121⟩ := newO X10 hx hZ hown (hw _ (List.mem_of_getElem? (i := 1) rfl)) (hw _ (List.mem_of_getElem? (i := 2) rfl)) (hw _ (List.mem_of_getElem? (i := 3) rfl)) e10 (g := (mkF m 69 #[.val (.int p0), .val (.int p1), .val (.int p2), .val (.int p3), .val (.int p4), .val (.int p5), .val (.int (0 : Int32)), .val (.int (p2 &&& (3 : Int32))), .val (.ref b3), .unset, .unset, .unset, .unset] [])) rfl (hb hby at_69) (by decide) (by decide)
        obtain ⟨b121, g121⟩ : ∃ z, z = h10.size := ⟨_, rfl⟩
        rw [← g121] at A121 D121 st121
        have sz_b121 : h0.size ≤ b121 := Nat.le_trans k14.1 (Nat.le_of_eq g121.symm)
        have gn_b121 : n0 ≤ b121 := Nat.le_trans Z0 sz_b121
        have ne_b3_b121 : b3 ≠ b121 := Nat.ne_of_lt (Nat.lt_of_lt_of_le f16.lt (Nat.le_of_eq g121.symm))
        have f122 := f11.ext E121
        have f123 := f12.ext E121
        have f124 := f16.ext E121
        have k125 := k14.ext E121
        have f126 : Fld Z h121 b121 "com/example/interleave/interleave/check/Expansion" "found" "Ljava/util/List;" .null := D121 (Or.inr (hw _ (List.mem_of_getElem? (i := 35) rfl))) (ty := (.object "java/util/List")) (by decide)
        have f127 : Fld Z h121 b121 "com/example/interleave/interleave/check/Expansion" "printed" "Ljava/util/List;" .null := D121 (Or.inr (hw _ (List.mem_of_getElem? (i := 37) rfl))) (ty := (.object "java/util/List")) (by decide)
        have f128 : Fld Z h121 b121 "com/example/interleave/interleave/check/Expansion" "sourceId" "I" (.int (0 : Int32)) := D121 (Or.inr (hw _ (List.mem_of_getElem? (i := 39) rfl))) (ty := .int) (by decide)
        have f129 : Fld Z h121 b121 "com/example/interleave/interleave/check/Expansion" "sourceParent" "I" (.int (0 : Int32)) := D121 (Or.inr (hw _ (List.mem_of_getElem? (i := 41) rfl))) (ty := .int) (by decide)
        have f130 : Fld Z h121 b121 "com/example/interleave/interleave/check/Expansion" "sourceBytes" "[B" .null := D121 (Or.inr (hw _ (List.mem_of_getElem? (i := 43) rfl))) (ty := (.array .byte)) (by decide)
        have zs131 : n0 ≤ h121.size := Nat.le_trans Z0 k125.1
        obtain ⟨_, _, ⟨T132, L132, k132, n132⟩, -, X132, ⟨Lc132, hQ132, l132, y132, z132⟩, st132⟩ := X121.specialBack hx (y := (⟨"com/example/interleave/interleave/check/Expansion", "<init>", "(II[B)V"⟩ : MethodName)) rfl hown (mvT hZ (hw _ (List.mem_of_getElem? (i := 4) rfl))) (mvT hZ (hw _ (List.mem_of_getElem? (i := 5) rfl))) (mvT hZ (hw _ (List.mem_of_getElem? (i := 6) rfl))) (by decide) (backOf (W := 1) (own_rm_exR l Z a0 hw [] b121 p0 p1 b3 aS h121 n0 zs131 f122 A121 f126 f127 f128 f129 f130 gn_b121) hZ (hw _ (List.mem_of_getElem? (i := 6) rfl)) (hw _ (List.mem_of_getElem? (i := 3) rfl)) (by decide) (by decide)) (g := (mkF m 77 #[.val (.int p0), .val (.int p1), .val (.int p2), .val (.int p3), .val (.int p4), .val (.int p5), .val (.int (0 : Int32)), .val (.int (p2 &&& (3 : Int32))), .val (.ref b3), .unset, .unset, .unset, .unset] [(.ref b3), (.int p1), (.int p0), (.ref b121), (.ref b121)])) rfl (by rw [hml]; rfl) (Steps.refl _) (a := b121) (argsL := [(.int p0), (.int p1), (.ref b3)]) (rest := [(.ref b121)]) (lenOf own_pd1 rfl) rfl (by show 2 * 0 + _ ≤ _; exact Nat.le_of_eq rfl) (hb hby at_77) (fun _ _ => ⟨rfl, e121, (by decide : 2 + 2 ≤ _), (by decide : 24 + 6 ≤ _)⟩)
        dsimp only [Pt.U, Pt.locs, Pt.cells, Pt.slots] at X132 l132 y132 z132 st132 hQ132
        subst l132 y132 z132
        obtain ⟨rfl, N133, K133, c133_0, c133_1, c133_2⟩ := hQ132
        have f134 := own_sta_keep f122 K133 (own_pl_cons A121 all0)
        have f135 := f123.keep K133
        have f136 := f124.keep K133 (ninS ne_b3_b121 nin0)
        have f137 := A121.keep K133
        have k138 := k125.trans K133 (allS (Or.inr sz_b121) all0)
        have nf139 := Fr.app nf15 N133
        have zs140 : n0 ≤ T132.heap.size := Nat.le_trans Z0 k138.1
        obtain ⟨cq142, kq142, q142a, q142b, q142c⟩ := isOf hZ rfl f137
        obtain ⟨_, _, ⟨T141, L141, k141, n141⟩, -, X141, ⟨Lc141, hQ141, l141, y141, z141⟩, st141⟩ := X132.virtualBack hx (y := (⟨"com/example/interleave/interleave/check/Expansion", "isInitial", "()Z"⟩ : MethodName)) (z := (⟨"com/example/interleave/interleave/check/Expansion", "isInitial", "()Z"⟩ : MethodName)) hown (mvT hZ (hw _ (List.mem_of_getElem? (i := 44) rfl))) (mvT hZ (hw _ (List.mem_of_getElem? (i := 45) rfl))) (notFace_of_selects (args := #[]) (mvT hZ (hw _ (List.mem_of_getElem? (i := 47) rfl)))) (mvT hZ (hw _ (List.mem_of_getElem? (i := 47) rfl))) (mvT hZ (hw _ (List.mem_of_getElem? (i := 46) rfl))) (by decide) (backOf (W := 0) (own_rm_isR l Z a0 hw [] b121 b3 T132.heap n0 zs140 c133_2) hZ (hw _ (List.mem_of_getElem? (i := 48) rfl)) (hw _ (List.mem_of_getElem? (i := 3) rfl)) (by decide) (by decide)) q142a q142c (g := (mkF m 96 #[.val (.int p0), .val (.int p1), .val (.int p2), .val (.int p3), .val (.int p4), .val (.int p5), .val (.int (0 : Int32)), .val (.int (p2 &&& (3 : Int32))), .val (.ref b3), .val (.ref b121), .val (.int (0 : Int32)), .unset, .unset] [(.ref b121)])) rfl (by rw [hml]; rfl) (Steps.refl _) (argsL := []) (rest := []) (lenOf own_pd2 rfl) rfl (by show 2 * 0 + _ ≤ _; exact Nat.le_of_eq rfl) (hb hby at_96) (fun _ _ => ⟨rfl, rfl, (by decide : 4 + 0 ≤ _), (by decide : 30 + 0 ≤ _)⟩)
        dsimp only [Pt.U, Pt.locs, Pt.cells, Pt.slots] at X141 l141 y141 z141 st141 hQ141
        subst l141 y141 z141
        obtain ⟨rfl, N143, eq143⟩ := hQ141
        have nf144 := Fr.app nf139 N143
        have zs145 : n0 ≤ T132.heap.size := Nat.le_trans Z0 k138.1
        obtain ⟨_, _, ⟨T146, L146, k146, n146⟩, -, X146, ⟨Lc146, hQ146, l146, y146, z146⟩, st146⟩ := Jvm.LawKit.callS X141 hx (y := (⟨"com/example/interleave/interleave/check/Expansion", "initial", "()Lcom/example/interleave/interleave/check/Expansion;"⟩ : MethodName)) hown (mvT hZ (hw _ (List.mem_of_getElem? (i := 49) rfl))) (mvT hZ (hw _ (List.mem_of_getElem? (i := 50) rfl))) (mvT hZ (hw _ (List.mem_of_getElem? (i := 3) rfl))) (mvT hZ (hw _ (List.mem_of_getElem? (i := 51) rfl))) (by decide) (backOf (W := 0) (own_rm_ini l Z a0 hw [] aS T132.heap n0 zs145 f134) hZ (hw _ (List.mem_of_getElem? (i := 51) rfl)) (hw _ (List.mem_of_getElem? (i := 3) rfl)) (by decide) (by decide)) (g := (mkF m 101 #[.val (.int p0), .val (.int p1), .val (.int p2), .val (.int p3), .val (.int p4), .val (.int p5), .val (.int (0 : Int32)), .val (.int (p2 &&& (3 : Int32))), .val (.ref b3), .val (.ref b121), .val (.int (0 : Int32)), .val (.int (0 : Int32)), .unset] [])) rfl (by rw [hml]; rfl) (argsL := []) (rest := []) (lenOf own_pd3 rfl) rfl (by show 2 * 0 + _ ≤ _; exact Nat.le_of_eq rfl) (hb hby at_101) (fun _ _ => ⟨rfl, eq143, (by decide : 4 + 3 ≤ _), (by decide : 30 + 27 ≤ _)⟩)
        dsimp only [Pt.U, Pt.locs, Pt.cells, Pt.slots] at X146 l146 y146 z146 st146 hQ146
        subst l146 y146 z146
        obtain ⟨bi147, rfl, N147, K147, c147_0, c147_1, c147_2⟩ := hQ146
        have sz_bi147 : h0.size ≤ bi147 := Nat.le_trans k138.1 c147_0
        have gn_bi147 : n0 ≤ bi147 := Nat.le_trans Z0 sz_bi147
        have ne_b3_bi147 : b3 ≠ bi147 := Nat.ne_of_lt (Nat.lt_of_lt_of_le f136.lt c147_0)
        have ne_b121_bi147 : b121 ≠ bi147 := Nat.ne_of_lt (Nat.lt_of_lt_of_le c133_2.lt c147_0)
        have f148 := own_sta_keep f134 K147 all0
        have f149 := f135.keep K147
        have f150 := f136.keep K147 nin0
        have f151 := f137.keep K147
        have f152 := c133_0.keep K147 nin0
        have f153 := c133_1.keep K147 nin0
        have f154 := c133_2.keep K147 nin0
        have k155 := k138.trans K147 all0
        have nf156 := Fr.app nf144 N147
        have zs157 : n0 ≤ T146.heap.size := Nat.le_trans Z0 k155.1
        obtain ⟨cq159, kq159, q159a, q159b, q159c⟩ := isOf hZ rfl c147_1
        obtain ⟨_, _, ⟨T158, L158, k158, n158⟩, -, X158, ⟨Lc158, hQ158, l158, y158, z158⟩, st158⟩ := X146.virtualBack hx (y := (⟨"com/example/interleave/interleave/check/Expansion", "isInitial", "()Z"⟩ : MethodName)) (z := (⟨"com/example/interleave/interleave/check/Expansion", "isInitial", "()Z"⟩ : MethodName)) hown (mvT hZ (hw _ (List.mem_of_getElem? (i := 44) rfl))) (mvT hZ (hw _ (List.mem_of_getElem? (i := 45) rfl))) (notFace_of_selects (args := #[]) (mvT hZ (hw _ (List.mem_of_getElem? (i := 47) rfl)))) (mvT hZ (hw _ (List.mem_of_getElem? (i := 47) rfl))) (mvT hZ (hw _ (List.mem_of_getElem? (i := 46) rfl))) (by decide) (backOf (W := 0) (own_rm_isN l Z a0 hw [] bi147 T146.heap n0 zs157 c147_2) hZ (hw _ (List.mem_of_getElem? (i := 48) rfl)) (hw _ (List.mem_of_getElem? (i := 3) rfl)) (by decide) (by decide)) q159a q159c (g := (mkF m 104 #[.val (.int p0), .val (.int p1), .val (.int p2), .val (.int p3), .val (.int p4), .val (.int p5), .val (.int (0 : Int32)), .val (.int (p2 &&& (3 : Int32))), .val (.ref b3), .val (.ref b121), .val (.int (0 : Int32)), .val (.int (0 : Int32)), .unset] [(.ref bi147)])) rfl (by rw [hml]; rfl) (Steps.refl _) (argsL := []) (rest := []) (lenOf own_pd2 rfl) rfl (by show 2 * 0 + _ ≤ _; exact Nat.le_of_eq rfl) (hb hby at_104) (fun _ _ => ⟨rfl, rfl, (by decide : 7 + 0 ≤ _), (by decide : 57 + 0 ≤ _)⟩)
        dsimp only [Pt.U, Pt.locs, Pt.cells, Pt.slots] at X158 l158 y158 z158 st158 hQ158
        subst l158 y158 z158
        obtain ⟨rfl, N160, eq160⟩ := hQ158
        have nf161 := Fr.app nf156 N160
        have pre162 : ∀ t, Steps p.tables e below (T158.setTop (mkF m 126 #[.val (.int p0), .val (.int p1), .val (.int p2), .val (.int p3), .val (.int p4), .val (.int p5), .val (.int (0 : Int32)), .val (.int (p2 &&& (3 : Int32))), .val (.ref b3), .val (.ref b121), .val (.int (0 : Int32)), .val (.int (0 : Int32)), .val (.int (1 : Int32))] [(.int (1 : Int32))])) t → Steps p.tables e below (s₁.setTop (entryFrame m #[(.int p0), (.int p1), (.int p2), (.int p3), (.int p4), (.int p5)] maxLocals)) t := by
          intro t kt
          refine pre17 t ?_
          show Steps p.tables e below (T10.setTop (mkF m 46 #[.val (.int p0), .val (.int p1), .val (.int p2), .val (.int p3), .val (.int p4), .val (.int p5), .val (.int (0 : Int32)), .val (.int (p2 &&& (3 : Int32))), .val (.ref b3), .unset, .unset, .unset, .unset] [(.int (1 : Int32)), (.int (p2 &&& (3 : Int32)))])) _
          refine XS.icmpYes X10.here hx rfl (pc0 := 46) (pc' := 56) rfl (hb hby at_46) rfl (flt hc18).2.2.2 (by decide) (by decide) ?_
          show Steps p.tables e below (T10.setTop (mkF m 56 #[.val (.int p0), .val (.int p1), .val (.int p2), .val (.int p3), .val (.int p4), .val (.int p5), .val (.int (0 : Int32)), .val (.int (p2 &&& (3 : Int32))), .val (.ref b3), .unset, .unset, .unset, .unset] [])) _
          refine XS.iload X10.here hx rfl (hb hby at_56) rfl ?_
          show Steps p.tables e below (T10.setTop (mkF m 58 #[.val (.int p0), .val (.int p1), .val (.int p2), .val (.int p3), .val (.int p4), .val (.int p5), .val (.int (0 : Int32)), .val (.int (p2 &&& (3 : Int32))), .val (.ref b3), .unset, .unset, .unset, .unset] [(.int (p2 &&& (3 : Int32)))])) _
          refine XS.iconst X10.here hx rfl (hb hby at_58) ?_
          show Steps p.tables e below (T10.setTop (mkF m 59 #[.val (.int p0), .val (.int p1), .val (.int p2), .val (.int p3), .val (.int p4), .val (.int p5), .val (.int (0 : Int32)), .val (.int (p2 &&& (3 : Int32))), .val (.ref b3), .unset, .unset, .unset, .unset] [(.int (2 : Int32)), (.int (p2 &&& (3 : Int32)))])) _
          refine XS.icmpYes X10.here hx rfl (pc0 := 59) (pc' := 69) rfl (hb hby at_59) rfl (flt (own_no2 hc18)).2.2.2 (by decide) (by decide) ?_
          show Steps p.tables e below (T10.setTop (mkF m 69 #[.val (.int p0), .val (.int p1), .val (.int p2), .val (.int p3), .val (.int p4), .val (.int p5), .val (.int (0 : Int32)), .val (.int (p2 &&& (3 : Int32))), .val (.ref b3), .unset, .unset, .unset, .unset] [])) _
          refine st121 _ ?_
          show Steps p.tables e below (T121.setTop (mkF m 72 #[.val (.int p0), .val (.int p1), .val (.int p2), .val (.int p3), .val (.int p4), .val (.int p5), .val (.int (0 : Int32)), .val (.int (p2 &&& (3 : Int32))), .val (.ref b3), .unset, .unset, .unset, .unset] [(.ref b121)])) _
          refine XS.dup X121.here hx rfl (hb hby at_72) rfl rfl ?_
          show Steps p.tables e below (T121.setTop (mkF m 73 #[.val (.int p0), .val (.int p1), .val (.int p2), .val (.int p3), .val (.int p4), .val (.int p5), .val (.int (0 : Int32)), .val (.int (p2 &&& (3 : Int32))), .val (.ref b3), .unset, .unset, .unset, .unset] [(.ref b121), (.ref b121)])) _
          refine XS.iloadN X121.here hx rfl (hb hby at_73) rfl ?_
          show Steps p.tables e below (T121.setTop (mkF m 74 #[.val (.int p0), .val (.int p1), .val (.int p2), .val (.int p3), .val (.int p4), .val (.int p5), .val (.int (0 : Int32)), .val (.int (p2 &&& (3 : Int32))), .val (.ref b3), .unset, .unset, .unset, .unset] [(.int p0), (.ref b121), (.ref b121)])) _
          refine XS.iloadN X121.here hx rfl (hb hby at_74) rfl ?_
          show Steps p.tables e below (T121.setTop (mkF m 75 #[.val (.int p0), .val (.int p1), .val (.int p2), .val (.int p3), .val (.int p4), .val (.int p5), .val (.int (0 : Int32)), .val (.int (p2 &&& (3 : Int32))), .val (.ref b3), .unset, .unset, .unset, .unset] [(.int p1), (.int p0), (.ref b121), (.ref b121)])) _
          refine XS.aload X121.here hx rfl (hb hby at_75) rfl rfl ?_
          show Steps p.tables e below (T121.setTop (mkF m 77 #[.val (.int p0), .val (.int p1), .val (.int p2), .val (.int p3), .val (.int p4), .val (.int p5), .val (.int (0 : Int32)), .val (.int (p2 &&& (3 : Int32))), .val (.ref b3), .unset, .unset, .unset, .unset] [(.ref b3), (.int p1), (.int p0), (.ref b121), (.ref b121)])) _
          refine st132.trans ?_
          show Steps p.tables e below (T132.setTop (mkF m 80 #[.val (.int p0), .val (.int p1), .val (.int p2), .val (.int p3), .val (.int p4), .val (.int p5), .val (.int (0 : Int32)), .val (.int (p2 &&& (3 : Int32))), .val (.ref b3), .unset, .unset, .unset, .unset] [(.ref b121)])) _
          refine XS.astore X132.here hx rfl (hb hby at_80) rfl rfl (l' := #[.val (.int p0), .val (.int p1), .val (.int p2), .val (.int p3), .val (.int p4), .val (.int p5), .val (.int (0 : Int32)), .val (.int (p2 &&& (3 : Int32))), .val (.ref b3), .val (.ref b121), .unset, .unset, .unset]) rfl ?_
          show Steps p.tables e below (T132.setTop (mkF m 82 #[.val (.int p0), .val (.int p1), .val (.int p2), .val (.int p3), .val (.int p4), .val (.int p5), .val (.int (0 : Int32)), .val (.int (p2 &&& (3 : Int32))), .val (.ref b3), .val (.ref b121), .unset, .unset, .unset] [])) _
          refine XS.aload X132.here hx rfl (hb hby at_82) rfl rfl ?_
          show Steps p.tables e below (T132.setTop (mkF m 84 #[.val (.int p0), .val (.int p1), .val (.int p2), .val (.int p3), .val (.int p4), .val (.int p5), .val (.int (0 : Int32)), .val (.int (p2 &&& (3 : Int32))), .val (.ref b3), .val (.ref b121), .unset, .unset, .unset] [(.ref b3)])) _
          refine XS.ifnonnullYes X132.here hx rfl (pc0 := 84) (pc' := 91) rfl (hb hby at_84) rfl (by decide) (by decide) ?_
          show Steps p.tables e below (T132.setTop (mkF m 91 #[.val (.int p0), .val (.int p1), .val (.int p2), .val (.int p3), .val (.int p4), .val (.int p5), .val (.int (0 : Int32)), .val (.int (p2 &&& (3 : Int32))), .val (.ref b3), .val (.ref b121), .unset, .unset, .unset] [])) _
          refine XS.iconst X132.here hx rfl (hb hby at_91) ?_
          show Steps p.tables e below (T132.setTop (mkF m 92 #[.val (.int p0), .val (.int p1), .val (.int p2), .val (.int p3), .val (.int p4), .val (.int p5), .val (.int (0 : Int32)), .val (.int (p2 &&& (3 : Int32))), .val (.ref b3), .val (.ref b121), .unset, .unset, .unset] [(.int (0 : Int32))])) _
          refine XS.istore X132.here hx rfl (hb hby at_92) rfl (l' := #[.val (.int p0), .val (.int p1), .val (.int p2), .val (.int p3), .val (.int p4), .val (.int p5), .val (.int (0 : Int32)), .val (.int (p2 &&& (3 : Int32))), .val (.ref b3), .val (.ref b121), .val (.int (0 : Int32)), .unset, .unset]) rfl ?_
          show Steps p.tables e below (T132.setTop (mkF m 94 #[.val (.int p0), .val (.int p1), .val (.int p2), .val (.int p3), .val (.int p4), .val (.int p5), .val (.int (0 : Int32)), .val (.int (p2 &&& (3 : Int32))), .val (.ref b3), .val (.ref b121), .val (.int (0 : Int32)), .unset, .unset] [])) _
          refine XS.aload X132.here hx rfl (hb hby at_94) rfl rfl ?_
          show Steps p.tables e below (T132.setTop (mkF m 96 #[.val (.int p0), .val (.int p1), .val (.int p2), .val (.int p3), .val (.int p4), .val (.int p5), .val (.int (0 : Int32)), .val (.int (p2 &&& (3 : Int32))), .val (.ref b3), .val (.ref b121), .val (.int (0 : Int32)), .unset, .unset] [(.ref b121)])) _
          refine st141.trans ?_
          show Steps p.tables e below (T141.setTop (mkF m 99 #[.val (.int p0), .val (.int p1), .val (.int p2), .val (.int p3), .val (.int p4), .val (.int p5), .val (.int (0 : Int32)), .val (.int (p2 &&& (3 : Int32))), .val (.ref b3), .val (.ref b121), .val (.int (0 : Int32)), .unset, .unset] [(.int (0 : Int32))])) _
          refine XS.istore X141.here hx rfl (hb hby at_99) rfl (l' := #[.val (.int p0), .val (.int p1), .val (.int p2), .val (.int p3), .val (.int p4), .val (.int p5), .val (.int (0 : Int32)), .val (.int (p2 &&& (3 : Int32))), .val (.ref b3), .val (.ref b121), .val (.int (0 : Int32)), .val (.int (0 : Int32)), .unset]) rfl ?_
          show Steps p.tables e below (T141.setTop (mkF m 101 #[.val (.int p0), .val (.int p1), .val (.int p2), .val (.int p3), .val (.int p4), .val (.int p5), .val (.int (0 : Int32)), .val (.int (p2 &&& (3 : Int32))), .val (.ref b3), .val (.ref b121), .val (.int (0 : Int32)), .val (.int (0 : Int32)), .unset] [])) _
          refine st146 _ ?_
          show Steps p.tables e below (T146.setTop (mkF m 104 #[.val (.int p0), .val (.int p1), .val (.int p2), .val (.int p3), .val (.int p4), .val (.int p5), .val (.int (0 : Int32)), .val (.int (p2 &&& (3 : Int32))), .val (.ref b3), .val (.ref b121), .val (.int (0 : Int32)), .val (.int (0 : Int32)), .unset] [(.ref bi147)])) _
          refine st158.trans ?_
          show Steps p.tables e below (T158.setTop (mkF m 107 #[.val (.int p0), .val (.int p1), .val (.int p2), .val (.int p3), .val (.int p4), .val (.int p5), .val (.int (0 : Int32)), .val (.int (p2 &&& (3 : Int32))), .val (.ref b3), .val (.ref b121), .val (.int (0 : Int32)), .val (.int (0 : Int32)), .unset] [(.int (1 : Int32))])) _
          refine XS.istore X158.here hx rfl (hb hby at_107) rfl (l' := #[.val (.int p0), .val (.int p1), .val (.int p2), .val (.int p3), .val (.int p4), .val (.int p5), .val (.int (0 : Int32)), .val (.int (p2 &&& (3 : Int32))), .val (.ref b3), .val (.ref b121), .val (.int (0 : Int32)), .val (.int (0 : Int32)), .val (.int (1 : Int32))]) rfl ?_
          show Steps p.tables e below (T158.setTop (mkF m 109 #[.val (.int p0), .val (.int p1), .val (.int p2), .val (.int p3), .val (.int p4), .val (.int p5), .val (.int (0 : Int32)), .val (.int (p2 &&& (3 : Int32))), .val (.ref b3), .val (.ref b121), .val (.int (0 : Int32)), .val (.int (0 : Int32)), .val (.int (1 : Int32))] [])) _
          refine XS.iload X158.here hx rfl (hb hby at_109) rfl ?_
          show Steps p.tables e below (T158.setTop (mkF m 111 #[.val (.int p0), .val (.int p1), .val (.int p2), .val (.int p3), .val (.int p4), .val (.int p5), .val (.int (0 : Int32)), .val (.int (p2 &&& (3 : Int32))), .val (.ref b3), .val (.ref b121), .val (.int (0 : Int32)), .val (.int (0 : Int32)), .val (.int (1 : Int32))] [(.int (0 : Int32))])) _
          refine XS.iload X158.here hx rfl (hb hby at_111) rfl ?_
          show Steps p.tables e below (T158.setTop (mkF m 113 #[.val (.int p0), .val (.int p1), .val (.int p2), .val (.int p3), .val (.int p4), .val (.int p5), .val (.int (0 : Int32)), .val (.int (p2 &&& (3 : Int32))), .val (.ref b3), .val (.ref b121), .val (.int (0 : Int32)), .val (.int (0 : Int32)), .val (.int (1 : Int32))] [(.int (0 : Int32)), (.int (0 : Int32))])) _
          refine XS.icmpNo X158.here hx rfl (hb hby at_113) rfl (teq (rfl : (0 : Int32) = (0 : Int32))).2 ?_
          show Steps p.tables e below (T158.setTop (mkF m 116 #[.val (.int p0), .val (.int p1), .val (.int p2), .val (.int p3), .val (.int p4), .val (.int p5), .val (.int (0 : Int32)), .val (.int (p2 &&& (3 : Int32))), .val (.ref b3), .val (.ref b121), .val (.int (0 : Int32)), .val (.int (0 : Int32)), .val (.int (1 : Int32))] [])) _
          refine XS.iload X158.here hx rfl (hb hby at_116) rfl ?_
          show Steps p.tables e below (T158.setTop (mkF m 118 #[.val (.int p0), .val (.int p1), .val (.int p2), .val (.int p3), .val (.int p4), .val (.int p5), .val (.int (0 : Int32)), .val (.int (p2 &&& (3 : Int32))), .val (.ref b3), .val (.ref b121), .val (.int (0 : Int32)), .val (.int (0 : Int32)), .val (.int (1 : Int32))] [(.int (1 : Int32))])) _
          refine XS.ifNo X158.here hx rfl (hb hby at_118) rfl ((if0 _ _).trans (feq (by decide : ¬ ((1 : Int32) = (0 : Int32)))).1) ?_
          show Steps p.tables e below (T158.setTop (mkF m 121 #[.val (.int p0), .val (.int p1), .val (.int p2), .val (.int p3), .val (.int p4), .val (.int p5), .val (.int (0 : Int32)), .val (.int (p2 &&& (3 : Int32))), .val (.ref b3), .val (.ref b121), .val (.int (0 : Int32)), .val (.int (0 : Int32)), .val (.int (1 : Int32))] [])) _
          refine XS.iconst X158.here hx rfl (hb hby at_121) ?_
          show Steps p.tables e below (T158.setTop (mkF m 122 #[.val (.int p0), .val (.int p1), .val (.int p2), .val (.int p3), .val (.int p4), .val (.int p5), .val (.int (0 : Int32)), .val (.int (p2 &&& (3 : Int32))), .val (.ref b3), .val (.ref b121), .val (.int (0 : Int32)), .val (.int (0 : Int32)), .val (.int (1 : Int32))] [(.int (1 : Int32))])) _
          refine XS.goto X158.here hx rfl (pc0 := 122) (pc' := 126) rfl (hb hby at_122) (by decide) (by decide) ?_
          exact kt
        obtain ⟨fs, hr, hrun, hended, hW, hsame⟩ := X158.leave (v := some (.int (1 : Int32))) (fun h => by rw [Bd.returns] at h; cases h)
        refine ⟨_, _, pre162 _ ?_, hrun, hended, _, _, rfl, ?_, ⟨_, rfl⟩, hW, hsame.mono (by decide) (by decide)⟩
        · show Steps p.tables e below (T158.setTop (mkF m 126 #[.val (.int p0), .val (.int p1), .val (.int p2), .val (.int p3), .val (.int p4), .val (.int p5), .val (.int (0 : Int32)), .val (.int (p2 &&& (3 : Int32))), .val (.ref b3), .val (.ref b121), .val (.int (0 : Int32)), .val (.int (0 : Int32)), .val (.int (1 : Int32))] [(.int (1 : Int32))])) _
          exact retN X158 hx (t := .boolean) Bd.returns (by simp) (hb hby at_126) hr
        · show own_Q_law Z p0 p1 p2 p3 p4 p5 aS h0 n0 (some (.int (1 : Int32))) T158.heap _
          rw [eq160]
          exact ⟨rfl, nf161⟩
    · obtain ⟨T163, h163, X163, e163, E163, A163, D163, -, st163⟩ := newO X3 hx hZ hown (hw _ (List.mem_of_getElem? (i := 1) rfl)) (hw _ (List.mem_of_getElem? (i := 2) rfl)) (hw _ (List.mem_of_getElem? (i := 3) rfl)) e3 (g := (mkF m 69 #[.val (.int p0), .val (.int p1), .val (.int p2), .val (.int p3), .val (.int p4), .val (.int p5), .val (.int (0 : Int32)), .val (.int (p2 &&& (3 : Int32))), .val (.ref b3), .unset, .unset, .unset, .unset] [])) rfl (hb hby at_69) (by decide) (by decide)
      obtain ⟨b163, g163⟩ : ∃ z, z = h3.size := ⟨_, rfl⟩
      rw [← g163] at A163 D163 st163
      have sz_b163 : h0.size ≤ b163 := Nat.le_trans k5.1 (Nat.le_of_eq g163.symm)
      have gn_b163 : n0 ≤ b163 := Nat.le_trans Z0 sz_b163
      have ne_b3_b163 : b3 ≠ b163 := Nat.ne_of_lt (Nat.lt_of_lt_of_le f6.lt (Nat.le_of_eq g163.symm))
      have f164 := f4.ext E163
      have f165 := I3.ext E163
      have f166 := f6.ext E163
      have k167 := k5.ext E163
      have f168 : Fld Z h163 b163 "com/example/interleave/interleave/check/Expansion" "found" "Ljava/util/List;" .null := D163 (Or.inr (hw _ (List.mem_of_getElem? (i := 35) rfl))) (ty := (.object "java/util/List")) (by decide)
      have f169 : Fld Z h163 b163 "com/example/interleave/interleave/check/Expansion" "printed" "Ljava/util/List;" .null := D163 (Or.inr (hw _ (List.mem_of_getElem? (i := 37) rfl))) (ty := (.object "java/util/List")) (by decide)
      have f170 : Fld Z h163 b163 "com/example/interleave/interleave/check/Expansion" "sourceId" "I" (.int (0 : Int32)) := D163 (Or.inr (hw _ (List.mem_of_getElem? (i := 39) rfl))) (ty := .int) (by decide)
      have f171 : Fld Z h163 b163 "com/example/interleave/interleave/check/Expansion" "sourceParent" "I" (.int (0 : Int32)) := D163 (Or.inr (hw _ (List.mem_of_getElem? (i := 41) rfl))) (ty := .int) (by decide)
      have f172 : Fld Z h163 b163 "com/example/interleave/interleave/check/Expansion" "sourceBytes" "[B" .null := D163 (Or.inr (hw _ (List.mem_of_getElem? (i := 43) rfl))) (ty := (.array .byte)) (by decide)
      have zs173 : n0 ≤ h163.size := Nat.le_trans Z0 k167.1
      obtain ⟨_, _, ⟨T174, L174, k174, n174⟩, -, X174, ⟨Lc174, hQ174, l174, y174, z174⟩, st174⟩ := X163.specialBack hx (y := (⟨"com/example/interleave/interleave/check/Expansion", "<init>", "(II[B)V"⟩ : MethodName)) rfl hown (mvT hZ (hw _ (List.mem_of_getElem? (i := 4) rfl))) (mvT hZ (hw _ (List.mem_of_getElem? (i := 5) rfl))) (mvT hZ (hw _ (List.mem_of_getElem? (i := 6) rfl))) (by decide) (backOf (W := 1) (own_rm_exR l Z a0 hw [] b163 p0 p1 b3 aS h163 n0 zs173 f164 A163 f168 f169 f170 f171 f172 gn_b163) hZ (hw _ (List.mem_of_getElem? (i := 6) rfl)) (hw _ (List.mem_of_getElem? (i := 3) rfl)) (by decide) (by decide)) (g := (mkF m 77 #[.val (.int p0), .val (.int p1), .val (.int p2), .val (.int p3), .val (.int p4), .val (.int p5), .val (.int (0 : Int32)), .val (.int (p2 &&& (3 : Int32))), .val (.ref b3), .unset, .unset, .unset, .unset] [(.ref b3), (.int p1), (.int p0), (.ref b163), (.ref b163)])) rfl (by rw [hml]; rfl) (Steps.refl _) (a := b163) (argsL := [(.int p0), (.int p1), (.ref b3)]) (rest := [(.ref b163)]) (lenOf own_pd1 rfl) rfl (by show 2 * 0 + _ ≤ _; exact Nat.le_of_eq rfl) (hb hby at_77) (fun _ _ => ⟨rfl, e163, (by decide : 2 + 2 ≤ _), (by decide : 24 + 6 ≤ _)⟩)
      dsimp only [Pt.U, Pt.locs, Pt.cells, Pt.slots] at X174 l174 y174 z174 st174 hQ174
      subst l174 y174 z174
      obtain ⟨rfl, N175, K175, c175_0, c175_1, c175_2⟩ := hQ174
      have f176 := own_sta_keep f164 K175 (own_pl_cons A163 all0)
      have f177 := f165.keep K175
      have f178 := f166.keep K175 (ninS ne_b3_b163 nin0)
      have f179 := A163.keep K175
      have k180 := k167.trans K175 (allS (Or.inr sz_b163) all0)
      have nf181 := Fr.app N0 N175
      have zs182 : n0 ≤ T174.heap.size := Nat.le_trans Z0 k180.1
      obtain ⟨cq184, kq184, q184a, q184b, q184c⟩ := isOf hZ rfl f179
      obtain ⟨_, _, ⟨T183, L183, k183, n183⟩, -, X183, ⟨Lc183, hQ183, l183, y183, z183⟩, st183⟩ := X174.virtualBack hx (y := (⟨"com/example/interleave/interleave/check/Expansion", "isInitial", "()Z"⟩ : MethodName)) (z := (⟨"com/example/interleave/interleave/check/Expansion", "isInitial", "()Z"⟩ : MethodName)) hown (mvT hZ (hw _ (List.mem_of_getElem? (i := 44) rfl))) (mvT hZ (hw _ (List.mem_of_getElem? (i := 45) rfl))) (notFace_of_selects (args := #[]) (mvT hZ (hw _ (List.mem_of_getElem? (i := 47) rfl)))) (mvT hZ (hw _ (List.mem_of_getElem? (i := 47) rfl))) (mvT hZ (hw _ (List.mem_of_getElem? (i := 46) rfl))) (by decide) (backOf (W := 0) (own_rm_isR l Z a0 hw [] b163 b3 T174.heap n0 zs182 c175_2) hZ (hw _ (List.mem_of_getElem? (i := 48) rfl)) (hw _ (List.mem_of_getElem? (i := 3) rfl)) (by decide) (by decide)) q184a q184c (g := (mkF m 96 #[.val (.int p0), .val (.int p1), .val (.int p2), .val (.int p3), .val (.int p4), .val (.int p5), .val (.int (0 : Int32)), .val (.int (p2 &&& (3 : Int32))), .val (.ref b3), .val (.ref b163), .val (.int (0 : Int32)), .unset, .unset] [(.ref b163)])) rfl (by rw [hml]; rfl) (Steps.refl _) (argsL := []) (rest := []) (lenOf own_pd2 rfl) rfl (by show 2 * 0 + _ ≤ _; exact Nat.le_of_eq rfl) (hb hby at_96) (fun _ _ => ⟨rfl, rfl, (by decide : 4 + 0 ≤ _), (by decide : 30 + 0 ≤ _)⟩)
      dsimp only [Pt.U, Pt.locs, Pt.cells, Pt.slots] at X183 l183 y183 z183 st183 hQ183
      subst l183 y183 z183
      obtain ⟨rfl, N185, eq185⟩ := hQ183
      have nf186 := Fr.app nf181 N185
      have zs187 : n0 ≤ T174.heap.size := Nat.le_trans Z0 k180.1
      obtain ⟨_, _, ⟨T188, L188, k188, n188⟩, -, X188, ⟨Lc188, hQ188, l188, y188, z188⟩, st188⟩ := Jvm.LawKit.callS X183 hx (y := (⟨"com/example/interleave/interleave/check/Expansion", "initial", "()Lcom/example/interleave/interleave/check/Expansion;"⟩ : MethodName)) hown (mvT hZ (hw _ (List.mem_of_getElem? (i := 49) rfl))) (mvT hZ (hw _ (List.mem_of_getElem? (i := 50) rfl))) (mvT hZ (hw _ (List.mem_of_getElem? (i := 3) rfl))) (mvT hZ (hw _ (List.mem_of_getElem? (i := 51) rfl))) (by decide) (backOf (W := 0) (own_rm_ini l Z a0 hw [] aS T174.heap n0 zs187 f176) hZ (hw _ (List.mem_of_getElem? (i := 51) rfl)) (hw _ (List.mem_of_getElem? (i := 3) rfl)) (by decide) (by decide)) (g := (mkF m 101 #[.val (.int p0), .val (.int p1), .val (.int p2), .val (.int p3), .val (.int p4), .val (.int p5), .val (.int (0 : Int32)), .val (.int (p2 &&& (3 : Int32))), .val (.ref b3), .val (.ref b163), .val (.int (0 : Int32)), .val (.int (0 : Int32)), .unset] [])) rfl (by rw [hml]; rfl) (argsL := []) (rest := []) (lenOf own_pd3 rfl) rfl (by show 2 * 0 + _ ≤ _; exact Nat.le_of_eq rfl) (hb hby at_101) (fun _ _ => ⟨rfl, eq185, (by decide : 4 + 3 ≤ _), (by decide : 30 + 27 ≤ _)⟩)
      dsimp only [Pt.U, Pt.locs, Pt.cells, Pt.slots] at X188 l188 y188 z188 st188 hQ188
      subst l188 y188 z188
      obtain ⟨bi189, rfl, N189, K189, c189_0, c189_1, c189_2⟩ := hQ188
      have sz_bi189 : h0.size ≤ bi189 := Nat.le_trans k180.1 c189_0
      have gn_bi189 : n0 ≤ bi189 := Nat.le_trans Z0 sz_bi189
      have ne_b3_bi189 : b3 ≠ bi189 := Nat.ne_of_lt (Nat.lt_of_lt_of_le f178.lt c189_0)
      have ne_b163_bi189 : b163 ≠ bi189 := Nat.ne_of_lt (Nat.lt_of_lt_of_le c175_2.lt c189_0)
      have f190 := own_sta_keep f176 K189 all0
      have f191 := f177.keep K189
      have f192 := f178.keep K189 nin0
      have f193 := f179.keep K189
      have f194 := c175_0.keep K189 nin0
      have f195 := c175_1.keep K189 nin0
      have f196 := c175_2.keep K189 nin0
      have k197 := k180.trans K189 all0
      have nf198 := Fr.app nf186 N189
      have zs199 : n0 ≤ T188.heap.size := Nat.le_trans Z0 k197.1
      obtain ⟨cq201, kq201, q201a, q201b, q201c⟩ := isOf hZ rfl c189_1
      obtain ⟨_, _, ⟨T200, L200, k200, n200⟩, -, X200, ⟨Lc200, hQ200, l200, y200, z200⟩, st200⟩ := X188.virtualBack hx (y := (⟨"com/example/interleave/interleave/check/Expansion", "isInitial", "()Z"⟩ : MethodName)) (z := (⟨"com/example/interleave/interleave/check/Expansion", "isInitial", "()Z"⟩ : MethodName)) hown (mvT hZ (hw _ (List.mem_of_getElem? (i := 44) rfl))) (mvT hZ (hw _ (List.mem_of_getElem? (i := 45) rfl))) (notFace_of_selects (args := #[]) (mvT hZ (hw _ (List.mem_of_getElem? (i := 47) rfl)))) (mvT hZ (hw _ (List.mem_of_getElem? (i := 47) rfl))) (mvT hZ (hw _ (List.mem_of_getElem? (i := 46) rfl))) (by decide) (backOf (W := 0) (own_rm_isN l Z a0 hw [] bi189 T188.heap n0 zs199 c189_2) hZ (hw _ (List.mem_of_getElem? (i := 48) rfl)) (hw _ (List.mem_of_getElem? (i := 3) rfl)) (by decide) (by decide)) q201a q201c (g := (mkF m 104 #[.val (.int p0), .val (.int p1), .val (.int p2), .val (.int p3), .val (.int p4), .val (.int p5), .val (.int (0 : Int32)), .val (.int (p2 &&& (3 : Int32))), .val (.ref b3), .val (.ref b163), .val (.int (0 : Int32)), .val (.int (0 : Int32)), .unset] [(.ref bi189)])) rfl (by rw [hml]; rfl) (Steps.refl _) (argsL := []) (rest := []) (lenOf own_pd2 rfl) rfl (by show 2 * 0 + _ ≤ _; exact Nat.le_of_eq rfl) (hb hby at_104) (fun _ _ => ⟨rfl, rfl, (by decide : 7 + 0 ≤ _), (by decide : 57 + 0 ≤ _)⟩)
      dsimp only [Pt.U, Pt.locs, Pt.cells, Pt.slots] at X200 l200 y200 z200 st200 hQ200
      subst l200 y200 z200
      obtain ⟨rfl, N202, eq202⟩ := hQ200
      have nf203 := Fr.app nf198 N202
      have pre204 : ∀ t, Steps p.tables e below (T200.setTop (mkF m 126 #[.val (.int p0), .val (.int p1), .val (.int p2), .val (.int p3), .val (.int p4), .val (.int p5), .val (.int (0 : Int32)), .val (.int (p2 &&& (3 : Int32))), .val (.ref b3), .val (.ref b163), .val (.int (0 : Int32)), .val (.int (0 : Int32)), .val (.int (1 : Int32))] [(.int (1 : Int32))])) t → Steps p.tables e below (s₁.setTop (entryFrame m #[(.int p0), (.int p1), (.int p2), (.int p3), (.int p4), (.int p5)] maxLocals)) t := by
        intro t kt
        refine pre7 t ?_
        show Steps p.tables e below (T3.setTop (mkF m 34 #[.val (.int p0), .val (.int p1), .val (.int p2), .val (.int p3), .val (.int p4), .val (.int p5), .val (.int (0 : Int32)), .val (.int (p2 &&& (3 : Int32))), .val (.ref b3), .unset, .unset, .unset, .unset] [(.int (p2 &&& (3 : Int32)))])) _
        refine XS.ifYes X3.here hx rfl (pc0 := 34) (pc' := 43) rfl (hb hby at_34) rfl ((if0 _ _).trans (flt hc8).2.2.2) (by decide) (by decide) ?_
        show Steps p.tables e below (T3.setTop (mkF m 43 #[.val (.int p0), .val (.int p1), .val (.int p2), .val (.int p3), .val (.int p4), .val (.int p5), .val (.int (0 : Int32)), .val (.int (p2 &&& (3 : Int32))), .val (.ref b3), .unset, .unset, .unset, .unset] [])) _
        refine XS.iload X3.here hx rfl (hb hby at_43) rfl ?_
        show Steps p.tables e below (T3.setTop (mkF m 45 #[.val (.int p0), .val (.int p1), .val (.int p2), .val (.int p3), .val (.int p4), .val (.int p5), .val (.int (0 : Int32)), .val (.int (p2 &&& (3 : Int32))), .val (.ref b3), .unset, .unset, .unset, .unset] [(.int (p2 &&& (3 : Int32)))])) _
        refine XS.iconst X3.here hx rfl (hb hby at_45) ?_
        show Steps p.tables e below (T3.setTop (mkF m 46 #[.val (.int p0), .val (.int p1), .val (.int p2), .val (.int p3), .val (.int p4), .val (.int p5), .val (.int (0 : Int32)), .val (.int (p2 &&& (3 : Int32))), .val (.ref b3), .unset, .unset, .unset, .unset] [(.int (1 : Int32)), (.int (p2 &&& (3 : Int32)))])) _
        refine XS.icmpYes X3.here hx rfl (pc0 := 46) (pc' := 56) rfl (hb hby at_46) rfl (flt (own_no1 hc8)).2.2.2 (by decide) (by decide) ?_
        show Steps p.tables e below (T3.setTop (mkF m 56 #[.val (.int p0), .val (.int p1), .val (.int p2), .val (.int p3), .val (.int p4), .val (.int p5), .val (.int (0 : Int32)), .val (.int (p2 &&& (3 : Int32))), .val (.ref b3), .unset, .unset, .unset, .unset] [])) _
        refine XS.iload X3.here hx rfl (hb hby at_56) rfl ?_
        show Steps p.tables e below (T3.setTop (mkF m 58 #[.val (.int p0), .val (.int p1), .val (.int p2), .val (.int p3), .val (.int p4), .val (.int p5), .val (.int (0 : Int32)), .val (.int (p2 &&& (3 : Int32))), .val (.ref b3), .unset, .unset, .unset, .unset] [(.int (p2 &&& (3 : Int32)))])) _
        refine XS.iconst X3.here hx rfl (hb hby at_58) ?_
        show Steps p.tables e below (T3.setTop (mkF m 59 #[.val (.int p0), .val (.int p1), .val (.int p2), .val (.int p3), .val (.int p4), .val (.int p5), .val (.int (0 : Int32)), .val (.int (p2 &&& (3 : Int32))), .val (.ref b3), .unset, .unset, .unset, .unset] [(.int (2 : Int32)), (.int (p2 &&& (3 : Int32)))])) _
        refine XS.icmpYes X3.here hx rfl (pc0 := 59) (pc' := 69) rfl (hb hby at_59) rfl (flt (own_no2 (own_no1 hc8))).2.2.2 (by decide) (by decide) ?_
        show Steps p.tables e below (T3.setTop (mkF m 69 #[.val (.int p0), .val (.int p1), .val (.int p2), .val (.int p3), .val (.int p4), .val (.int p5), .val (.int (0 : Int32)), .val (.int (p2 &&& (3 : Int32))), .val (.ref b3), .unset, .unset, .unset, .unset] [])) _
        refine st163 _ ?_
        show Steps p.tables e below (T163.setTop (mkF m 72 #[.val (.int p0), .val (.int p1), .val (.int p2), .val (.int p3), .val (.int p4), .val (.int p5), .val (.int (0 : Int32)), .val (.int (p2 &&& (3 : Int32))), .val (.ref b3), .unset, .unset, .unset, .unset] [(.ref b163)])) _
        refine XS.dup X163.here hx rfl (hb hby at_72) rfl rfl ?_
        show Steps p.tables e below (T163.setTop (mkF m 73 #[.val (.int p0), .val (.int p1), .val (.int p2), .val (.int p3), .val (.int p4), .val (.int p5), .val (.int (0 : Int32)), .val (.int (p2 &&& (3 : Int32))), .val (.ref b3), .unset, .unset, .unset, .unset] [(.ref b163), (.ref b163)])) _
        refine XS.iloadN X163.here hx rfl (hb hby at_73) rfl ?_
        show Steps p.tables e below (T163.setTop (mkF m 74 #[.val (.int p0), .val (.int p1), .val (.int p2), .val (.int p3), .val (.int p4), .val (.int p5), .val (.int (0 : Int32)), .val (.int (p2 &&& (3 : Int32))), .val (.ref b3), .unset, .unset, .unset, .unset] [(.int p0), (.ref b163), (.ref b163)])) _
        refine XS.iloadN X163.here hx rfl (hb hby at_74) rfl ?_
        show Steps p.tables e below (T163.setTop (mkF m 75 #[.val (.int p0), .val (.int p1), .val (.int p2), .val (.int p3), .val (.int p4), .val (.int p5), .val (.int (0 : Int32)), .val (.int (p2 &&& (3 : Int32))), .val (.ref b3), .unset, .unset, .unset, .unset] [(.int p1), (.int p0), (.ref b163), (.ref b163)])) _
        refine XS.aload X163.here hx rfl (hb hby at_75) rfl rfl ?_
        show Steps p.tables e below (T163.setTop (mkF m 77 #[.val (.int p0), .val (.int p1), .val (.int p2), .val (.int p3), .val (.int p4), .val (.int p5), .val (.int (0 : Int32)), .val (.int (p2 &&& (3 : Int32))), .val (.ref b3), .unset, .unset, .unset, .unset] [(.ref b3), (.int p1), (.int p0), (.ref b163), (.ref b163)])) _
        refine st174.trans ?_
        show Steps p.tables e below (T174.setTop (mkF m 80 #[.val (.int p0), .val (.int p1), .val (.int p2), .val (.int p3), .val (.int p4), .val (.int p5), .val (.int (0 : Int32)), .val (.int (p2 &&& (3 : Int32))), .val (.ref b3), .unset, .unset, .unset, .unset] [(.ref b163)])) _
        refine XS.astore X174.here hx rfl (hb hby at_80) rfl rfl (l' := #[.val (.int p0), .val (.int p1), .val (.int p2), .val (.int p3), .val (.int p4), .val (.int p5), .val (.int (0 : Int32)), .val (.int (p2 &&& (3 : Int32))), .val (.ref b3), .val (.ref b163), .unset, .unset, .unset]) rfl ?_
        show Steps p.tables e below (T174.setTop (mkF m 82 #[.val (.int p0), .val (.int p1), .val (.int p2), .val (.int p3), .val (.int p4), .val (.int p5), .val (.int (0 : Int32)), .val (.int (p2 &&& (3 : Int32))), .val (.ref b3), .val (.ref b163), .unset, .unset, .unset] [])) _
        refine XS.aload X174.here hx rfl (hb hby at_82) rfl rfl ?_
        show Steps p.tables e below (T174.setTop (mkF m 84 #[.val (.int p0), .val (.int p1), .val (.int p2), .val (.int p3), .val (.int p4), .val (.int p5), .val (.int (0 : Int32)), .val (.int (p2 &&& (3 : Int32))), .val (.ref b3), .val (.ref b163), .unset, .unset, .unset] [(.ref b3)])) _
        refine XS.ifnonnullYes X174.here hx rfl (pc0 := 84) (pc' := 91) rfl (hb hby at_84) rfl (by decide) (by decide) ?_
        show Steps p.tables e below (T174.setTop (mkF m 91 #[.val (.int p0), .val (.int p1), .val (.int p2), .val (.int p3), .val (.int p4), .val (.int p5), .val (.int (0 : Int32)), .val (.int (p2 &&& (3 : Int32))), .val (.ref b3), .val (.ref b163), .unset, .unset, .unset] [])) _
        refine XS.iconst X174.here hx rfl (hb hby at_91) ?_
        show Steps p.tables e below (T174.setTop (mkF m 92 #[.val (.int p0), .val (.int p1), .val (.int p2), .val (.int p3), .val (.int p4), .val (.int p5), .val (.int (0 : Int32)), .val (.int (p2 &&& (3 : Int32))), .val (.ref b3), .val (.ref b163), .unset, .unset, .unset] [(.int (0 : Int32))])) _
        refine XS.istore X174.here hx rfl (hb hby at_92) rfl (l' := #[.val (.int p0), .val (.int p1), .val (.int p2), .val (.int p3), .val (.int p4), .val (.int p5), .val (.int (0 : Int32)), .val (.int (p2 &&& (3 : Int32))), .val (.ref b3), .val (.ref b163), .val (.int (0 : Int32)), .unset, .unset]) rfl ?_
        show Steps p.tables e below (T174.setTop (mkF m 94 #[.val (.int p0), .val (.int p1), .val (.int p2), .val (.int p3), .val (.int p4), .val (.int p5), .val (.int (0 : Int32)), .val (.int (p2 &&& (3 : Int32))), .val (.ref b3), .val (.ref b163), .val (.int (0 : Int32)), .unset, .unset] [])) _
        refine XS.aload X174.here hx rfl (hb hby at_94) rfl rfl ?_
        show Steps p.tables e below (T174.setTop (mkF m 96 #[.val (.int p0), .val (.int p1), .val (.int p2), .val (.int p3), .val (.int p4), .val (.int p5), .val (.int (0 : Int32)), .val (.int (p2 &&& (3 : Int32))), .val (.ref b3), .val (.ref b163), .val (.int (0 : Int32)), .unset, .unset] [(.ref b163)])) _
        refine st183.trans ?_
        show Steps p.tables e below (T183.setTop (mkF m 99 #[.val (.int p0), .val (.int p1), .val (.int p2), .val (.int p3), .val (.int p4), .val (.int p5), .val (.int (0 : Int32)), .val (.int (p2 &&& (3 : Int32))), .val (.ref b3), .val (.ref b163), .val (.int (0 : Int32)), .unset, .unset] [(.int (0 : Int32))])) _
        refine XS.istore X183.here hx rfl (hb hby at_99) rfl (l' := #[.val (.int p0), .val (.int p1), .val (.int p2), .val (.int p3), .val (.int p4), .val (.int p5), .val (.int (0 : Int32)), .val (.int (p2 &&& (3 : Int32))), .val (.ref b3), .val (.ref b163), .val (.int (0 : Int32)), .val (.int (0 : Int32)), .unset]) rfl ?_
        show Steps p.tables e below (T183.setTop (mkF m 101 #[.val (.int p0), .val (.int p1), .val (.int p2), .val (.int p3), .val (.int p4), .val (.int p5), .val (.int (0 : Int32)), .val (.int (p2 &&& (3 : Int32))), .val (.ref b3), .val (.ref b163), .val (.int (0 : Int32)), .val (.int (0 : Int32)), .unset] [])) _
        refine st188 _ ?_
        show Steps p.tables e below (T188.setTop (mkF m 104 #[.val (.int p0), .val (.int p1), .val (.int p2), .val (.int p3), .val (.int p4), .val (.int p5), .val (.int (0 : Int32)), .val (.int (p2 &&& (3 : Int32))), .val (.ref b3), .val (.ref b163), .val (.int (0 : Int32)), .val (.int (0 : Int32)), .unset] [(.ref bi189)])) _
        refine st200.trans ?_
        show Steps p.tables e below (T200.setTop (mkF m 107 #[.val (.int p0), .val (.int p1), .val (.int p2), .val (.int p3), .val (.int p4), .val (.int p5), .val (.int (0 : Int32)), .val (.int (p2 &&& (3 : Int32))), .val (.ref b3), .val (.ref b163), .val (.int (0 : Int32)), .val (.int (0 : Int32)), .unset] [(.int (1 : Int32))])) _
        refine XS.istore X200.here hx rfl (hb hby at_107) rfl (l' := #[.val (.int p0), .val (.int p1), .val (.int p2), .val (.int p3), .val (.int p4), .val (.int p5), .val (.int (0 : Int32)), .val (.int (p2 &&& (3 : Int32))), .val (.ref b3), .val (.ref b163), .val (.int (0 : Int32)), .val (.int (0 : Int32)), .val (.int (1 : Int32))]) rfl ?_
        show Steps p.tables e below (T200.setTop (mkF m 109 #[.val (.int p0), .val (.int p1), .val (.int p2), .val (.int p3), .val (.int p4), .val (.int p5), .val (.int (0 : Int32)), .val (.int (p2 &&& (3 : Int32))), .val (.ref b3), .val (.ref b163), .val (.int (0 : Int32)), .val (.int (0 : Int32)), .val (.int (1 : Int32))] [])) _
        refine XS.iload X200.here hx rfl (hb hby at_109) rfl ?_
        show Steps p.tables e below (T200.setTop (mkF m 111 #[.val (.int p0), .val (.int p1), .val (.int p2), .val (.int p3), .val (.int p4), .val (.int p5), .val (.int (0 : Int32)), .val (.int (p2 &&& (3 : Int32))), .val (.ref b3), .val (.ref b163), .val (.int (0 : Int32)), .val (.int (0 : Int32)), .val (.int (1 : Int32))] [(.int (0 : Int32))])) _
        refine XS.iload X200.here hx rfl (hb hby at_111) rfl ?_
        show Steps p.tables e below (T200.setTop (mkF m 113 #[.val (.int p0), .val (.int p1), .val (.int p2), .val (.int p3), .val (.int p4), .val (.int p5), .val (.int (0 : Int32)), .val (.int (p2 &&& (3 : Int32))), .val (.ref b3), .val (.ref b163), .val (.int (0 : Int32)), .val (.int (0 : Int32)), .val (.int (1 : Int32))] [(.int (0 : Int32)), (.int (0 : Int32))])) _
        refine XS.icmpNo X200.here hx rfl (hb hby at_113) rfl (teq (rfl : (0 : Int32) = (0 : Int32))).2 ?_
        show Steps p.tables e below (T200.setTop (mkF m 116 #[.val (.int p0), .val (.int p1), .val (.int p2), .val (.int p3), .val (.int p4), .val (.int p5), .val (.int (0 : Int32)), .val (.int (p2 &&& (3 : Int32))), .val (.ref b3), .val (.ref b163), .val (.int (0 : Int32)), .val (.int (0 : Int32)), .val (.int (1 : Int32))] [])) _
        refine XS.iload X200.here hx rfl (hb hby at_116) rfl ?_
        show Steps p.tables e below (T200.setTop (mkF m 118 #[.val (.int p0), .val (.int p1), .val (.int p2), .val (.int p3), .val (.int p4), .val (.int p5), .val (.int (0 : Int32)), .val (.int (p2 &&& (3 : Int32))), .val (.ref b3), .val (.ref b163), .val (.int (0 : Int32)), .val (.int (0 : Int32)), .val (.int (1 : Int32))] [(.int (1 : Int32))])) _
        refine XS.ifNo X200.here hx rfl (hb hby at_118) rfl ((if0 _ _).trans (feq (by decide : ¬ ((1 : Int32) = (0 : Int32)))).1) ?_
        show Steps p.tables e below (T200.setTop (mkF m 121 #[.val (.int p0), .val (.int p1), .val (.int p2), .val (.int p3), .val (.int p4), .val (.int p5), .val (.int (0 : Int32)), .val (.int (p2 &&& (3 : Int32))), .val (.ref b3), .val (.ref b163), .val (.int (0 : Int32)), .val (.int (0 : Int32)), .val (.int (1 : Int32))] [])) _
        refine XS.iconst X200.here hx rfl (hb hby at_121) ?_
        show Steps p.tables e below (T200.setTop (mkF m 122 #[.val (.int p0), .val (.int p1), .val (.int p2), .val (.int p3), .val (.int p4), .val (.int p5), .val (.int (0 : Int32)), .val (.int (p2 &&& (3 : Int32))), .val (.ref b3), .val (.ref b163), .val (.int (0 : Int32)), .val (.int (0 : Int32)), .val (.int (1 : Int32))] [(.int (1 : Int32))])) _
        refine XS.goto X200.here hx rfl (pc0 := 122) (pc' := 126) rfl (hb hby at_122) (by decide) (by decide) ?_
        exact kt
      obtain ⟨fs, hr, hrun, hended, hW, hsame⟩ := X200.leave (v := some (.int (1 : Int32))) (fun h => by rw [Bd.returns] at h; cases h)
      refine ⟨_, _, pre204 _ ?_, hrun, hended, _, _, rfl, ?_, ⟨_, rfl⟩, hW, hsame.mono (by decide) (by decide)⟩
      · show Steps p.tables e below (T200.setTop (mkF m 126 #[.val (.int p0), .val (.int p1), .val (.int p2), .val (.int p3), .val (.int p4), .val (.int p5), .val (.int (0 : Int32)), .val (.int (p2 &&& (3 : Int32))), .val (.ref b3), .val (.ref b163), .val (.int (0 : Int32)), .val (.int (0 : Int32)), .val (.int (1 : Int32))] [(.int (1 : Int32))])) _
        exact retN X200 hx (t := .boolean) Bd.returns (by simp) (hb hby at_126) hr
      · show own_Q_law Z p0 p1 p2 p3 p4 p5 aS h0 n0 (some (.int (1 : Int32))) T200.heap _
        rw [eq202]
        exact ⟨rfl, nf203⟩
  · obtain ⟨T205, h205, X205, e205, E205, A205, D205, -, st205⟩ := newO X0 hx hZ hown (hw _ (List.mem_of_getElem? (i := 1) rfl)) (hw _ (List.mem_of_getElem? (i := 2) rfl)) (hw _ (List.mem_of_getElem? (i := 3) rfl)) e0 (g := (mkF m 69 #[.val (.int p0), .val (.int p1), .val (.int p2), .val (.int p3), .val (.int p4), .val (.int p5), .val (.int (1 : Int32)), .val (.int (p2 &&& (3 : Int32))), .val .null, .unset, .unset, .unset, .unset] [])) rfl (hb hby at_69) (by decide) (by decide)
    obtain ⟨b205, g205⟩ : ∃ z, z = h0.size := ⟨_, rfl⟩
    rw [← g205] at A205 D205 st205
    have sz_b205 : h0.size ≤ b205 := Nat.le_trans K0.1 (Nat.le_of_eq g205.symm)
    have gn_b205 : n0 ≤ b205 := Nat.le_trans Z0 sz_b205
    have f206 := S0.ext E205
    have k207 := K0.ext E205
    have f208 : Fld Z h205 b205 "com/example/interleave/interleave/check/Expansion" "found" "Ljava/util/List;" .null := D205 (Or.inr (hw _ (List.mem_of_getElem? (i := 35) rfl))) (ty := (.object "java/util/List")) (by decide)
    have f209 : Fld Z h205 b205 "com/example/interleave/interleave/check/Expansion" "printed" "Ljava/util/List;" .null := D205 (Or.inr (hw _ (List.mem_of_getElem? (i := 37) rfl))) (ty := (.object "java/util/List")) (by decide)
    have f210 : Fld Z h205 b205 "com/example/interleave/interleave/check/Expansion" "sourceId" "I" (.int (0 : Int32)) := D205 (Or.inr (hw _ (List.mem_of_getElem? (i := 39) rfl))) (ty := .int) (by decide)
    have f211 : Fld Z h205 b205 "com/example/interleave/interleave/check/Expansion" "sourceParent" "I" (.int (0 : Int32)) := D205 (Or.inr (hw _ (List.mem_of_getElem? (i := 41) rfl))) (ty := .int) (by decide)
    have f212 : Fld Z h205 b205 "com/example/interleave/interleave/check/Expansion" "sourceBytes" "[B" .null := D205 (Or.inr (hw _ (List.mem_of_getElem? (i := 43) rfl))) (ty := (.array .byte)) (by decide)
    have zs213 : n0 ≤ h205.size := Nat.le_trans Z0 k207.1
    obtain ⟨_, _, ⟨T214, L214, k214, n214⟩, -, X214, ⟨Lc214, hQ214, l214, y214, z214⟩, st214⟩ := X205.specialBack hx (y := (⟨"com/example/interleave/interleave/check/Expansion", "<init>", "(II[B)V"⟩ : MethodName)) rfl hown (mvT hZ (hw _ (List.mem_of_getElem? (i := 4) rfl))) (mvT hZ (hw _ (List.mem_of_getElem? (i := 5) rfl))) (mvT hZ (hw _ (List.mem_of_getElem? (i := 6) rfl))) (by decide) (backOf (W := 1) (own_rm_exN l Z a0 hw [] b205 p0 p1 aS h205 n0 zs213 f206 A205 f208 f209 f210 f211 f212 gn_b205) hZ (hw _ (List.mem_of_getElem? (i := 6) rfl)) (hw _ (List.mem_of_getElem? (i := 3) rfl)) (by decide) (by decide)) (g := (mkF m 77 #[.val (.int p0), .val (.int p1), .val (.int p2), .val (.int p3), .val (.int p4), .val (.int p5), .val (.int (1 : Int32)), .val (.int (p2 &&& (3 : Int32))), .val .null, .unset, .unset, .unset, .unset] [.null, (.int p1), (.int p0), (.ref b205), (.ref b205)])) rfl (by rw [hml]; rfl) (Steps.refl _) (a := b205) (argsL := [(.int p0), (.int p1), .null]) (rest := [(.ref b205)]) (lenOf own_pd1 rfl) rfl (by show 2 * 0 + _ ≤ _; exact Nat.le_of_eq rfl) (hb hby at_77) (fun _ _ => ⟨rfl, e205, (by decide : 1 + 2 ≤ _), (by decide : 21 + 6 ≤ _)⟩)
    dsimp only [Pt.U, Pt.locs, Pt.cells, Pt.slots] at X214 l214 y214 z214 st214 hQ214
    subst l214 y214 z214
    obtain ⟨rfl, N215, K215, c215_0, c215_1, c215_2⟩ := hQ214
    have f216 := own_sta_keep f206 K215 (own_pl_cons A205 all0)
    have f217 := A205.keep K215
    have k218 := k207.trans K215 (allS (Or.inr sz_b205) all0)
    have nf219 := Fr.app N0 N215
    have zs220 : n0 ≤ T214.heap.size := Nat.le_trans Z0 k218.1
    obtain ⟨cq222, kq222, q222a, q222b, q222c⟩ := isOf hZ rfl f217
    obtain ⟨_, _, ⟨T221, L221, k221, n221⟩, -, X221, ⟨Lc221, hQ221, l221, y221, z221⟩, st221⟩ := X214.virtualBack hx (y := (⟨"com/example/interleave/interleave/check/Expansion", "isInitial", "()Z"⟩ : MethodName)) (z := (⟨"com/example/interleave/interleave/check/Expansion", "isInitial", "()Z"⟩ : MethodName)) hown (mvT hZ (hw _ (List.mem_of_getElem? (i := 44) rfl))) (mvT hZ (hw _ (List.mem_of_getElem? (i := 45) rfl))) (notFace_of_selects (args := #[]) (mvT hZ (hw _ (List.mem_of_getElem? (i := 47) rfl)))) (mvT hZ (hw _ (List.mem_of_getElem? (i := 47) rfl))) (mvT hZ (hw _ (List.mem_of_getElem? (i := 46) rfl))) (by decide) (backOf (W := 0) (own_rm_isN l Z a0 hw [] b205 T214.heap n0 zs220 c215_2) hZ (hw _ (List.mem_of_getElem? (i := 48) rfl)) (hw _ (List.mem_of_getElem? (i := 3) rfl)) (by decide) (by decide)) q222a q222c (g := (mkF m 96 #[.val (.int p0), .val (.int p1), .val (.int p2), .val (.int p3), .val (.int p4), .val (.int p5), .val (.int (1 : Int32)), .val (.int (p2 &&& (3 : Int32))), .val .null, .val (.ref b205), .val (.int (1 : Int32)), .unset, .unset] [(.ref b205)])) rfl (by rw [hml]; rfl) (Steps.refl _) (argsL := []) (rest := []) (lenOf own_pd2 rfl) rfl (by show 2 * 0 + _ ≤ _; exact Nat.le_of_eq rfl) (hb hby at_96) (fun _ _ => ⟨rfl, rfl, (by decide : 3 + 0 ≤ _), (by decide : 27 + 0 ≤ _)⟩)
    dsimp only [Pt.U, Pt.locs, Pt.cells, Pt.slots] at X221 l221 y221 z221 st221 hQ221
    subst l221 y221 z221
    obtain ⟨rfl, N223, eq223⟩ := hQ221
    have nf224 := Fr.app nf219 N223
    have zs225 : n0 ≤ T214.heap.size := Nat.le_trans Z0 k218.1
    obtain ⟨_, _, ⟨T226, L226, k226, n226⟩, -, X226, ⟨Lc226, hQ226, l226, y226, z226⟩, st226⟩ := Jvm.LawKit.callS X221 hx (y := (⟨"com/example/interleave/interleave/check/Expansion", "initial", "()Lcom/example/interleave/interleave/check/Expansion;"⟩ : MethodName)) hown (mvT hZ (hw _ (List.mem_of_getElem? (i := 49) rfl))) (mvT hZ (hw _ (List.mem_of_getElem? (i := 50) rfl))) (mvT hZ (hw _ (List.mem_of_getElem? (i := 3) rfl))) (mvT hZ (hw _ (List.mem_of_getElem? (i := 51) rfl))) (by decide) (backOf (W := 0) (own_rm_ini l Z a0 hw [] aS T214.heap n0 zs225 f216) hZ (hw _ (List.mem_of_getElem? (i := 51) rfl)) (hw _ (List.mem_of_getElem? (i := 3) rfl)) (by decide) (by decide)) (g := (mkF m 101 #[.val (.int p0), .val (.int p1), .val (.int p2), .val (.int p3), .val (.int p4), .val (.int p5), .val (.int (1 : Int32)), .val (.int (p2 &&& (3 : Int32))), .val .null, .val (.ref b205), .val (.int (1 : Int32)), .val (.int (1 : Int32)), .unset] [])) rfl (by rw [hml]; rfl) (argsL := []) (rest := []) (lenOf own_pd3 rfl) rfl (by show 2 * 0 + _ ≤ _; exact Nat.le_of_eq rfl) (hb hby at_101) (fun _ _ => ⟨rfl, eq223, (by decide : 3 + 3 ≤ _), (by decide : 27 + 27 ≤ _)⟩)
    dsimp only [Pt.U, Pt.locs, Pt.cells, Pt.slots] at X226 l226 y226 z226 st226 hQ226
    subst l226 y226 z226
    obtain ⟨bi227, rfl, N227, K227, c227_0, c227_1, c227_2⟩ := hQ226
    have sz_bi227 : h0.size ≤ bi227 := Nat.le_trans k218.1 c227_0
    have gn_bi227 : n0 ≤ bi227 := Nat.le_trans Z0 sz_bi227
    have ne_b205_bi227 : b205 ≠ bi227 := Nat.ne_of_lt (Nat.lt_of_lt_of_le c215_2.lt c227_0)
    have f228 := own_sta_keep f216 K227 all0
    have f229 := f217.keep K227
    have f230 := c215_0.keep K227 nin0
    have f231 := c215_1.keep K227 nin0
    have f232 := c215_2.keep K227 nin0
    have k233 := k218.trans K227 all0
    have nf234 := Fr.app nf224 N227
    have zs235 : n0 ≤ T226.heap.size := Nat.le_trans Z0 k233.1
    obtain ⟨cq237, kq237, q237a, q237b, q237c⟩ := isOf hZ rfl c227_1
    obtain ⟨_, _, ⟨T236, L236, k236, n236⟩, -, X236, ⟨Lc236, hQ236, l236, y236, z236⟩, st236⟩ := X226.virtualBack hx (y := (⟨"com/example/interleave/interleave/check/Expansion", "isInitial", "()Z"⟩ : MethodName)) (z := (⟨"com/example/interleave/interleave/check/Expansion", "isInitial", "()Z"⟩ : MethodName)) hown (mvT hZ (hw _ (List.mem_of_getElem? (i := 44) rfl))) (mvT hZ (hw _ (List.mem_of_getElem? (i := 45) rfl))) (notFace_of_selects (args := #[]) (mvT hZ (hw _ (List.mem_of_getElem? (i := 47) rfl)))) (mvT hZ (hw _ (List.mem_of_getElem? (i := 47) rfl))) (mvT hZ (hw _ (List.mem_of_getElem? (i := 46) rfl))) (by decide) (backOf (W := 0) (own_rm_isN l Z a0 hw [] bi227 T226.heap n0 zs235 c227_2) hZ (hw _ (List.mem_of_getElem? (i := 48) rfl)) (hw _ (List.mem_of_getElem? (i := 3) rfl)) (by decide) (by decide)) q237a q237c (g := (mkF m 104 #[.val (.int p0), .val (.int p1), .val (.int p2), .val (.int p3), .val (.int p4), .val (.int p5), .val (.int (1 : Int32)), .val (.int (p2 &&& (3 : Int32))), .val .null, .val (.ref b205), .val (.int (1 : Int32)), .val (.int (1 : Int32)), .unset] [(.ref bi227)])) rfl (by rw [hml]; rfl) (Steps.refl _) (argsL := []) (rest := []) (lenOf own_pd2 rfl) rfl (by show 2 * 0 + _ ≤ _; exact Nat.le_of_eq rfl) (hb hby at_104) (fun _ _ => ⟨rfl, rfl, (by decide : 6 + 0 ≤ _), (by decide : 54 + 0 ≤ _)⟩)
    dsimp only [Pt.U, Pt.locs, Pt.cells, Pt.slots] at X236 l236 y236 z236 st236 hQ236
    subst l236 y236 z236
    obtain ⟨rfl, N238, eq238⟩ := hQ236
    have nf239 := Fr.app nf234 N238
    have pre240 : ∀ t, Steps p.tables e below (T236.setTop (mkF m 126 #[.val (.int p0), .val (.int p1), .val (.int p2), .val (.int p3), .val (.int p4), .val (.int p5), .val (.int (1 : Int32)), .val (.int (p2 &&& (3 : Int32))), .val .null, .val (.ref b205), .val (.int (1 : Int32)), .val (.int (1 : Int32)), .val (.int (1 : Int32))] [(.int (1 : Int32))])) t → Steps p.tables e below (s₁.setTop (entryFrame m #[(.int p0), (.int p1), (.int p2), (.int p3), (.int p4), (.int p5)] maxLocals)) t := by
      intro t kt
      refine pre1 t ?_
      show Steps p.tables e below (s₁.setTop (mkF m 3 #[.val (.int p0), .val (.int p1), .val (.int p2), .val (.int p3), .val (.int p4), .val (.int p5), .unset, .unset, .unset, .unset, .unset, .unset, .unset] [(.int (p2 &&& (4 : Int32)))])) _
      refine XS.ifNo X0.here hx rfl (hb hby at_3) rfl ((if0 _ _).trans (feq hc2).1) ?_
      show Steps p.tables e below (s₁.setTop (mkF m 6 #[.val (.int p0), .val (.int p1), .val (.int p2), .val (.int p3), .val (.int p4), .val (.int p5), .unset, .unset, .unset, .unset, .unset, .unset, .unset] [])) _
      refine XS.iconst X0.here hx rfl (hb hby at_6) ?_
      show Steps p.tables e below (s₁.setTop (mkF m 7 #[.val (.int p0), .val (.int p1), .val (.int p2), .val (.int p3), .val (.int p4), .val (.int p5), .unset, .unset, .unset, .unset, .unset, .unset, .unset] [(.int (1 : Int32))])) _
      refine XS.goto X0.here hx rfl (pc0 := 7) (pc' := 11) rfl (hb hby at_7) (by decide) (by decide) ?_
      show Steps p.tables e below (s₁.setTop (mkF m 11 #[.val (.int p0), .val (.int p1), .val (.int p2), .val (.int p3), .val (.int p4), .val (.int p5), .unset, .unset, .unset, .unset, .unset, .unset, .unset] [(.int (1 : Int32))])) _
      refine XS.istore X0.here hx rfl (hb hby at_11) rfl (l' := #[.val (.int p0), .val (.int p1), .val (.int p2), .val (.int p3), .val (.int p4), .val (.int p5), .val (.int (1 : Int32)), .unset, .unset, .unset, .unset, .unset, .unset]) rfl ?_
      show Steps p.tables e below (s₁.setTop (mkF m 13 #[.val (.int p0), .val (.int p1), .val (.int p2), .val (.int p3), .val (.int p4), .val (.int p5), .val (.int (1 : Int32)), .unset, .unset, .unset, .unset, .unset, .unset] [])) _
      refine XS.iloadN X0.here hx rfl (hb hby at_13) rfl ?_
      show Steps p.tables e below (s₁.setTop (mkF m 14 #[.val (.int p0), .val (.int p1), .val (.int p2), .val (.int p3), .val (.int p4), .val (.int p5), .val (.int (1 : Int32)), .unset, .unset, .unset, .unset, .unset, .unset] [(.int p2)])) _
      refine XS.iconst X0.here hx rfl (hb hby at_14) ?_
      show Steps p.tables e below (s₁.setTop (mkF m 15 #[.val (.int p0), .val (.int p1), .val (.int p2), .val (.int p3), .val (.int p4), .val (.int p5), .val (.int (1 : Int32)), .unset, .unset, .unset, .unset, .unset, .unset] [(.int (3 : Int32)), (.int p2)])) _
      refine XS.iand X0.here hx rfl (hb hby at_15) rfl ?_
      show Steps p.tables e below (s₁.setTop (mkF m 16 #[.val (.int p0), .val (.int p1), .val (.int p2), .val (.int p3), .val (.int p4), .val (.int p5), .val (.int (1 : Int32)), .unset, .unset, .unset, .unset, .unset, .unset] [(.int (p2 &&& (3 : Int32)))])) _
      refine XS.istore X0.here hx rfl (hb hby at_16) rfl (l' := #[.val (.int p0), .val (.int p1), .val (.int p2), .val (.int p3), .val (.int p4), .val (.int p5), .val (.int (1 : Int32)), .val (.int (p2 &&& (3 : Int32))), .unset, .unset, .unset, .unset, .unset]) rfl ?_
      show Steps p.tables e below (s₁.setTop (mkF m 18 #[.val (.int p0), .val (.int p1), .val (.int p2), .val (.int p3), .val (.int p4), .val (.int p5), .val (.int (1 : Int32)), .val (.int (p2 &&& (3 : Int32))), .unset, .unset, .unset, .unset, .unset] [])) _
      refine XS.aconstNull X0.here hx rfl (hb hby at_18) ?_
      show Steps p.tables e below (s₁.setTop (mkF m 19 #[.val (.int p0), .val (.int p1), .val (.int p2), .val (.int p3), .val (.int p4), .val (.int p5), .val (.int (1 : Int32)), .val (.int (p2 &&& (3 : Int32))), .unset, .unset, .unset, .unset, .unset] [.null])) _
      refine XS.astore X0.here hx rfl (hb hby at_19) rfl rfl (l' := #[.val (.int p0), .val (.int p1), .val (.int p2), .val (.int p3), .val (.int p4), .val (.int p5), .val (.int (1 : Int32)), .val (.int (p2 &&& (3 : Int32))), .val .null, .unset, .unset, .unset, .unset]) rfl ?_
      show Steps p.tables e below (s₁.setTop (mkF m 21 #[.val (.int p0), .val (.int p1), .val (.int p2), .val (.int p3), .val (.int p4), .val (.int p5), .val (.int (1 : Int32)), .val (.int (p2 &&& (3 : Int32))), .val .null, .unset, .unset, .unset, .unset] [])) _
      refine XS.iload X0.here hx rfl (hb hby at_21) rfl ?_
      show Steps p.tables e below (s₁.setTop (mkF m 23 #[.val (.int p0), .val (.int p1), .val (.int p2), .val (.int p3), .val (.int p4), .val (.int p5), .val (.int (1 : Int32)), .val (.int (p2 &&& (3 : Int32))), .val .null, .unset, .unset, .unset, .unset] [(.int (1 : Int32))])) _
      refine XS.ifYes X0.here hx rfl (pc0 := 23) (pc' := 69) rfl (hb hby at_23) rfl ((if0 _ _).trans (feq (by decide : ¬ ((1 : Int32) = (0 : Int32)))).2) (by decide) (by decide) ?_
      show Steps p.tables e below (s₁.setTop (mkF m 69 #[.val (.int p0), .val (.int p1), .val (.int p2), .val (.int p3), .val (.int p4), .val (.int p5), .val (.int (1 : Int32)), .val (.int (p2 &&& (3 : Int32))), .val .null, .unset, .unset, .unset, .unset] [])) _
      refine st205 _ ?_
      show Steps p.tables e below (T205.setTop (mkF m 72 #[.val (.int p0), .val (.int p1), .val (.int p2), .val (.int p3), .val (.int p4), .val (.int p5), .val (.int (1 : Int32)), .val (.int (p2 &&& (3 : Int32))), .val .null, .unset, .unset, .unset, .unset] [(.ref b205)])) _
      refine XS.dup X205.here hx rfl (hb hby at_72) rfl rfl ?_
      show Steps p.tables e below (T205.setTop (mkF m 73 #[.val (.int p0), .val (.int p1), .val (.int p2), .val (.int p3), .val (.int p4), .val (.int p5), .val (.int (1 : Int32)), .val (.int (p2 &&& (3 : Int32))), .val .null, .unset, .unset, .unset, .unset] [(.ref b205), (.ref b205)])) _
      refine XS.iloadN X205.here hx rfl (hb hby at_73) rfl ?_
      show Steps p.tables e below (T205.setTop (mkF m 74 #[.val (.int p0), .val (.int p1), .val (.int p2), .val (.int p3), .val (.int p4), .val (.int p5), .val (.int (1 : Int32)), .val (.int (p2 &&& (3 : Int32))), .val .null, .unset, .unset, .unset, .unset] [(.int p0), (.ref b205), (.ref b205)])) _
      refine XS.iloadN X205.here hx rfl (hb hby at_74) rfl ?_
      show Steps p.tables e below (T205.setTop (mkF m 75 #[.val (.int p0), .val (.int p1), .val (.int p2), .val (.int p3), .val (.int p4), .val (.int p5), .val (.int (1 : Int32)), .val (.int (p2 &&& (3 : Int32))), .val .null, .unset, .unset, .unset, .unset] [(.int p1), (.int p0), (.ref b205), (.ref b205)])) _
      refine XS.aload X205.here hx rfl (hb hby at_75) rfl rfl ?_
      show Steps p.tables e below (T205.setTop (mkF m 77 #[.val (.int p0), .val (.int p1), .val (.int p2), .val (.int p3), .val (.int p4), .val (.int p5), .val (.int (1 : Int32)), .val (.int (p2 &&& (3 : Int32))), .val .null, .unset, .unset, .unset, .unset] [.null, (.int p1), (.int p0), (.ref b205), (.ref b205)])) _
      refine st214.trans ?_
      show Steps p.tables e below (T214.setTop (mkF m 80 #[.val (.int p0), .val (.int p1), .val (.int p2), .val (.int p3), .val (.int p4), .val (.int p5), .val (.int (1 : Int32)), .val (.int (p2 &&& (3 : Int32))), .val .null, .unset, .unset, .unset, .unset] [(.ref b205)])) _
      refine XS.astore X214.here hx rfl (hb hby at_80) rfl rfl (l' := #[.val (.int p0), .val (.int p1), .val (.int p2), .val (.int p3), .val (.int p4), .val (.int p5), .val (.int (1 : Int32)), .val (.int (p2 &&& (3 : Int32))), .val .null, .val (.ref b205), .unset, .unset, .unset]) rfl ?_
      show Steps p.tables e below (T214.setTop (mkF m 82 #[.val (.int p0), .val (.int p1), .val (.int p2), .val (.int p3), .val (.int p4), .val (.int p5), .val (.int (1 : Int32)), .val (.int (p2 &&& (3 : Int32))), .val .null, .val (.ref b205), .unset, .unset, .unset] [])) _
      refine XS.aload X214.here hx rfl (hb hby at_82) rfl rfl ?_
      show Steps p.tables e below (T214.setTop (mkF m 84 #[.val (.int p0), .val (.int p1), .val (.int p2), .val (.int p3), .val (.int p4), .val (.int p5), .val (.int (1 : Int32)), .val (.int (p2 &&& (3 : Int32))), .val .null, .val (.ref b205), .unset, .unset, .unset] [.null])) _
      refine XS.ifnonnullNo X214.here hx rfl (hb hby at_84) rfl ?_
      show Steps p.tables e below (T214.setTop (mkF m 87 #[.val (.int p0), .val (.int p1), .val (.int p2), .val (.int p3), .val (.int p4), .val (.int p5), .val (.int (1 : Int32)), .val (.int (p2 &&& (3 : Int32))), .val .null, .val (.ref b205), .unset, .unset, .unset] [])) _
      refine XS.iconst X214.here hx rfl (hb hby at_87) ?_
      show Steps p.tables e below (T214.setTop (mkF m 88 #[.val (.int p0), .val (.int p1), .val (.int p2), .val (.int p3), .val (.int p4), .val (.int p5), .val (.int (1 : Int32)), .val (.int (p2 &&& (3 : Int32))), .val .null, .val (.ref b205), .unset, .unset, .unset] [(.int (1 : Int32))])) _
      refine XS.goto X214.here hx rfl (pc0 := 88) (pc' := 92) rfl (hb hby at_88) (by decide) (by decide) ?_
      show Steps p.tables e below (T214.setTop (mkF m 92 #[.val (.int p0), .val (.int p1), .val (.int p2), .val (.int p3), .val (.int p4), .val (.int p5), .val (.int (1 : Int32)), .val (.int (p2 &&& (3 : Int32))), .val .null, .val (.ref b205), .unset, .unset, .unset] [(.int (1 : Int32))])) _
      refine XS.istore X214.here hx rfl (hb hby at_92) rfl (l' := #[.val (.int p0), .val (.int p1), .val (.int p2), .val (.int p3), .val (.int p4), .val (.int p5), .val (.int (1 : Int32)), .val (.int (p2 &&& (3 : Int32))), .val .null, .val (.ref b205), .val (.int (1 : Int32)), .unset, .unset]) rfl ?_
      show Steps p.tables e below (T214.setTop (mkF m 94 #[.val (.int p0), .val (.int p1), .val (.int p2), .val (.int p3), .val (.int p4), .val (.int p5), .val (.int (1 : Int32)), .val (.int (p2 &&& (3 : Int32))), .val .null, .val (.ref b205), .val (.int (1 : Int32)), .unset, .unset] [])) _
      refine XS.aload X214.here hx rfl (hb hby at_94) rfl rfl ?_
      show Steps p.tables e below (T214.setTop (mkF m 96 #[.val (.int p0), .val (.int p1), .val (.int p2), .val (.int p3), .val (.int p4), .val (.int p5), .val (.int (1 : Int32)), .val (.int (p2 &&& (3 : Int32))), .val .null, .val (.ref b205), .val (.int (1 : Int32)), .unset, .unset] [(.ref b205)])) _
      refine st221.trans ?_
      show Steps p.tables e below (T221.setTop (mkF m 99 #[.val (.int p0), .val (.int p1), .val (.int p2), .val (.int p3), .val (.int p4), .val (.int p5), .val (.int (1 : Int32)), .val (.int (p2 &&& (3 : Int32))), .val .null, .val (.ref b205), .val (.int (1 : Int32)), .unset, .unset] [(.int (1 : Int32))])) _
      refine XS.istore X221.here hx rfl (hb hby at_99) rfl (l' := #[.val (.int p0), .val (.int p1), .val (.int p2), .val (.int p3), .val (.int p4), .val (.int p5), .val (.int (1 : Int32)), .val (.int (p2 &&& (3 : Int32))), .val .null, .val (.ref b205), .val (.int (1 : Int32)), .val (.int (1 : Int32)), .unset]) rfl ?_
      show Steps p.tables e below (T221.setTop (mkF m 101 #[.val (.int p0), .val (.int p1), .val (.int p2), .val (.int p3), .val (.int p4), .val (.int p5), .val (.int (1 : Int32)), .val (.int (p2 &&& (3 : Int32))), .val .null, .val (.ref b205), .val (.int (1 : Int32)), .val (.int (1 : Int32)), .unset] [])) _
      refine st226 _ ?_
      show Steps p.tables e below (T226.setTop (mkF m 104 #[.val (.int p0), .val (.int p1), .val (.int p2), .val (.int p3), .val (.int p4), .val (.int p5), .val (.int (1 : Int32)), .val (.int (p2 &&& (3 : Int32))), .val .null, .val (.ref b205), .val (.int (1 : Int32)), .val (.int (1 : Int32)), .unset] [(.ref bi227)])) _
      refine st236.trans ?_
      show Steps p.tables e below (T236.setTop (mkF m 107 #[.val (.int p0), .val (.int p1), .val (.int p2), .val (.int p3), .val (.int p4), .val (.int p5), .val (.int (1 : Int32)), .val (.int (p2 &&& (3 : Int32))), .val .null, .val (.ref b205), .val (.int (1 : Int32)), .val (.int (1 : Int32)), .unset] [(.int (1 : Int32))])) _
      refine XS.istore X236.here hx rfl (hb hby at_107) rfl (l' := #[.val (.int p0), .val (.int p1), .val (.int p2), .val (.int p3), .val (.int p4), .val (.int p5), .val (.int (1 : Int32)), .val (.int (p2 &&& (3 : Int32))), .val .null, .val (.ref b205), .val (.int (1 : Int32)), .val (.int (1 : Int32)), .val (.int (1 : Int32))]) rfl ?_
      show Steps p.tables e below (T236.setTop (mkF m 109 #[.val (.int p0), .val (.int p1), .val (.int p2), .val (.int p3), .val (.int p4), .val (.int p5), .val (.int (1 : Int32)), .val (.int (p2 &&& (3 : Int32))), .val .null, .val (.ref b205), .val (.int (1 : Int32)), .val (.int (1 : Int32)), .val (.int (1 : Int32))] [])) _
      refine XS.iload X236.here hx rfl (hb hby at_109) rfl ?_
      show Steps p.tables e below (T236.setTop (mkF m 111 #[.val (.int p0), .val (.int p1), .val (.int p2), .val (.int p3), .val (.int p4), .val (.int p5), .val (.int (1 : Int32)), .val (.int (p2 &&& (3 : Int32))), .val .null, .val (.ref b205), .val (.int (1 : Int32)), .val (.int (1 : Int32)), .val (.int (1 : Int32))] [(.int (1 : Int32))])) _
      refine XS.iload X236.here hx rfl (hb hby at_111) rfl ?_
      show Steps p.tables e below (T236.setTop (mkF m 113 #[.val (.int p0), .val (.int p1), .val (.int p2), .val (.int p3), .val (.int p4), .val (.int p5), .val (.int (1 : Int32)), .val (.int (p2 &&& (3 : Int32))), .val .null, .val (.ref b205), .val (.int (1 : Int32)), .val (.int (1 : Int32)), .val (.int (1 : Int32))] [(.int (1 : Int32)), (.int (1 : Int32))])) _
      refine XS.icmpNo X236.here hx rfl (hb hby at_113) rfl (teq (rfl : (1 : Int32) = (1 : Int32))).2 ?_
      show Steps p.tables e below (T236.setTop (mkF m 116 #[.val (.int p0), .val (.int p1), .val (.int p2), .val (.int p3), .val (.int p4), .val (.int p5), .val (.int (1 : Int32)), .val (.int (p2 &&& (3 : Int32))), .val .null, .val (.ref b205), .val (.int (1 : Int32)), .val (.int (1 : Int32)), .val (.int (1 : Int32))] [])) _
      refine XS.iload X236.here hx rfl (hb hby at_116) rfl ?_
      show Steps p.tables e below (T236.setTop (mkF m 118 #[.val (.int p0), .val (.int p1), .val (.int p2), .val (.int p3), .val (.int p4), .val (.int p5), .val (.int (1 : Int32)), .val (.int (p2 &&& (3 : Int32))), .val .null, .val (.ref b205), .val (.int (1 : Int32)), .val (.int (1 : Int32)), .val (.int (1 : Int32))] [(.int (1 : Int32))])) _
      refine XS.ifNo X236.here hx rfl (hb hby at_118) rfl ((if0 _ _).trans (feq (by decide : ¬ ((1 : Int32) = (0 : Int32)))).1) ?_
      show Steps p.tables e below (T236.setTop (mkF m 121 #[.val (.int p0), .val (.int p1), .val (.int p2), .val (.int p3), .val (.int p4), .val (.int p5), .val (.int (1 : Int32)), .val (.int (p2 &&& (3 : Int32))), .val .null, .val (.ref b205), .val (.int (1 : Int32)), .val (.int (1 : Int32)), .val (.int (1 : Int32))] [])) _
      refine XS.iconst X236.here hx rfl (hb hby at_121) ?_
      show Steps p.tables e below (T236.setTop (mkF m 122 #[.val (.int p0), .val (.int p1), .val (.int p2), .val (.int p3), .val (.int p4), .val (.int p5), .val (.int (1 : Int32)), .val (.int (p2 &&& (3 : Int32))), .val .null, .val (.ref b205), .val (.int (1 : Int32)), .val (.int (1 : Int32)), .val (.int (1 : Int32))] [(.int (1 : Int32))])) _
      refine XS.goto X236.here hx rfl (pc0 := 122) (pc' := 126) rfl (hb hby at_122) (by decide) (by decide) ?_
      exact kt
    obtain ⟨fs, hr, hrun, hended, hW, hsame⟩ := X236.leave (v := some (.int (1 : Int32))) (fun h => by rw [Bd.returns] at h; cases h)
    refine ⟨_, _, pre240 _ ?_, hrun, hended, _, _, rfl, ?_, ⟨_, rfl⟩, hW, hsame.mono (by decide) (by decide)⟩
    · show Steps p.tables e below (T236.setTop (mkF m 126 #[.val (.int p0), .val (.int p1), .val (.int p2), .val (.int p3), .val (.int p4), .val (.int p5), .val (.int (1 : Int32)), .val (.int (p2 &&& (3 : Int32))), .val .null, .val (.ref b205), .val (.int (1 : Int32)), .val (.int (1 : Int32)), .val (.int (1 : Int32))] [(.int (1 : Int32))])) _
      exact retN X236 hx (t := .boolean) Bd.returns (by simp) (hb hby at_126) hr
    · show own_Q_law Z p0 p1 p2 p3 p4 p5 aS h0 n0 (some (.int (1 : Int32))) T236.heap _
      rw [eq238]
      exact ⟨rfl, nf239⟩
set_option maxRecDepth 65536 in
set_option maxHeartbeats 40000000 in
theorem own_comes {Post : Tables → Env → Array Value → State → Outcome → State → Prop} (hpost : ∀ tb e args s v u, (limb_1_1.after args s (.returned v) u = true ∧ limb_1_2.after args s (.returned v) u = true ∧ True) → FrameEnd s (.returned v) u (Jvm.fieldLocs frame_1_writes args s ++ Jvm.arrayLocs frame_1_arrays args s ++ Jvm.staticLocs frame_1_statics s) 24 192 → Post tb e args s (.returned v) u) :
    ArmFor flags0 classFile x code maxLocals ret World_1 tables_1 room_1 Calls_1 rest_1 Pre_1 Post := by
  intro l hfl _ _ p e ha hc hk s m args below hf hA hF happ hP
  obtain ⟨hcalls, hrest, hpre⟩ := hP
  obtain ⟨-, -, -, hnamed, -, -, -, hat⟩ := (Spec.applies_iff hf).mp happ
  obtain ⟨hg, hn⟩ := and_e (Cond.before_iff.mp (show (Jvm.Cond.and given_1 narrow_1).before args s = true from hpre))
  obtain ⟨hcount, hq0⟩ := and_e hg
  obtain ⟨hi0, hq1⟩ := and_e hq0
  obtain ⟨hi1, hq2⟩ := and_e hq1
  obtain ⟨hi2, hq3⟩ := and_e hq2
  obtain ⟨hi3, hq4⟩ := and_e hq3
  obtain ⟨hi4, hq5⟩ := and_e hq4
  have hi5 := hq5
  obtain ⟨w0, w1, w2, w3, w4, w5, rfl⟩ : ∃ w0 w1 w2 w3 w4 w5 : Value, args = #[w0, w1, w2, w3, w4, w5] := by
    have hs : args.size = 6 := by simpa [Cond.value, given_1] using hcount
    obtain ⟨L⟩ := args
    match L, hs with
    | [w0, w1, w2, w3, w4, w5], _ => exact ⟨w0, w1, w2, w3, w4, w5, rfl⟩
  have hw := fun d (hd : d ∈ tables_1) => atoms_spec (ws := Jvm.Cond.code x code maxLocals ret :: tables_1) hat d (List.mem_cons_of_mem _ hd)
  have hfit : Fit s := fun {y c} hc i hi => by
    obtain ⟨ha, rfl⟩ := Array.getElem?_eq_some_iff.mp hc
    have q := List.all_eq_true.mp ((Array.all_eq_true_iff_forall_mem.mp hF) _ (Array.getElem_mem ha)) i (List.mem_range.mpr hi)
    simpa [Array.getElem?_eq_getElem hi] using q
  obtain ⟨hsets, hown0⟩ := atoms_of _ (rest_1_c_eq ▸ (show rest_1_c.before _ s = true from hrest))
  obtain ⟨i0, ei0⟩ := is_v hi0
  obtain rfl : w0 = (.int i0) := Option.some.inj ei0
  obtain ⟨i1, ei1⟩ := is_v hi1
  obtain rfl : w1 = (.int i1) := Option.some.inj ei1
  obtain ⟨i2, ei2⟩ := is_v hi2
  obtain rfl : w2 = (.int i2) := Option.some.inj ei2
  obtain ⟨i3, ei3⟩ := is_v hi3
  obtain rfl : w3 = (.int i3) := Option.some.inj ei3
  obtain ⟨i4, ei4⟩ := is_v hi4
  obtain rfl : w4 = (.int i4) := Option.some.inj ei4
  obtain ⟨i5, ei5⟩ := is_v hi5
  obtain rfl : w5 = (.int i5) := Option.some.inj ei5
  obtain ⟨aS, evS⟩ := arr_v (Cond.before_iff.mp (hsets _ (List.mem_of_getElem? (i := 6) rfl)))
  have S0 := Sta.start evS (Or.inr ⟨(hw _ (List.mem_of_getElem? (i := 12) rfl)), (hsets _ (List.mem_of_getElem? (i := 2) rfl))⟩)
  obtain ⟨n, o, h1, h2, h3, _, L, rfl, ⟨rfl, N⟩, hq⟩ := own_rm_law l s _ hw tables_1 i0 i1 i2 i3 i4 i5 aS s.heap s.heap.size (Nat.le_refl _) S0 p e ha hc hk s m _ below hf ((Spec.applies_iff_loose hf).mp happ).1 ⟨rfl, State.Warmed39.refl s, rfl⟩ trivial
  refine ⟨n, _, h1, h2, h3, hpost _ _ _ _ _ _ ⟨Cond.after_iff.mpr rfl, Cond.after_iff.mpr (eq_i res_at (Term.int_eval (1)) rfl), trivial⟩ ⟨hq.1, hq.2.1, (hq.2.2.sift fun y hy => Or.inr (N y hy)).mono (by decide) (by decide)⟩⟩
theorem main_1_1 : Claimed_1_1 := own_comes fun _ _ _ _ _ _ h hF => ⟨h.1, hF⟩
theorem main_1_2 : Claimed_1_2 := own_comes fun _ _ _ _ _ _ h hF => ⟨h.2.1, hF⟩
end Jvm.Pilot.@@N@@
namespace Jvm.Pilot.@@N@@
open Jvm Jvm.ClassFile Sem Op Lib Jvm.Free Jvm.Stand Jvm.Pilot.@@N@@.Jvm.D
/-! MADE BY PROGRAM (witnessworld.py) out of the Statement's table words and the real class files: 18 classes; the members and pool entries that the words name. The judged class is class 1, her method 1. -/
namespace start1
open Jvm.ClassFile
def u (s : String) : CpInfo := .utf8 (stringToUtf16 s)
/-- a pool by its gaps: so many unusable entries, then the entry; so many at the end -/
def gap : Nat → List CpInfo → List CpInfo
  | 0, r => r
  | n + 1, r => .unusable :: gap n r
def poolList (es : List (Nat × CpInfo)) (last : Nat) : List CpInfo := es.foldr (fun e r => gap e.1 (e.2 :: r)) (gap last [])
def pool (es : List (Nat × CpInfo)) (last : Nat) : Array CpInfo := ⟨poolList es last⟩
def fileOf (pool : Array CpInfo) (this : Nat) (attrs : Array Attribute := #[]) (ms : Array MethodInfo := #[]) (fl : Nat := 33) (sup : Nat := 0) (ifs : Array Nat := #[]) (fds : Array FieldInfo := #[]) : ClassFile where
  minorVersion := 0
  majorVersion := 65
  constantPool := pool
  accessFlags := fl
  thisClass := this
  superClass := sup
  interfaces := ifs
  fields := fds
  methods := ms
  attributes := attrs
def plain (name : String) (sup : Option ClassId) : Class where
  name := name
  kind := .ordinary
  loader := none
  accessFlags := 33
  super := sup
  interfaces := #[]
  cf := none
  fields := #[]
  methods := #[]
  instanceTypes := #[]
  staticTypes := #[]
  resolved := #[]
  callSites := []
  init := .initialized
  statics := none
  mirror := none

def pool0 : Array CpInfo := pool [(5, u "<init>"), (0, u "()V"), (1, .class_ 10), (1, u "java/lang/Object")] 113

def k0c0 : Code := { maxStack := 0, maxLocals := 1, code := object_method_1_code, exceptionTable := #[], attributes := #[] }
def k0m0 : Method := { name := "<init>", desc := "()V", sig := { parameters := [], returnType := none }, accessFlags := 1, code := some k0c0 }
/-- java/lang/Object -/
def k0 : Class := { plain "java/lang/Object" none with
  accessFlags := 33
  interfaces := #[]
  cf := some (fileOf pool0 8 #[] #[{ accessFlags := 1, nameIndex := 5, descriptorIndex := 6, attributes := #[] }] 33 0 #[] #[])
  fields := #[]
  methods := #[k0m0]
  instanceTypes := #[]
  staticTypes := #[]
  resolved := Array.replicate 124 none
  statics := none }

def pool1 : Array CpInfo := pool [(2, .class_ 4), (1, u "java/lang/Object"), (0, u "<init>"), (0, u "()V"), (0, .class_ 8), (0, u "com/example/interleave/interleave/check/Expansion"), (0, .methodref 7 10), (0, .nameAndType 5 11), (0, u "(II[B)V"), (0, .methodref 7 13), (0, .nameAndType 14 15), (0, u "isInitial"), (0, u "()Z"), (0, .methodref 7 17), (0, .nameAndType 18 19), (0, u "initial"), (0, u "()Lcom/example/interleave/interleave/check/Expansion;"), (0, .class_ 21), (0, u "com/example/interleave/interleave/check/ExpansionIsInitialPinLaw"), (2, u "law"), (0, u "(IIIIII)Z")] 5

def k1m0 : Method := { name := "<init>", desc := "()V", sig := { parameters := [], returnType := none }, accessFlags := 1, code := none }
def k1c1 : Code := { maxStack := 5, maxLocals := 13, code := code, exceptionTable := #[], attributes := #[] }
def k1m1 : Method := { name := "law", desc := "(IIIIII)Z", sig := { parameters := [.int, .int, .int, .int, .int, .int], returnType := some .boolean }, accessFlags := 9, code := some k1c1 }
/-- com/example/interleave/interleave/check/ExpansionIsInitialPinLaw -/
def k1 : Class := { plain "com/example/interleave/interleave/check/ExpansionIsInitialPinLaw" (some 0) with
  accessFlags := 49
  interfaces := #[]
  cf := some (fileOf pool1 20 #[] #[{ accessFlags := 1, nameIndex := 5, descriptorIndex := 6, attributes := #[] }, { accessFlags := 9, nameIndex := 24, descriptorIndex := 25, attributes := #[] }] 49 2 #[] #[])
  fields := #[]
  methods := #[k1m0, k1m1]
  instanceTypes := #[]
  staticTypes := #[]
  resolved := Array.replicate 31 none
  statics := none }

def pool2 : Array CpInfo := pool [(1, .methodref 2 3), (0, .class_ 4), (0, .nameAndType 5 6), (0, u "java/lang/Object"), (0, u "<init>"), (0, u "()V"), (0, .class_ 8), (0, u "java/util/ArrayList"), (0, .methodref 7 3), (0, .fieldref 11 12), (0, .class_ 13), (0, .nameAndType 14 15), (0, u "com/example/interleave/interleave/check/Expansion"), (0, u "found"), (0, u "Ljava/util/List;"), (0, .fieldref 11 17), (0, .nameAndType 18 15), (0, u "printed"), (0, .fieldref 11 20), (0, .nameAndType 21 22), (0, u "sourceId"), (0, u "I"), (0, .fieldref 11 24), (0, .nameAndType 25 22), (0, u "sourceParent"), (0, .fieldref 11 27), (0, .nameAndType 28 29), (0, u "sourceBytes"), (0, u "[B"), (0, .methodref 11 31), (0, .nameAndType 5 32), (0, u "(II[B)V"), (2, u "source"), (0, u "Lcom/example/interleave/interleave/check/Found;"), (2, u "stateBits"), (0, u "[J"), (8, u "stutterBits"), (2, u "violatingStep"), (2, u "violatedByStep"), (0, u "Lcom/example/interleave/interleave/check/Model$Check;"), (2, u "failure"), (0, u "Lcom/example/interleave/interleave/check/Failure;"), (2, u "stoppedAt"), (2, u "fresh"), (2, u "generated"), (0, u "J"), (2, u "distinct"), (2, u "depth"), (2, u "violated"), (2, u "violating"), (2, u "crash"), (0, u "Ljava/lang/Throwable;"), (2, u "expanded"), (0, u "Z"), (2, u "checked"), (5, u "initial"), (0, u "()Lcom/example/interleave/interleave/check/Expansion;"), (0, u "isInitial"), (0, u "()Z")] 33

def k2c0 : Code := { maxStack := 3, maxLocals := 4, code := prog_13_method_1_code, exceptionTable := #[], attributes := #[] }
def k2m0 : Method := { name := "<init>", desc := "(II[B)V", sig := { parameters := [.int, .int, (.array .byte)], returnType := none }, accessFlags := 0, code := some k2c0 }
def k2c1 : Code := { maxStack := 5, maxLocals := 0, code := prog_13_method_2_code, exceptionTable := #[], attributes := #[] }
def k2m1 : Method := { name := "initial", desc := "()Lcom/example/interleave/interleave/check/Expansion;", sig := { parameters := [], returnType := some (.object "com/example/interleave/interleave/check/Expansion") }, accessFlags := 8, code := some k2c1 }
def k2c2 : Code := { maxStack := 1, maxLocals := 1, code := prog_13_method_3_code, exceptionTable := #[], attributes := #[] }
def k2m2 : Method := { name := "isInitial", desc := "()Z", sig := { parameters := [], returnType := some .boolean }, accessFlags := 0, code := some k2c2 }
/-- com/example/interleave/interleave/check/Expansion -/
def k2 : Class := { plain "com/example/interleave/interleave/check/Expansion" (some 0) with
  accessFlags := 48
  interfaces := #[]
  cf := some (fileOf pool2 11 #[] #[{ accessFlags := 0, nameIndex := 5, descriptorIndex := 32, attributes := #[] }, { accessFlags := 8, nameIndex := 99, descriptorIndex := 100, attributes := #[] }, { accessFlags := 0, nameIndex := 101, descriptorIndex := 102, attributes := #[] }] 48 2 #[] #[{ accessFlags := 18, nameIndex := 21, descriptorIndex := 22, attributes := #[] }, { accessFlags := 18, nameIndex := 25, descriptorIndex := 22, attributes := #[] }, { accessFlags := 18, nameIndex := 28, descriptorIndex := 29, attributes := #[] }, { accessFlags := 2, nameIndex := 35, descriptorIndex := 36, attributes := #[] }, { accessFlags := 2, nameIndex := 39, descriptorIndex := 40, attributes := #[] }, { accessFlags := 18, nameIndex := 14, descriptorIndex := 15, attributes := #[] }, { accessFlags := 2, nameIndex := 49, descriptorIndex := 40, attributes := #[] }, { accessFlags := 2, nameIndex := 52, descriptorIndex := 36, attributes := #[] }, { accessFlags := 2, nameIndex := 55, descriptorIndex := 56, attributes := #[] }, { accessFlags := 2, nameIndex := 59, descriptorIndex := 60, attributes := #[] }, { accessFlags := 2, nameIndex := 63, descriptorIndex := 36, attributes := #[] }, { accessFlags := 2, nameIndex := 66, descriptorIndex := 15, attributes := #[] }, { accessFlags := 2, nameIndex := 69, descriptorIndex := 70, attributes := #[] }, { accessFlags := 2, nameIndex := 73, descriptorIndex := 70, attributes := #[] }, { accessFlags := 2, nameIndex := 76, descriptorIndex := 22, attributes := #[] }, { accessFlags := 2, nameIndex := 82, descriptorIndex := 36, attributes := #[] }, { accessFlags := 2, nameIndex := 79, descriptorIndex := 56, attributes := #[] }, { accessFlags := 18, nameIndex := 18, descriptorIndex := 15, attributes := #[] }, { accessFlags := 2, nameIndex := 85, descriptorIndex := 86, attributes := #[] }, { accessFlags := 2, nameIndex := 89, descriptorIndex := 90, attributes := #[] }, { accessFlags := 2, nameIndex := 93, descriptorIndex := 90, attributes := #[] }])
  fields := #[{ name := "sourceId", type := .int, accessFlags := 18, slot := 0, constantValue := 0 }, { name := "sourceParent", type := .int, accessFlags := 18, slot := 1, constantValue := 0 }, { name := "sourceBytes", type := (.array .byte), accessFlags := 18, slot := 2, constantValue := 0 }, { name := "source", type := (.object "com/example/interleave/interleave/check/Found"), accessFlags := 2, slot := 3, constantValue := 0 }, { name := "stateBits", type := (.array .long), accessFlags := 2, slot := 4, constantValue := 0 }, { name := "found", type := (.object "java/util/List"), accessFlags := 18, slot := 5, constantValue := 0 }, { name := "stutterBits", type := (.array .long), accessFlags := 2, slot := 6, constantValue := 0 }, { name := "violatingStep", type := (.object "com/example/interleave/interleave/check/Found"), accessFlags := 2, slot := 7, constantValue := 0 }, { name := "violatedByStep", type := (.object "com/example/interleave/interleave/check/Model$Check"), accessFlags := 2, slot := 8, constantValue := 0 }, { name := "failure", type := (.object "com/example/interleave/interleave/check/Failure"), accessFlags := 2, slot := 9, constantValue := 0 }, { name := "stoppedAt", type := (.object "com/example/interleave/interleave/check/Found"), accessFlags := 2, slot := 10, constantValue := 0 }, { name := "fresh", type := (.object "java/util/List"), accessFlags := 2, slot := 11, constantValue := 0 }, { name := "generated", type := .long, accessFlags := 2, slot := 12, constantValue := 0 }, { name := "distinct", type := .long, accessFlags := 2, slot := 13, constantValue := 0 }, { name := "depth", type := .int, accessFlags := 2, slot := 14, constantValue := 0 }, { name := "violating", type := (.object "com/example/interleave/interleave/check/Found"), accessFlags := 2, slot := 15, constantValue := 0 }, { name := "violated", type := (.object "com/example/interleave/interleave/check/Model$Check"), accessFlags := 2, slot := 16, constantValue := 0 }, { name := "printed", type := (.object "java/util/List"), accessFlags := 18, slot := 17, constantValue := 0 }, { name := "crash", type := (.object "java/lang/Throwable"), accessFlags := 2, slot := 18, constantValue := 0 }, { name := "expanded", type := .boolean, accessFlags := 2, slot := 19, constantValue := 0 }, { name := "checked", type := .boolean, accessFlags := 2, slot := 20, constantValue := 0 }]
  methods := #[k2m0, k2m1, k2m2]
  instanceTypes := #[.int, .int, (.array .byte), (.object "com/example/interleave/interleave/check/Found"), (.array .long), (.object "java/util/List"), (.array .long), (.object "com/example/interleave/interleave/check/Found"), (.object "com/example/interleave/interleave/check/Model$Check"), (.object "com/example/interleave/interleave/check/Failure"), (.object "com/example/interleave/interleave/check/Found"), (.object "java/util/List"), .long, .long, .int, (.object "com/example/interleave/interleave/check/Found"), (.object "com/example/interleave/interleave/check/Model$Check"), (.object "java/util/List"), (.object "java/lang/Throwable"), .boolean, .boolean]
  staticTypes := #[]
  resolved := Array.replicate 136 none
  statics := none }

def pool3 : Array CpInfo := pool [(8, .class_ 10), (1, u "java/lang/Iterable"), (24, .class_ 36), (0, u "java/lang/Object")] 25

/-- java/lang/Iterable -/
def k3 : Class := { plain "java/lang/Iterable" (some 0) with
  accessFlags := 1537
  interfaces := #[]
  cf := some (fileOf pool3 8 #[] #[] 1537 35 #[] #[])
  fields := #[]
  methods := #[]
  instanceTypes := #[]
  staticTypes := #[]
  resolved := Array.replicate 62 none
  statics := none }

def pool4 : Array CpInfo := pool [(10, .class_ 12), (1, u "java/util/Collection"), (47, .class_ 61), (0, u "java/lang/Object"), (0, .class_ 63), (0, u "java/lang/Iterable")] 51

/-- java/util/Collection -/
def k4 : Class := { plain "java/util/Collection" (some 0) with
  accessFlags := 1537
  interfaces := #[3]
  cf := some (fileOf pool4 10 #[] #[] 1537 60 #[62] #[])
  fields := #[]
  methods := #[]
  instanceTypes := #[]
  staticTypes := #[]
  resolved := Array.replicate 115 none
  statics := none }

def pool5 : Array CpInfo := pool [(1, .methodref 2 3), (0, .class_ 4), (0, .nameAndType 5 6), (0, u "java/lang/Object"), (0, u "<init>"), (0, u "()V"), (1, .class_ 10), (1, u "java/util/AbstractCollection"), (66, .class_ 78), (0, u "java/util/Collection")] 81

def k5c0 : Code := { maxStack := 1, maxLocals := 1, code := jdk_22_method_1_code, exceptionTable := #[], attributes := #[] }
def k5m0 : Method := { name := "<init>", desc := "()V", sig := { parameters := [], returnType := none }, accessFlags := 4, code := some k5c0 }
/-- java/util/AbstractCollection -/
def k5 : Class := { plain "java/util/AbstractCollection" (some 0) with
  accessFlags := 1057
  interfaces := #[4]
  cf := some (fileOf pool5 8 #[] #[{ accessFlags := 4, nameIndex := 5, descriptorIndex := 6, attributes := #[] }] 1057 2 #[77] #[])
  fields := #[]
  methods := #[k5m0]
  instanceTypes := #[]
  staticTypes := #[]
  resolved := Array.replicate 160 none
  statics := none }

def pool6 : Array CpInfo := pool [(8, .class_ 10), (1, u "java/util/SequencedCollection"), (15, .class_ 27), (0, u "java/lang/Object"), (0, .class_ 29), (0, u "java/util/Collection")] 27

/-- java/util/SequencedCollection -/
def k6 : Class := { plain "java/util/SequencedCollection" (some 0) with
  accessFlags := 1537
  interfaces := #[4]
  cf := some (fileOf pool6 8 #[] #[] 1537 26 #[28] #[])
  fields := #[]
  methods := #[]
  instanceTypes := #[]
  staticTypes := #[]
  resolved := Array.replicate 57 none
  statics := none }

def pool7 : Array CpInfo := pool [(8, .class_ 10), (1, u "java/util/List"), (92, .class_ 104), (0, u "java/lang/Object"), (15, .class_ 121), (0, u "java/util/SequencedCollection")] 129

/-- java/util/List -/
def k7 : Class := { plain "java/util/List" (some 0) with
  accessFlags := 1537
  interfaces := #[6]
  cf := some (fileOf pool7 8 #[] #[] 1537 103 #[120] #[])
  fields := #[]
  methods := #[]
  instanceTypes := #[]
  staticTypes := #[]
  resolved := Array.replicate 251 none
  statics := none }

def pool8 : Array CpInfo := pool [(1, .methodref 2 3), (0, .class_ 4), (0, .nameAndType 5 6), (0, u "java/util/AbstractCollection"), (0, u "<init>"), (0, u "()V"), (0, .fieldref 8 9), (0, .class_ 10), (0, .nameAndType 11 12), (0, u "java/util/AbstractList"), (0, u "modCount"), (0, u "I"), (64, .class_ 78), (0, u "java/util/AbstractList$Itr"), (3, .class_ 83), (0, u "java/util/AbstractList$ListItr"), (9, .class_ 94), (0, u "java/util/AbstractList$RandomAccessSubList"), (3, .class_ 99), (0, u "java/util/AbstractList$SubList"), (33, .class_ 134), (0, u "java/util/List"), (73, .class_ 209), (0, u "java/util/AbstractList$SubList$1"), (0, .class_ 211), (0, u "java/util/AbstractList$RandomAccessSpliterator")] 6

def k8c0 : Code := { maxStack := 2, maxLocals := 1, code := jdk_39_method_1_code, exceptionTable := #[], attributes := #[] }
def k8m0 : Method := { name := "<init>", desc := "()V", sig := { parameters := [], returnType := none }, accessFlags := 4, code := some k8c0 }
/-- java/util/AbstractList -/
def k8 : Class := { plain "java/util/AbstractList" (some 5) with
  accessFlags := 1057
  interfaces := #[7]
  cf := some (fileOf pool8 8 #[.nestMembers #[93, 98, 208, 210, 82, 77]] #[{ accessFlags := 4, nameIndex := 5, descriptorIndex := 6, attributes := #[] }] 1057 2 #[133] #[{ accessFlags := 132, nameIndex := 11, descriptorIndex := 12, attributes := #[] }])
  fields := #[{ name := "modCount", type := .int, accessFlags := 132, slot := 0, constantValue := 0 }]
  methods := #[k8m0]
  instanceTypes := #[.int]
  staticTypes := #[]
  resolved := Array.replicate 218 none
  statics := none }

def pool9 : Array CpInfo := pool [(1, .class_ 2), (0, u "java/util/RandomAccess"), (0, .class_ 4), (0, u "java/lang/Object")] 2

/-- java/util/RandomAccess -/
def k9 : Class := { plain "java/util/RandomAccess" (some 0) with
  accessFlags := 1537
  interfaces := #[]
  cf := some (fileOf pool9 1 #[] #[] 1537 3 #[] #[])
  fields := #[]
  methods := #[]
  instanceTypes := #[]
  staticTypes := #[]
  resolved := Array.replicate 7 none
  statics := none }

def pool10 : Array CpInfo := pool [(1, .class_ 2), (0, u "java/lang/Cloneable"), (0, .class_ 4), (0, u "java/lang/Object")] 2

/-- java/lang/Cloneable -/
def k10 : Class := { plain "java/lang/Cloneable" (some 0) with
  accessFlags := 1537
  interfaces := #[]
  cf := some (fileOf pool10 1 #[] #[] 1537 3 #[] #[])
  fields := #[]
  methods := #[]
  instanceTypes := #[]
  staticTypes := #[]
  resolved := Array.replicate 7 none
  statics := none }

def pool11 : Array CpInfo := pool [(1, .class_ 2), (0, u "java/io/Serializable"), (0, .class_ 4), (0, u "java/lang/Object")] 2

/-- java/io/Serializable -/
def k11 : Class := { plain "java/io/Serializable" (some 0) with
  accessFlags := 1537
  interfaces := #[]
  cf := some (fileOf pool11 1 #[] #[] 1537 3 #[] #[])
  fields := #[]
  methods := #[]
  instanceTypes := #[]
  staticTypes := #[]
  resolved := Array.replicate 7 none
  statics := none }

def pool12 : Array CpInfo := pool [(1, .methodref 2 3), (0, .class_ 4), (0, .nameAndType 5 6), (0, u "java/util/AbstractList"), (0, u "<init>"), (0, u "()V"), (2, .fieldref 10 11), (0, .class_ 12), (0, .nameAndType 13 14), (0, u "java/util/ArrayList"), (0, u "elementData"), (0, u "[Ljava/lang/Object;"), (2, u "EMPTY_ELEMENTDATA"), (21, .fieldref 10 40), (0, .nameAndType 41 14), (0, u "DEFAULTCAPACITY_EMPTY_ELEMENTDATA"), (8, u "size"), (0, u "I"), (96, .class_ 149), (0, u "java/util/List"), (112, .class_ 263), (0, u "java/util/ArrayList$ListItr"), (3, .class_ 268), (0, u "java/util/ArrayList$Itr"), (7, .class_ 277), (0, u "java/util/ArrayList$SubList"), (12, .class_ 291), (0, u "java/util/ArrayList$ArrayListSpliterator"), (37, .class_ 330), (0, u "java/util/RandomAccess"), (0, .class_ 332), (0, u "java/lang/Cloneable"), (0, .class_ 334), (0, u "java/io/Serializable"), (0, u "serialVersionUID"), (0, u "J"), (3, u "DEFAULT_CAPACITY"), (159, .class_ 501), (0, u "java/util/ArrayList$SubList$2"), (0, .class_ 503), (0, u "java/util/ArrayList$SubList$1")] 5

def k12c0 : Code := { maxStack := 2, maxLocals := 1, code := jdk_38_method_2_code, exceptionTable := #[], attributes := #[] }
def k12m0 : Method := { name := "<init>", desc := "()V", sig := { parameters := [], returnType := none }, accessFlags := 1, code := some k12c0 }
/-- java/util/ArrayList -/
def k12 : Class := { plain "java/util/ArrayList" (some 8) with
  accessFlags := 33
  interfaces := #[7, 9, 10, 11]
  cf := some (fileOf pool12 10 #[.nestMembers #[290, 276, 500, 502, 262, 267]] #[{ accessFlags := 1, nameIndex := 5, descriptorIndex := 6, attributes := #[] }] 33 2 #[148, 329, 331, 333] #[{ accessFlags := 26, nameIndex := 335, descriptorIndex := 336, attributes := #[] }, { accessFlags := 26, nameIndex := 340, descriptorIndex := 51, attributes := #[] }, { accessFlags := 26, nameIndex := 17, descriptorIndex := 14, attributes := #[] }, { accessFlags := 26, nameIndex := 41, descriptorIndex := 14, attributes := #[] }, { accessFlags := 128, nameIndex := 13, descriptorIndex := 14, attributes := #[] }, { accessFlags := 2, nameIndex := 50, descriptorIndex := 51, attributes := #[] }])
  fields := #[{ name := "serialVersionUID", type := .long, accessFlags := 26, slot := 0, constantValue := 0 }, { name := "DEFAULT_CAPACITY", type := .int, accessFlags := 26, slot := 1, constantValue := 0 }, { name := "EMPTY_ELEMENTDATA", type := (.array (.object "java/lang/Object")), accessFlags := 26, slot := 2, constantValue := 0 }, { name := "DEFAULTCAPACITY_EMPTY_ELEMENTDATA", type := (.array (.object "java/lang/Object")), accessFlags := 26, slot := 3, constantValue := 0 }, { name := "elementData", type := (.array (.object "java/lang/Object")), accessFlags := 128, slot := 1, constantValue := 0 }, { name := "size", type := .int, accessFlags := 2, slot := 2, constantValue := 0 }]
  methods := #[k12m0]
  instanceTypes := #[.int, (.array (.object "java/lang/Object")), .int]
  staticTypes := #[.long, .int, (.array (.object "java/lang/Object")), (.array (.object "java/lang/Object"))]
  resolved := Array.replicate 509 none
  statics := some 0 }

/-- the primitive byte -/
def k13 : Class := { plain "byte" none with kind := .primitive 'B', accessFlags := 0x411 }
/-- [B -/
def k14 : Class := { plain "[B" (some 0) with kind := .array 13 .byte, interfaces := #[10, 11], accessFlags := 1041 }

/-- the primitive int -/
def k15 : Class := { plain "int" none with kind := .primitive 'I', accessFlags := 0x411 }
/-- [I -/
def k16 : Class := { plain "[I" (some 0) with kind := .array 15 .int, interfaces := #[10, 11], accessFlags := 1041 }

/-- [Ljava/lang/Object; -/
def k17 : Class := { plain "[Ljava/lang/Object;" (some 0) with kind := .array 0 (.object "java/lang/Object"), interfaces := #[10, 11], accessFlags := 1041 }

def heap : Heap := #[{ cls := 12, slots := #[.long 0, .int 0, .ref 1, .ref 2], vm := .statics 12 },
  { cls := 17, slots := #[], vm := .none },
  { cls := 17, slots := #[], vm := .none }]
def classes : Array Class := #[k0, k1, k2, k3, k4, k5, k6, k7, k8, k9, k10, k11, k12, k13, k14, k15, k16, k17]
def interned : List (Array UInt16 × Addr) := []
def slotsUsed : Nat := 4
def theMethod : MethodId := ⟨1, 1⟩
def args0 : Array Value := #[.int 5, .int 6, .int 2, .int 1, .int 2, .int 3]
def aboutOver (below : List Frame) : State where
  vm := { classes := classes, interned := interned.toArray }
  heap := heap
  slotsUsed := slotsUsed
  threads := #[{ frames := .invoking theMethod args0 :: below }]
def below0 : List Frame := [.native { method := ⟨0, 0⟩, args := #[] }]
def about1 : State := aboutOver below0
def p0 : Program := .bare "" "" ""
def e0 : Env := launch0.env 0 0 0
theorem w_frames : about1.frames = Frame.invoking theMethod args0 :: below0 := rfl
set_option maxRecDepth 65536 in
theorem w_args : argsFit about1.vm theMethod args0 = true := by decide +kernel
set_option maxRecDepth 65536 in
theorem w_heap : heapFits about1 = true := by decide +kernel
set_option maxRecDepth 65536 in
theorem w_runnable : about1.curStatus? = some .runnable := by decide +kernel
set_option maxRecDepth 65536 in
theorem w_alone : about1.alone = true := by decide +kernel
set_option maxRecDepth 65536 in
theorem w_named : about1.methodNamed? x = some theMethod := by decide +kernel
set_option maxRecDepth 65536 in
theorem w_hears : about1.hears theMethod below0 = true := by decide +kernel
set_option maxRecDepth 65536 in
theorem w_ripe : about1.ripe theMethod args0 below0 = true := by decide +kernel
theorem w_running : about1.status = .running := rfl
set_option maxRecDepth 65536 in
theorem w_room : about1.hasRoom e0.platform room_1 = true :=
  launch0.hasRoom_least _ room_1 (by decide +kernel) (by decide +kernel) (by decide +kernel) (by decide +kernel) (by decide +kernel) (by decide +kernel)
theorem allAtoms_all (ts : List Jvm.Cond) (a : Array Jvm.Value) (st : Jvm.State) : (allAtoms ts).before a st = ts.all (fun c => c.before a st) := by
  induction ts with
  | nil => rfl
  | cons c t ih =>
    show (Jvm.Cond.and c (allAtoms t)).before a st = _
    rw [Jvm.Cond.before_and, ih, List.all_cons]
def words1 : List Jvm.Cond := Jvm.Cond.code x code maxLocals ret :: tables_1
/-- a 'code' word, met by the world's own term for the bytes: nothing is compared byte by byte -/
theorem code_word {y : MethodName} {bytes : ByteArray} {mx : Nat} {rt : Option FieldType} {a : Array Value} {s : State} {m : MethodId} {meth : Method} {c : Code} (h1 : s.methodNamed? y = some m) (h2 : s.vm.method? m = some meth) (h3 : meth.code = some c) (h4 : c.code = bytes)
    (h5 : (c.maxLocals == mx && c.exceptionTable.isEmpty && decide (c.maxStack ≤ mostOperands) && decide (meth.sig.returnType = rt) && !meth.locks && decide (parseMethodDescriptor y.desc = some meth.sig)) = true) : (Jvm.Cond.code y bytes mx rt).before a s = true := by
  simp only [Bool.and_eq_true, beq_iff_eq, Bool.not_eq_true', decide_eq_true_eq] at h5
  obtain ⟨⟨⟨⟨⟨g1, g2⟩, g3⟩, g4⟩, g5⟩, g6⟩ := h5
  simp [Cond.before, Cond.holds, Cond.value, h1, h2, h3, h4, g1, g2, g3, g4, g5, g6]
def isCode : Jvm.Cond → Bool
  | .code _ _ _ _ => true
  | _ => false
theorem all_split {L : List Jvm.Cond} {P : Jvm.Cond → Bool} (h1 : L.all (fun c => isCode c || P c) = true) (h2 : ∀ c ∈ L.filter isCode, P c = true) : L.all P = true := by
  refine List.all_eq_true.mpr fun c hc => ?_
  have h := List.all_eq_true.mp h1 c hc
  rcases Bool.eq_false_or_eq_true (isCode c) with hi | hi
  · exact h2 c (List.mem_filter.mpr ⟨hc, hi⟩)
  · simpa [hi] using h
set_option maxRecDepth 65536 in
theorem w_c0 : (Jvm.Cond.code x code maxLocals ret).before args0 about1 = true := code_word (m := ⟨1, 1⟩) (meth := k1m1) (c := k1c1) (by decide +kernel) rfl rfl rfl (by decide +kernel)
set_option maxRecDepth 65536 in
theorem w_c1 : (Jvm.Cond.code ({ cls := "com/example/interleave/interleave/check/Expansion", name := "<init>", desc := "(II[B)V" } : Jvm.MethodName) prog_13_method_1_code (4 : Nat) (Option.none : Option Jvm.ClassFile.FieldType)).before args0 about1 = true := code_word (m := ⟨2, 0⟩) (meth := k2m0) (c := k2c0) (by decide +kernel) rfl rfl rfl (by decide +kernel)
set_option maxRecDepth 65536 in
theorem w_c2 : (Jvm.Cond.code ({ cls := "java/lang/Object", name := "<init>", desc := "()V" } : Jvm.MethodName) object_method_1_code (1 : Nat) (Option.none : Option Jvm.ClassFile.FieldType)).before args0 about1 = true := code_word (m := ⟨0, 0⟩) (meth := k0m0) (c := k0c0) (by decide +kernel) rfl rfl rfl (by decide +kernel)
set_option maxRecDepth 65536 in
theorem w_c3 : (Jvm.Cond.code ({ cls := "java/util/ArrayList", name := "<init>", desc := "()V" } : Jvm.MethodName) jdk_38_method_2_code (1 : Nat) (Option.none : Option Jvm.ClassFile.FieldType)).before args0 about1 = true := code_word (m := ⟨12, 0⟩) (meth := k12m0) (c := k12c0) (by decide +kernel) rfl rfl rfl (by decide +kernel)
set_option maxRecDepth 65536 in
theorem w_c4 : (Jvm.Cond.code ({ cls := "java/util/AbstractList", name := "<init>", desc := "()V" } : Jvm.MethodName) jdk_39_method_1_code (1 : Nat) (Option.none : Option Jvm.ClassFile.FieldType)).before args0 about1 = true := code_word (m := ⟨8, 0⟩) (meth := k8m0) (c := k8c0) (by decide +kernel) rfl rfl rfl (by decide +kernel)
set_option maxRecDepth 65536 in
theorem w_c5 : (Jvm.Cond.code ({ cls := "java/util/AbstractCollection", name := "<init>", desc := "()V" } : Jvm.MethodName) jdk_22_method_1_code (1 : Nat) (Option.none : Option Jvm.ClassFile.FieldType)).before args0 about1 = true := code_word (m := ⟨5, 0⟩) (meth := k5m0) (c := k5c0) (by decide +kernel) rfl rfl rfl (by decide +kernel)
set_option maxRecDepth 65536 in
theorem w_c6 : (Jvm.Cond.code ({ cls := "com/example/interleave/interleave/check/Expansion", name := "isInitial", desc := "()Z" } : Jvm.MethodName) prog_13_method_3_code (1 : Nat) (Option.some Jvm.ClassFile.FieldType.boolean)).before args0 about1 = true := code_word (m := ⟨2, 2⟩) (meth := k2m2) (c := k2c2) (by decide +kernel) rfl rfl rfl (by decide +kernel)
set_option maxRecDepth 65536 in
theorem w_c7 : (Jvm.Cond.code ({ cls := "com/example/interleave/interleave/check/Expansion", name := "initial", desc := "()Lcom/example/interleave/interleave/check/Expansion;" } : Jvm.MethodName) prog_13_method_2_code (0 : Nat) (Option.some (Jvm.ClassFile.FieldType.object "com/example/interleave/interleave/check/Expansion"))).before args0 about1 = true := code_word (m := ⟨2, 1⟩) (meth := k2m1) (c := k2c1) (by decide +kernel) rfl rfl rfl (by decide +kernel)
def codes1 : List Jvm.Cond := [Jvm.Cond.code x code maxLocals ret, Jvm.Cond.code ({ cls := "com/example/interleave/interleave/check/Expansion", name := "<init>", desc := "(II[B)V" } : Jvm.MethodName) prog_13_method_1_code (4 : Nat) (Option.none : Option Jvm.ClassFile.FieldType), Jvm.Cond.code ({ cls := "java/lang/Object", name := "<init>", desc := "()V" } : Jvm.MethodName) object_method_1_code (1 : Nat) (Option.none : Option Jvm.ClassFile.FieldType), Jvm.Cond.code ({ cls := "java/util/ArrayList", name := "<init>", desc := "()V" } : Jvm.MethodName) jdk_38_method_2_code (1 : Nat) (Option.none : Option Jvm.ClassFile.FieldType), Jvm.Cond.code ({ cls := "java/util/AbstractList", name := "<init>", desc := "()V" } : Jvm.MethodName) jdk_39_method_1_code (1 : Nat) (Option.none : Option Jvm.ClassFile.FieldType), Jvm.Cond.code ({ cls := "java/util/AbstractCollection", name := "<init>", desc := "()V" } : Jvm.MethodName) jdk_22_method_1_code (1 : Nat) (Option.none : Option Jvm.ClassFile.FieldType), Jvm.Cond.code ({ cls := "com/example/interleave/interleave/check/Expansion", name := "isInitial", desc := "()Z" } : Jvm.MethodName) prog_13_method_3_code (1 : Nat) (Option.some Jvm.ClassFile.FieldType.boolean), Jvm.Cond.code ({ cls := "com/example/interleave/interleave/check/Expansion", name := "initial", desc := "()Lcom/example/interleave/interleave/check/Expansion;" } : Jvm.MethodName) prog_13_method_2_code (0 : Nat) (Option.some (Jvm.ClassFile.FieldType.object "com/example/interleave/interleave/check/Expansion"))]
set_option maxRecDepth 65536 in
theorem codes_eq : words1.filter isCode = codes1 := rfl
theorem w_codes : ∀ c ∈ words1.filter isCode, c.before args0 about1 = true := by
  rw [codes_eq]
  intro c hc
  simp only [codes1, List.mem_cons, List.not_mem_nil, or_false] at hc
  rcases hc with rfl | rfl | rfl | rfl | rfl | rfl | rfl | rfl
  · exact w_c0
  · exact w_c1
  · exact w_c2
  · exact w_c3
  · exact w_c4
  · exact w_c5
  · exact w_c6
  · exact w_c7
set_option maxRecDepth 65536 in
theorem w_t1 : (words1.take 24).all (fun c => isCode c || c.before args0 about1) = true := by decide +kernel
set_option maxRecDepth 65536 in
theorem w_t2 : ((words1.drop 24).take 24).all (fun c => isCode c || c.before args0 about1) = true := by decide +kernel
set_option maxRecDepth 65536 in
theorem w_t3 : ((words1.drop 24).drop 24).all (fun c => isCode c || c.before args0 about1) = true := by decide +kernel
theorem w_tables : (allAtoms (Jvm.Cond.code x code maxLocals ret :: tables_1)).before args0 about1 = true := by
  rw [allAtoms_all]
  show words1.all (fun c => c.before args0 about1) = true
  refine all_split ?_ w_codes
  rw [← List.take_append_drop 24 words1, List.all_append, w_t1, ← List.take_append_drop 24 (words1.drop 24), List.all_append, w_t2, w_t3]
  rfl
set_option maxRecDepth 65536 in
theorem w_rest : rest_1_c.before args0 about1 = true := by decide +kernel
set_option maxRecDepth 65536 in
theorem w_case : (Jvm.Cond.and given_1 narrow_1).before args0 about1 = true := by decide +kernel
theorem w_applies : (headSpec (Jvm.Cond.code x code maxLocals ret :: tables_1) room_1).applies x e0.platform about1 = true :=
  (Spec.applies_iff w_frames).mpr ⟨w_running, w_runnable, w_alone, w_named, w_hears, w_ripe, w_room, w_tables⟩
theorem atStart : AtStart classFile x code maxLocals ret World_1 tables_1 room_1 Calls_1 rest_1 Pre_1 launch0 p0 e0 about1 theMethod args0 below0 :=
  ⟨lists_1, trivial, launch0.admits_env _ _ _, launch0.least_env, fairChoices_fair.cas, fairChoices_fair.clock, w_frames, w_args, w_heap, w_applies, trivial, w_rest, w_case⟩
end start1
theorem witness_1 : WitnessClaimed_1 := ⟨start1.p0, start1.e0, start1.about1, start1.theMethod, start1.args0, start1.below0, start1.atStart⟩
end Jvm.Pilot.@@N@@
