import JvmDerived
import JvmDerived.Pilot.@@N@@Statement
import JvmDerived.Pilot.@@N@@Code
set_option linter.unusedVariables false
set_option linter.unusedSimpArgs false
namespace Jvm.RoadKit
open Sem ClassFile Op Lib Jvm.Stand Jvm.Free Jvm.LawKit
section New
variable {p : Program} {l : Launch} {e : Env} {R : Room} {s : State} {m : MethodId} {args : Array Value} {below : List Frame} {meth : Method} {c : Code} {T : State} {locs : List Loc} {cells slots : Nat}
theorem retI (X : Stand p l e R s m args below meth c T locs cells slots) (hx : p.tables.exec = Jvm.exec) {pc : Nat} {Ls : Array Slot} {z : Int32} {rest : List Value} (hret : meth.sig.returnType = some .int) (hd : decode c.code pc = .ok (.ireturn, 1)) {fs : List Frame}
    (hl : ∀ (f : JFrame) (acts : List Action), f.method = m → f.locked = none → f.entered = [] → (doReturn e (T.setTop f) acts (some (.int z))).1 = T.setFrames fs) : Steps p.tables e below (T.setTop (mkF m pc Ls (.int z :: rest))) (T.setFrames fs) := by
  have hm' : T.vm.method? m = some meth := X.method'
  have hn : narrow .int (.int z) = .int z := rfl
  show Steps p.tables e below (T.setTop { method := m, pc := pc, locals := Ls, stack := _ :: rest, locked := none }) _
  jvm_step X.here [X.here.top, hx, hd, hm', hret, hn]
  first | (intro acts; rw [hl _ acts rfl rfl rfl]) | rw [hl _ _ rfl rfl rfl]
  exact Steps.refl _
end New
end Jvm.RoadKit
namespace Jvm.Pilot.@@N@@
open Jvm Jvm.ClassFile Sem Op Lib Jvm.Free Jvm.Stand Jvm.LawKit Jvm.RoadKit Bundle Jvm.Pilot.@@N@@.Jvm.D
theorem own_sta_keep {Z : State} {h h' : Heap} {C n d : String} {v : Value} {ws : List Addr} (F : Sta Z h C n d v) (K : Keep h h' ws) (q : ∀ x ∈ ws, ∀ c : Cell, h[x]? = some c → c.vm.isStatics = false) : Sta Z h' C n d v := by
  obtain ⟨cf, i, k, f, st, cell, h1, h2, h3, h4, h5, h6, h7⟩ := F
  have ni : st ∉ ws := fun u => by
    have := q st u cell h5
    rw [this] at h6; exact absurd h6 (by decide)
  exact ⟨cf, i, k, f, st, cell, h1, h2, h3, h4, K.2.1 st cell h5 ni, h6, h7⟩
theorem own_pl_cons {Z : State} {h : Heap} {a : Addr} {C : String} {ws : List Addr} (E : Exa Z h a C) (q : ∀ x ∈ ws, ∀ c : Cell, h[x]? = some c → c.vm.isStatics = false) : ∀ x ∈ a :: ws, ∀ c : Cell, h[x]? = some c → c.vm.isStatics = false := fun x hx c hc => by
  rcases List.mem_cons.mp hx with rfl | hx
  · obtain ⟨cell, k, e1, -, -, e4, -⟩ := E
    cases hc.symm.trans e1; exact e4
  · exact q x hx c hc
def own_L (Z : State) (h : Heap) (a : Addr) (ty : FieldType) (n : Int32) : Prop := ∃ c : Cell, Arr Z h a c ty ∧ c.slots.size = n.toNatClampNeg
theorem own_L.lt {Z : State} {h : Heap} {a : Addr} {ty : FieldType} {n : Int32} (F : own_L Z h a ty n) : a < h.size := by obtain ⟨c, A, -⟩ := F; exact A.lt
theorem own_L.ext {Z : State} {h h' : Heap} {a : Addr} {ty : FieldType} {n : Int32} (F : own_L Z h a ty n) (E : Ext h h') : own_L Z h' a ty n := by obtain ⟨c, A, r⟩ := F; exact ⟨c, A.ext E, r⟩
theorem own_L.other {Z : State} {h h' : Heap} {a b : Addr} {ty : FieldType} {n : Int32} {sl : Nat} {v : Value} (F : own_L Z h b ty n) (W : Wr h h' a sl v) (q : b ≠ a) : own_L Z h' b ty n := by obtain ⟨c, A, r⟩ := F; exact ⟨c, A.other W q, r⟩
theorem own_L.same {Z : State} {h h' : Heap} {a : Addr} {ty : FieldType} {n : Int32} {sl : Nat} {v : Value} (F : own_L Z h a ty n) (W : Wr h h' a sl v) : own_L Z h' a ty n := by obtain ⟨c, A, r⟩ := F; exact ⟨_, A.same W, by rw [sz_set]; exact r⟩
theorem own_L.keep {Z : State} {h h' : Heap} {a : Addr} {ty : FieldType} {n : Int32} {ws : List Addr} (F : own_L Z h a ty n) (K : Keep h h' ws) (q : a ∉ ws) : own_L Z h' a ty n := by obtain ⟨c, A, r⟩ := F; exact ⟨c, ⟨K.2.1 a c A.1 q, A.2⟩, r⟩
theorem own_d_jdk_22_method_1_0 : decode jdk_22_method_1_code 0 = .ok (.aload_n 0, 1) := by decide +kernel
theorem own_d_jdk_22_method_1_1 : decode jdk_22_method_1_code 1 = .ok (.invokespecial 1, 3) := by decide +kernel
theorem own_d_jdk_22_method_1_4 : decode jdk_22_method_1_code 4 = .ok (.return_, 1) := by decide +kernel
theorem own_pn0 : plainName "java/util/AbstractCollection" = true := by first | (simp [plainName, overriddenIn]; done) | decide +kernel
theorem own_ef_ac (m : MethodId) (a1 : Addr) : entryFrame m #[(.ref a1)] 1 = mkF m 0 #[.val (.ref a1)] [] := by first | (simp [entryFrame, mkF, argsToLocals, Value.category]; done) | rfl
def own_Q_ac (Z : State) (a1 : Addr) (h0 : Heap) (n0 : Nat) (v : Option Value) (h : Heap) (L : List Loc) : Prop := v = none ∧ Fr n0 L ∧ h = h0
set_option maxRecDepth 65536 in
set_option maxHeartbeats 40000000 in
theorem own_rm_ac (l : Launch) (Z : State) (a0 : Array Value) (hw : ∀ d ∈ tables_1, d.before a0 Z = true) (ws : List Jvm.Cond) (a1 : Addr) (h0 : Heap) (n0 : Nat) (Z0 : n0 ≤ h0.size) :
    MetFree l (⟨"java/util/AbstractCollection", "<init>", "()V"⟩ : MethodName) (head1 (Jvm.Cond.code (⟨"java/util/AbstractCollection", "<init>", "()V"⟩ : MethodName) jdk_22_method_1_code 1 none :: ws) ({ frames := 1, cells := 0, slots := 0, locals := 12 } : Room)) (fun a U => a = #[(.ref a1)] ∧ Z.Warmed39 U.vm ∧ U.heap = h0) (fun _ _ _ _ _ => True) (fun _ U o U' => ∃ v L, o = .returned v ∧ own_Q_ac Z a1 h0 n0 v U'.heap L ∧ FrameEnd U o U' L ({ frames := 1, cells := 0, slots := 0, locals := 12 } : Room).cells ({ frames := 1, cells := 0, slots := 0, locals := 12 } : Room).slots) := by
  refine MetFree.of_bodySF (plainFor_of_name own_pn0) hisR ?_
  intro p e s m args below meth c s₁ Bd hml0 hP hK
  obtain ⟨rfl, hZ, hh⟩ := hP
  have hx := Bd.exec
  have hby := Bd.bytes
  have hml : c.maxLocals = 1 := hml0
  have hown : s.vm.findClass "java/util/AbstractCollection" = some m.cls := findClass_of_methodNamed Bd.named
  have hnm := (name_of_methodNamed Bd.named Bd.method).1
  have X0 : Stand p l e ({ frames := 1, cells := 0, slots := 0, locals := 12 } : Room) s m #[(.ref a1)] below meth c s₁ [] 0 0 := Stand.of_body Bd
  have e0 : s₁.heap = h0 := by rw [← hh, Bd.state]; rfl
  have N0 := Fr.nil n0
  have K0 : Keep h0 h0 [] := Keep.refl _ _
  have pre0 : ∀ t, Steps p.tables e below (s₁.setTop (mkF m 0 #[.val (.ref a1)] [])) t → Steps p.tables e below (s₁.setTop (entryFrame m #[(.ref a1)] 1)) t := fun t k => castTop (own_ef_ac m a1) k
  obtain ⟨T1, X1, e1, st1⟩ := initO X0 hx hZ hown (hw _ (List.mem_of_getElem? (i := 28) rfl)) (hw _ (List.mem_of_getElem? (i := 8) rfl)) (hw _ (List.mem_of_getElem? (i := 9) rfl)) e0 (g := (mkF m 1 #[.val (.ref a1)] [(.ref a1)])) rfl (by rw [hml]; rfl) rfl (hb hby own_d_jdk_22_method_1_1) (by decide) (W := 0) (by show 2 * 0 + _ ≤ _; exact Nat.le_of_eq rfl) (by decide)
  have pre2 : ∀ t, Steps p.tables e below (T1.setTop (mkF m 4 #[.val (.ref a1)] [])) t → Steps p.tables e below (s₁.setTop (entryFrame m #[(.ref a1)] 1)) t := by
    intro t kt
    refine pre0 t ?_
    show Steps p.tables e below (s₁.setTop (mkF m 0 #[.val (.ref a1)] [])) _
    refine XS.aloadN X0.here hx rfl (hb hby own_d_jdk_22_method_1_0) rfl rfl ?_
    show Steps p.tables e below (s₁.setTop (mkF m 1 #[.val (.ref a1)] [(.ref a1)])) _
    refine st1 _ ?_
    exact kt
  obtain ⟨fs, hr, hrun, hended, hW, hsame⟩ := X1.leave (v := none) (fun _ => rfl)
  refine ⟨_, _, pre2 _ ?_, hrun, hended, _, _, rfl, ?_, ⟨_, rfl⟩, hW, hsame.mono (by decide) (by decide)⟩
  · show Steps p.tables e below (T1.setTop (mkF m 4 #[.val (.ref a1)] [])) _
    exact X1.returnOut hx Bd.returns (hb hby own_d_jdk_22_method_1_4) hr
  · show own_Q_ac Z a1 h0 n0 (none) T1.heap _
    rw [e1]
    exact ⟨rfl, N0, rfl⟩
theorem own_d_jdk_39_method_1_0 : decode jdk_39_method_1_code 0 = .ok (.aload_n 0, 1) := by decide +kernel
theorem own_d_jdk_39_method_1_1 : decode jdk_39_method_1_code 1 = .ok (.invokespecial 1, 3) := by decide +kernel
theorem own_d_jdk_39_method_1_4 : decode jdk_39_method_1_code 4 = .ok (.aload_n 0, 1) := by decide +kernel
theorem own_d_jdk_39_method_1_5 : decode jdk_39_method_1_code 5 = .ok (.iconst 0, 1) := by decide +kernel
theorem own_d_jdk_39_method_1_6 : decode jdk_39_method_1_code 6 = .ok (.putfield 7, 3) := by decide +kernel
theorem own_d_jdk_39_method_1_9 : decode jdk_39_method_1_code 9 = .ok (.return_, 1) := by decide +kernel
theorem own_pd0 : parseMethodDescriptor "()V" = some ⟨[], none⟩ := by decide +kernel
theorem own_pn1 : plainName "java/util/AbstractList" = true := by first | (simp [plainName, overriddenIn]; done) | decide +kernel
theorem own_ef_ab (m : MethodId) (a1 : Addr) : entryFrame m #[(.ref a1)] 1 = mkF m 0 #[.val (.ref a1)] [] := by first | (simp [entryFrame, mkF, argsToLocals, Value.category]; done) | rfl
def own_Q_ab (Z : State) (a1 : Addr) (h0 : Heap) (n0 : Nat) (v : Option Value) (h : Heap) (L : List Loc) : Prop := v = none ∧ Fr n0 L ∧ Keep h0 h [a1] ∧ Fld Z h a1 "java/util/ArrayList" "elementData" "[Ljava/lang/Object;" .null
set_option maxRecDepth 65536 in
set_option maxHeartbeats 40000000 in
theorem own_rm_ab (l : Launch) (Z : State) (a0 : Array Value) (hw : ∀ d ∈ tables_1, d.before a0 Z = true) (ws : List Jvm.Cond) (a1 : Addr) (h0 : Heap) (n0 : Nat) (Z0 : n0 ≤ h0.size) (E1 : Exa Z h0 a1 "java/util/ArrayList") (F1 : Fld Z h0 a1 "java/util/AbstractList" "modCount" "I" (.int (0 : Int32))) (F2 : Fld Z h0 a1 "java/util/ArrayList" "elementData" "[Ljava/lang/Object;" .null) (g1 : n0 ≤ a1) :
    MetFree l (⟨"java/util/AbstractList", "<init>", "()V"⟩ : MethodName) (head1 (Jvm.Cond.code (⟨"java/util/AbstractList", "<init>", "()V"⟩ : MethodName) jdk_39_method_1_code 1 none :: ws) ({ frames := 2, cells := 0, slots := 0, locals := 24 } : Room)) (fun a U => a = #[(.ref a1)] ∧ Z.Warmed39 U.vm ∧ U.heap = h0) (fun _ _ _ _ _ => True) (fun _ U o U' => ∃ v L, o = .returned v ∧ own_Q_ab Z a1 h0 n0 v U'.heap L ∧ FrameEnd U o U' L ({ frames := 2, cells := 0, slots := 0, locals := 24 } : Room).cells ({ frames := 2, cells := 0, slots := 0, locals := 24 } : Room).slots) := by
  refine MetFree.of_bodySF (plainFor_of_name own_pn1) hisR ?_
  intro p e s m args below meth c s₁ Bd hml0 hP hK
  obtain ⟨rfl, hZ, hh⟩ := hP
  have hx := Bd.exec
  have hby := Bd.bytes
  have hml : c.maxLocals = 1 := hml0
  have hown : s.vm.findClass "java/util/AbstractList" = some m.cls := findClass_of_methodNamed Bd.named
  have hnm := (name_of_methodNamed Bd.named Bd.method).1
  have X0 : Stand p l e ({ frames := 2, cells := 0, slots := 0, locals := 24 } : Room) s m #[(.ref a1)] below meth c s₁ [] 0 0 := Stand.of_body Bd
  have e0 : s₁.heap = h0 := by rw [← hh, Bd.state]; rfl
  have N0 := Fr.nil n0
  have K0 : Keep h0 h0 [a1] := Keep.refl _ _
  have pre0 : ∀ t, Steps p.tables e below (s₁.setTop (mkF m 0 #[.val (.ref a1)] [])) t → Steps p.tables e below (s₁.setTop (entryFrame m #[(.ref a1)] 1)) t := fun t k => castTop (own_ef_ab m a1) k
  have zs1 : n0 ≤ h0.size := Nat.le_trans Z0 K0.1
  obtain ⟨_, _, ⟨T2, L2, k2, n2⟩, -, X2, ⟨Lc2, hQ2, l2, y2, z2⟩, st2⟩ := X0.specialBack hx (y := (⟨"java/util/AbstractCollection", "<init>", "()V"⟩ : MethodName)) rfl hown (mvT hZ (hw _ (List.mem_of_getElem? (i := 22) rfl))) (mvT hZ (hw _ (List.mem_of_getElem? (i := 23) rfl))) (mvT hZ (hw _ (List.mem_of_getElem? (i := 27) rfl))) (by decide) (backOf (W := 0) (own_rm_ac l Z a0 hw [] a1 h0 n0 zs1 ) hZ (hw _ (List.mem_of_getElem? (i := 27) rfl)) (hw _ (List.mem_of_getElem? (i := 26) rfl)) (by decide) (by decide)) (g := (mkF m 1 #[.val (.ref a1)] [(.ref a1)])) rfl (by rw [hml]; rfl) (Steps.refl _) (a := a1) (argsL := []) (rest := []) (lenOf own_pd0 rfl) rfl (by show 2 * 0 + _ ≤ _; exact Nat.le_of_eq rfl) (hb hby own_d_jdk_39_method_1_1) (fun _ _ => ⟨rfl, e0, (by decide : 0 + 0 ≤ _), (by decide : 0 + 0 ≤ _)⟩)
  dsimp only [Pt.U, Pt.locs, Pt.cells, Pt.slots] at X2 l2 y2 z2 st2 hQ2
  rw [l2, (y2 : k2 = 0), (z2 : n2 = 0)] at X2
  clear l2 y2 z2
  obtain ⟨rfl, N3, eq3⟩ := hQ2
  have nf4 := Fr.app N0 N3
  obtain ⟨T5, h5, X5, e5, W5, st5⟩ := putF X2 hx hZ hown (host := "") (Or.inl (hw _ (List.mem_of_getElem? (i := 29) rfl))) Via.refl eq3 F1 E1 (Or.inl (hw _ (List.mem_of_getElem? (i := 30) rfl))) (hw _ (List.mem_of_getElem? (i := 11) rfl)) (ty := .int) (by decide) rfl rfl (g := (mkF m 6 #[.val (.ref a1)] [(.int (0 : Int32)), (.ref a1)])) rfl rfl (hb hby own_d_jdk_39_method_1_6)
  have f6 := E1.wr W5
  have f8 := F2.other W5 (Or.inr (slot_ne (Or.inl (hw _ (List.mem_of_getElem? (i := 33) rfl))) (Or.inl (hw _ (List.mem_of_getElem? (i := 30) rfl))) (by decide) (t := (.array (.object "java/lang/Object"))) (t' := .int) (by decide) (by decide)))
  have k9 := K0.wr W5 (Or.inl (List.mem_of_getElem? (i := 0) rfl))
  have nf10 := Fr.snoc X5 nf4 g1
  have f11 := F1.same W5
  have pre12 : ∀ t, Steps p.tables e below (T5.setTop (mkF m 9 #[.val (.ref a1)] [])) t → Steps p.tables e below (s₁.setTop (entryFrame m #[(.ref a1)] 1)) t := by
    intro t kt
    refine pre0 t ?_
    show Steps p.tables e below (s₁.setTop (mkF m 0 #[.val (.ref a1)] [])) _
    refine XS.aloadN X0.here hx rfl (hb hby own_d_jdk_39_method_1_0) rfl rfl ?_
    show Steps p.tables e below (s₁.setTop (mkF m 1 #[.val (.ref a1)] [(.ref a1)])) _
    refine st2.trans ?_
    show Steps p.tables e below (T2.setTop (mkF m 4 #[.val (.ref a1)] [])) _
    refine XS.aloadN X2.here hx rfl (hb hby own_d_jdk_39_method_1_4) rfl rfl ?_
    show Steps p.tables e below (T2.setTop (mkF m 5 #[.val (.ref a1)] [(.ref a1)])) _
    refine XS.iconst X2.here hx rfl (hb hby own_d_jdk_39_method_1_5) ?_
    show Steps p.tables e below (T2.setTop (mkF m 6 #[.val (.ref a1)] [(.int (0 : Int32)), (.ref a1)])) _
    refine st5 _ ?_
    exact kt
  obtain ⟨fs, hr, hrun, hended, hW, hsame⟩ := X5.leave (v := none) (fun _ => rfl)
  refine ⟨_, _, pre12 _ ?_, hrun, hended, _, _, rfl, ?_, ⟨_, rfl⟩, hW, hsame.mono (by decide) (by decide)⟩
  · show Steps p.tables e below (T5.setTop (mkF m 9 #[.val (.ref a1)] [])) _
    exact X5.returnOut hx Bd.returns (hb hby own_d_jdk_39_method_1_9) hr
  · show own_Q_ab Z a1 h0 n0 (none) T5.heap _
    rw [e5]
    exact ⟨rfl, nf10, k9, f8⟩
theorem own_d_jdk_38_method_2_0 : decode jdk_38_method_2_code 0 = .ok (.aload_n 0, 1) := by decide +kernel
theorem own_d_jdk_38_method_2_1 : decode jdk_38_method_2_code 1 = .ok (.invokespecial 1, 3) := by decide +kernel
theorem own_d_jdk_38_method_2_4 : decode jdk_38_method_2_code 4 = .ok (.aload_n 0, 1) := by decide +kernel
theorem own_d_jdk_38_method_2_5 : decode jdk_38_method_2_code 5 = .ok (.getstatic 39, 3) := by decide +kernel
theorem own_d_jdk_38_method_2_8 : decode jdk_38_method_2_code 8 = .ok (.putfield 9, 3) := by decide +kernel
theorem own_d_jdk_38_method_2_11 : decode jdk_38_method_2_code 11 = .ok (.return_, 1) := by decide +kernel
theorem own_pn2 : plainName "java/util/ArrayList" = true := by first | (simp [plainName, overriddenIn]; done) | decide +kernel
theorem own_ef_al (m : MethodId) (a1 : Addr) : entryFrame m #[(.ref a1)] 1 = mkF m 0 #[.val (.ref a1)] [] := by first | (simp [entryFrame, mkF, argsToLocals, Value.category]; done) | rfl
def own_Q_al (Z : State) (a1 : Addr) (aS : Addr) (h0 : Heap) (n0 : Nat) (v : Option Value) (h : Heap) (L : List Loc) : Prop := v = none ∧ Fr n0 L ∧ Keep h0 h [a1]
set_option maxRecDepth 65536 in
set_option maxHeartbeats 40000000 in
theorem own_rm_al (l : Launch) (Z : State) (a0 : Array Value) (hw : ∀ d ∈ tables_1, d.before a0 Z = true) (ws : List Jvm.Cond) (a1 : Addr) (aS : Addr) (h0 : Heap) (n0 : Nat) (Z0 : n0 ≤ h0.size) (S0 : Sta Z h0 "java/util/ArrayList" "DEFAULTCAPACITY_EMPTY_ELEMENTDATA" "[Ljava/lang/Object;" (.ref aS)) (E1 : Exa Z h0 a1 "java/util/ArrayList") (F1 : Fld Z h0 a1 "java/util/AbstractList" "modCount" "I" (.int (0 : Int32))) (F2 : Fld Z h0 a1 "java/util/ArrayList" "elementData" "[Ljava/lang/Object;" .null) (g1 : n0 ≤ a1) :
    MetFree l (⟨"java/util/ArrayList", "<init>", "()V"⟩ : MethodName) (head1 (Jvm.Cond.code (⟨"java/util/ArrayList", "<init>", "()V"⟩ : MethodName) jdk_38_method_2_code 1 none :: ws) ({ frames := 3, cells := 0, slots := 0, locals := 36 } : Room)) (fun a U => a = #[(.ref a1)] ∧ Z.Warmed39 U.vm ∧ U.heap = h0) (fun _ _ _ _ _ => True) (fun _ U o U' => ∃ v L, o = .returned v ∧ own_Q_al Z a1 aS h0 n0 v U'.heap L ∧ FrameEnd U o U' L ({ frames := 3, cells := 0, slots := 0, locals := 36 } : Room).cells ({ frames := 3, cells := 0, slots := 0, locals := 36 } : Room).slots) := by
  refine MetFree.of_bodySF (plainFor_of_name own_pn2) hisR ?_
  intro p e s m args below meth c s₁ Bd hml0 hP hK
  obtain ⟨rfl, hZ, hh⟩ := hP
  have hx := Bd.exec
  have hby := Bd.bytes
  have hml : c.maxLocals = 1 := hml0
  have hown : s.vm.findClass "java/util/ArrayList" = some m.cls := findClass_of_methodNamed Bd.named
  have hnm := (name_of_methodNamed Bd.named Bd.method).1
  have X0 : Stand p l e ({ frames := 3, cells := 0, slots := 0, locals := 36 } : Room) s m #[(.ref a1)] below meth c s₁ [] 0 0 := Stand.of_body Bd
  have e0 : s₁.heap = h0 := by rw [← hh, Bd.state]; rfl
  have N0 := Fr.nil n0
  have K0 : Keep h0 h0 [a1] := Keep.refl _ _
  have pre0 : ∀ t, Steps p.tables e below (s₁.setTop (mkF m 0 #[.val (.ref a1)] [])) t → Steps p.tables e below (s₁.setTop (entryFrame m #[(.ref a1)] 1)) t := fun t k => castTop (own_ef_al m a1) k
  have zs1 : n0 ≤ h0.size := Nat.le_trans Z0 K0.1
  obtain ⟨_, _, ⟨T2, L2, k2, n2⟩, -, X2, ⟨Lc2, hQ2, l2, y2, z2⟩, st2⟩ := X0.specialBack hx (y := (⟨"java/util/AbstractList", "<init>", "()V"⟩ : MethodName)) rfl hown (mvT hZ (hw _ (List.mem_of_getElem? (i := 16) rfl))) (mvT hZ (hw _ (List.mem_of_getElem? (i := 17) rfl))) (mvT hZ (hw _ (List.mem_of_getElem? (i := 21) rfl))) (by decide) (backOf (W := 0) (own_rm_ab l Z a0 hw [] a1 h0 n0 zs1 E1 F1 F2 g1) hZ (hw _ (List.mem_of_getElem? (i := 21) rfl)) (hw _ (List.mem_of_getElem? (i := 20) rfl)) (by decide) (by decide)) (g := (mkF m 1 #[.val (.ref a1)] [(.ref a1)])) rfl (by rw [hml]; rfl) (Steps.refl _) (a := a1) (argsL := []) (rest := []) (lenOf own_pd0 rfl) rfl (by show 2 * 0 + _ ≤ _; exact Nat.le_of_eq rfl) (hb hby own_d_jdk_38_method_2_1) (fun _ _ => ⟨rfl, e0, (by decide : 0 + 0 ≤ _), (by decide : 0 + 0 ≤ _)⟩)
  dsimp only [Pt.U, Pt.locs, Pt.cells, Pt.slots] at X2 l2 y2 z2 st2 hQ2
  rw [l2, (y2 : k2 = 0), (z2 : n2 = 0)] at X2
  clear l2 y2 z2
  obtain ⟨rfl, N3, K3, c3_0⟩ := hQ2
  have f4 := own_sta_keep S0 K3 (own_pl_cons E1 all0)
  have f5 := E1.keep K3
  have k6 := K0.trans K3 (allS (Or.inl (List.mem_of_getElem? (i := 0) rfl)) all0)
  have nf7 := Fr.app N0 N3
  obtain ⟨T8, X8, e8, st8⟩ := getS2 X2 hx hZ hown (host := "") (Or.inl (hw _ (List.mem_of_getElem? (i := 31) rfl))) Via.refl rfl f4 (g := (mkF m 5 #[.val (.ref a1)] [(.ref a1)])) rfl (hb hby own_d_jdk_38_method_2_5)
  obtain ⟨T9, h9, X9, e9, W9, st9⟩ := putF X8 hx hZ hown (host := "") (Or.inl (hw _ (List.mem_of_getElem? (i := 32) rfl))) Via.refl e8 c3_0 f5 (Or.inl (hw _ (List.mem_of_getElem? (i := 33) rfl))) (hw _ (List.mem_of_getElem? (i := 11) rfl)) (ty := (.array (.object "java/lang/Object"))) (by decide) rfl rfl (g := (mkF m 8 #[.val (.ref a1)] [(.ref aS), (.ref a1)])) rfl rfl (hb hby own_d_jdk_38_method_2_8)
  have f10 := f4.wr W9
  have f11 := f5.wr W9
  have k13 := k6.wr W9 (Or.inl (List.mem_of_getElem? (i := 0) rfl))
  have nf14 := Fr.snoc X9 nf7 g1
  have f15 := c3_0.same W9
  have pre16 : ∀ t, Steps p.tables e below (T9.setTop (mkF m 11 #[.val (.ref a1)] [])) t → Steps p.tables e below (s₁.setTop (entryFrame m #[(.ref a1)] 1)) t := by
    intro t kt
    refine pre0 t ?_
    show Steps p.tables e below (s₁.setTop (mkF m 0 #[.val (.ref a1)] [])) _
    refine XS.aloadN X0.here hx rfl (hb hby own_d_jdk_38_method_2_0) rfl rfl ?_
    show Steps p.tables e below (s₁.setTop (mkF m 1 #[.val (.ref a1)] [(.ref a1)])) _
    refine st2.trans ?_
    show Steps p.tables e below (T2.setTop (mkF m 4 #[.val (.ref a1)] [])) _
    refine XS.aloadN X2.here hx rfl (hb hby own_d_jdk_38_method_2_4) rfl rfl ?_
    show Steps p.tables e below (T2.setTop (mkF m 5 #[.val (.ref a1)] [(.ref a1)])) _
    refine st8 _ ?_
    show Steps p.tables e below (T8.setTop (mkF m 8 #[.val (.ref a1)] [(.ref aS), (.ref a1)])) _
    refine st9 _ ?_
    exact kt
  obtain ⟨fs, hr, hrun, hended, hW, hsame⟩ := X9.leave (v := none) (fun _ => rfl)
  refine ⟨_, _, pre16 _ ?_, hrun, hended, _, _, rfl, ?_, ⟨_, rfl⟩, hW, hsame.mono (by decide) (by decide)⟩
  · show Steps p.tables e below (T9.setTop (mkF m 11 #[.val (.ref a1)] [])) _
    exact X9.returnOut hx Bd.returns (hb hby own_d_jdk_38_method_2_11) hr
  · show own_Q_al Z a1 aS h0 n0 (none) T9.heap _
    rw [e9]
    exact ⟨rfl, nf14, k13⟩
theorem own_d_prog_13_method_1_0 : decode prog_13_method_1_code 0 = .ok (.aload_n 0, 1) := by decide +kernel
theorem own_d_prog_13_method_1_1 : decode prog_13_method_1_code 1 = .ok (.invokespecial 1, 3) := by decide +kernel
theorem own_d_prog_13_method_1_4 : decode prog_13_method_1_code 4 = .ok (.aload_n 0, 1) := by decide +kernel
theorem own_d_prog_13_method_1_5 : decode prog_13_method_1_code 5 = .ok (.new 7, 3) := by decide +kernel
theorem own_d_prog_13_method_1_8 : decode prog_13_method_1_code 8 = .ok (.dup, 1) := by decide +kernel
theorem own_d_prog_13_method_1_9 : decode prog_13_method_1_code 9 = .ok (.invokespecial 9, 3) := by decide +kernel
theorem own_d_prog_13_method_1_12 : decode prog_13_method_1_code 12 = .ok (.putfield 10, 3) := by decide +kernel
theorem own_d_prog_13_method_1_15 : decode prog_13_method_1_code 15 = .ok (.aload_n 0, 1) := by decide +kernel
theorem own_d_prog_13_method_1_16 : decode prog_13_method_1_code 16 = .ok (.new 7, 3) := by decide +kernel
theorem own_d_prog_13_method_1_19 : decode prog_13_method_1_code 19 = .ok (.dup, 1) := by decide +kernel
theorem own_d_prog_13_method_1_20 : decode prog_13_method_1_code 20 = .ok (.invokespecial 9, 3) := by decide +kernel
theorem own_d_prog_13_method_1_23 : decode prog_13_method_1_code 23 = .ok (.putfield 16, 3) := by decide +kernel
theorem own_d_prog_13_method_1_26 : decode prog_13_method_1_code 26 = .ok (.aload_n 0, 1) := by decide +kernel
theorem own_d_prog_13_method_1_27 : decode prog_13_method_1_code 27 = .ok (.iload_n 1, 1) := by decide +kernel
theorem own_d_prog_13_method_1_28 : decode prog_13_method_1_code 28 = .ok (.putfield 19, 3) := by decide +kernel
theorem own_d_prog_13_method_1_31 : decode prog_13_method_1_code 31 = .ok (.aload_n 0, 1) := by decide +kernel
theorem own_d_prog_13_method_1_32 : decode prog_13_method_1_code 32 = .ok (.iload_n 2, 1) := by decide +kernel
theorem own_d_prog_13_method_1_33 : decode prog_13_method_1_code 33 = .ok (.putfield 23, 3) := by decide +kernel
theorem own_d_prog_13_method_1_36 : decode prog_13_method_1_code 36 = .ok (.aload_n 0, 1) := by decide +kernel
theorem own_d_prog_13_method_1_37 : decode prog_13_method_1_code 37 = .ok (.aload_n 3, 1) := by decide +kernel
theorem own_d_prog_13_method_1_38 : decode prog_13_method_1_code 38 = .ok (.putfield 26, 3) := by decide +kernel
theorem own_d_prog_13_method_1_41 : decode prog_13_method_1_code 41 = .ok (.return_, 1) := by decide +kernel
theorem own_pn3 : plainName "com/example/interleave/interleave/check/Expansion" = true := by first | (simp [plainName, overriddenIn]; done) | decide +kernel
theorem own_ef_exR (m : MethodId) (a1 : Addr) (p2 : Int32) (p3 : Int32) (a4 : Addr) : entryFrame m #[(.ref a1), (.int p2), (.int p3), (.ref a4)] 4 = mkF m 0 #[.val (.ref a1), .val (.int p2), .val (.int p3), .val (.ref a4)] [] := by first | (simp [entryFrame, mkF, argsToLocals, Value.category]; done) | rfl
def own_Q_exR (Z : State) (a1 : Addr) (p2 : Int32) (p3 : Int32) (a4 : Addr) (aS : Addr) (h0 : Heap) (n0 : Nat) (v : Option Value) (h : Heap) (L : List Loc) : Prop := v = none ∧ Fr n0 L ∧ Keep h0 h [a1] ∧ Fld Z h a1 "com/example/interleave/interleave/check/Expansion" "sourceId" "I" (.int p2) ∧ Fld Z h a1 "com/example/interleave/interleave/check/Expansion" "sourceParent" "I" (.int p3) ∧ Fld Z h a1 "com/example/interleave/interleave/check/Expansion" "sourceBytes" "[B" (.ref a4) ∧ Fld Z h a1 "com/example/interleave/interleave/check/Expansion" "fresh" "Ljava/util/List;" .null ∧ Fld Z h a1 "com/example/interleave/interleave/check/Expansion" "generated" "J" (.long (0 : Int64)) ∧ Fld Z h a1 "com/example/interleave/interleave/check/Expansion" "distinct" "J" (.long (0 : Int64)) ∧ Fld Z h a1 "com/example/interleave/interleave/check/Expansion" "depth" "I" (.int (0 : Int32))
set_option maxRecDepth 65536 in
set_option maxHeartbeats 40000000 in
theorem own_rm_exR (l : Launch) (Z : State) (a0 : Array Value) (hw : ∀ d ∈ tables_1, d.before a0 Z = true) (ws : List Jvm.Cond) (a1 : Addr) (p2 : Int32) (p3 : Int32) (a4 : Addr) (aS : Addr) (h0 : Heap) (n0 : Nat) (Z0 : n0 ≤ h0.size) (S0 : Sta Z h0 "java/util/ArrayList" "DEFAULTCAPACITY_EMPTY_ELEMENTDATA" "[Ljava/lang/Object;" (.ref aS)) (E1 : Exa Z h0 a1 "com/example/interleave/interleave/check/Expansion") (F_found : Fld Z h0 a1 "com/example/interleave/interleave/check/Expansion" "found" "Ljava/util/List;" .null) (F_printed : Fld Z h0 a1 "com/example/interleave/interleave/check/Expansion" "printed" "Ljava/util/List;" .null) (F_sourceId : Fld Z h0 a1 "com/example/interleave/interleave/check/Expansion" "sourceId" "I" (.int (0 : Int32))) (F_sourceParent : Fld Z h0 a1 "com/example/interleave/interleave/check/Expansion" "sourceParent" "I" (.int (0 : Int32))) (F_sourceBytes : Fld Z h0 a1 "com/example/interleave/interleave/check/Expansion" "sourceBytes" "[B" .null) (F_fresh : Fld Z h0 a1 "com/example/interleave/interleave/check/Expansion" "fresh" "Ljava/util/List;" .null) (F_generated : Fld Z h0 a1 "com/example/interleave/interleave/check/Expansion" "generated" "J" (.long (0 : Int64))) (F_distinct : Fld Z h0 a1 "com/example/interleave/interleave/check/Expansion" "distinct" "J" (.long (0 : Int64))) (F_depth : Fld Z h0 a1 "com/example/interleave/interleave/check/Expansion" "depth" "I" (.int (0 : Int32))) (g1 : n0 ≤ a1) :
    MetFree l (⟨"com/example/interleave/interleave/check/Expansion", "<init>", "(II[B)V"⟩ : MethodName) (head1 (Jvm.Cond.code (⟨"com/example/interleave/interleave/check/Expansion", "<init>", "(II[B)V"⟩ : MethodName) prog_13_method_1_code 4 none :: ws) ({ frames := 4, cells := 2, slots := 6, locals := 50 } : Room)) (fun a U => a = #[(.ref a1), (.int p2), (.int p3), (.ref a4)] ∧ Z.Warmed39 U.vm ∧ U.heap = h0) (fun _ _ _ _ _ => True) (fun _ U o U' => ∃ v L, o = .returned v ∧ own_Q_exR Z a1 p2 p3 a4 aS h0 n0 v U'.heap L ∧ FrameEnd U o U' L ({ frames := 4, cells := 2, slots := 6, locals := 50 } : Room).cells ({ frames := 4, cells := 2, slots := 6, locals := 50 } : Room).slots) := by
  refine MetFree.of_bodySF (plainFor_of_name own_pn3) hisR ?_
  intro p e s m args below meth c s₁ Bd hml0 hP hK
  obtain ⟨rfl, hZ, hh⟩ := hP
  have hx := Bd.exec
  have hby := Bd.bytes
  have hml : c.maxLocals = 4 := hml0
  have hown : s.vm.findClass "com/example/interleave/interleave/check/Expansion" = some m.cls := findClass_of_methodNamed Bd.named
  have hnm := (name_of_methodNamed Bd.named Bd.method).1
  have X0 : Stand p l e ({ frames := 4, cells := 2, slots := 6, locals := 50 } : Room) s m #[(.ref a1), (.int p2), (.int p3), (.ref a4)] below meth c s₁ [] 0 0 := Stand.of_body Bd
  have e0 : s₁.heap = h0 := by rw [← hh, Bd.state]; rfl
  have N0 := Fr.nil n0
  have K0 : Keep h0 h0 [a1] := Keep.refl _ _
  have pre0 : ∀ t, Steps p.tables e below (s₁.setTop (mkF m 0 #[.val (.ref a1), .val (.int p2), .val (.int p3), .val (.ref a4)] [])) t → Steps p.tables e below (s₁.setTop (entryFrame m #[(.ref a1), (.int p2), (.int p3), (.ref a4)] 4)) t := fun t k => castTop (own_ef_exR m a1 p2 p3 a4) k
  obtain ⟨T1, X1, e1, st1⟩ := initO X0 hx hZ hown (hw _ (List.mem_of_getElem? (i := 7) rfl)) (hw _ (List.mem_of_getElem? (i := 8) rfl)) (hw _ (List.mem_of_getElem? (i := 9) rfl)) e0 (g := (mkF m 1 #[.val (.ref a1), .val (.int p2), .val (.int p3), .val (.ref a4)] [(.ref a1)])) rfl (by rw [hml]; rfl) rfl (hb hby own_d_prog_13_method_1_1) (by decide) (W := 0) (by show 2 * 0 + _ ≤ _; exact Nat.le_of_eq rfl) (by decide)
  obtain ⟨T2, h2, X2, e2, E2, A2, D2, -, st2⟩ := newO X1 hx hZ hown (hw _ (List.mem_of_getElem? (i := 10) rfl)) (hw _ (List.mem_of_getElem? (i := 11) rfl)) (hw _ (List.mem_of_getElem? (i := 12) rfl)) e1 (g := (mkF m 5 #[.val (.ref a1), .val (.int p2), .val (.int p3), .val (.ref a4)] [(.ref a1)])) rfl (hb hby own_d_prog_13_method_1_5) (by decide) (by decide)
  obtain ⟨b2, g2⟩ : ∃ z, z = h0.size := ⟨_, rfl⟩
  rw [← g2] at A2 D2 st2
  have sz_b2 : h0.size ≤ b2 := Nat.le_trans K0.1 (Nat.le_of_eq g2.symm)
  have gn_b2 : n0 ≤ b2 := Nat.le_trans Z0 sz_b2
  have ne_a1_b2 : a1 ≠ b2 := Nat.ne_of_lt (Nat.lt_of_lt_of_le F_depth.lt (Nat.le_of_eq g2.symm))
  have f3 := S0.ext E2
  have f4 := E1.ext E2
  have f5 := F_found.ext E2
  have f6 := F_printed.ext E2
  have f7 := F_sourceId.ext E2
  have f8 := F_sourceParent.ext E2
  have f9 := F_sourceBytes.ext E2
  have f10 := F_fresh.ext E2
  have f11 := F_generated.ext E2
  have f12 := F_distinct.ext E2
  have f13 := F_depth.ext E2
  have k14 := K0.ext E2
  have f15 : Fld Z h2 b2 "java/util/AbstractList" "modCount" "I" (.int (0 : Int32)) := D2 (Or.inl (hw _ (List.mem_of_getElem? (i := 30) rfl))) (ty := .int) (by decide)
  have f16 : Fld Z h2 b2 "java/util/ArrayList" "elementData" "[Ljava/lang/Object;" .null := D2 (Or.inl (hw _ (List.mem_of_getElem? (i := 33) rfl))) (ty := (.array (.object "java/lang/Object"))) (by decide)
  have zs17 : n0 ≤ h2.size := Nat.le_trans Z0 k14.1
  obtain ⟨_, _, ⟨T18, L18, k18, n18⟩, -, X18, ⟨Lc18, hQ18, l18, y18, z18⟩, st18⟩ := X2.specialBack hx (y := (⟨"java/util/ArrayList", "<init>", "()V"⟩ : MethodName)) rfl hown (mvT hZ (hw _ (List.mem_of_getElem? (i := 13) rfl))) (mvT hZ (hw _ (List.mem_of_getElem? (i := 14) rfl))) (mvT hZ (hw _ (List.mem_of_getElem? (i := 15) rfl))) (by decide) (backOf (W := 2) (own_rm_al l Z a0 hw [] b2 aS h2 n0 zs17 f3 A2 f15 f16 gn_b2) hZ (hw _ (List.mem_of_getElem? (i := 15) rfl)) (hw _ (List.mem_of_getElem? (i := 12) rfl)) (by decide) (by decide)) (g := (mkF m 9 #[.val (.ref a1), .val (.int p2), .val (.int p3), .val (.ref a4)] [(.ref b2), (.ref b2), (.ref a1)])) rfl (by rw [hml]; rfl) (Steps.refl _) (a := b2) (argsL := []) (rest := [(.ref b2), (.ref a1)]) (lenOf own_pd0 rfl) rfl (by show 2 * 0 + _ ≤ _; exact Nat.le_of_eq rfl) (hb hby own_d_prog_13_method_1_9) (fun _ _ => ⟨rfl, e2, (by decide : 1 + 0 ≤ _), (by decide : 3 + 0 ≤ _)⟩)
  dsimp only [Pt.U, Pt.locs, Pt.cells, Pt.slots] at X18 l18 y18 z18 st18 hQ18
  rw [l18, (y18 : k18 = 1), (z18 : n18 = 3)] at X18
  clear l18 y18 z18
  obtain ⟨rfl, N19, K19⟩ := hQ18
  have f20 := own_sta_keep f3 K19 (own_pl_cons A2 all0)
  have f21 := f4.keep K19
  have f22 := f5.keep K19 (ninS ne_a1_b2 nin0)
  have f23 := f6.keep K19 (ninS ne_a1_b2 nin0)
  have f24 := f7.keep K19 (ninS ne_a1_b2 nin0)
  have f25 := f8.keep K19 (ninS ne_a1_b2 nin0)
  have f26 := f9.keep K19 (ninS ne_a1_b2 nin0)
  have f27 := f10.keep K19 (ninS ne_a1_b2 nin0)
  have f28 := f11.keep K19 (ninS ne_a1_b2 nin0)
  have f29 := f12.keep K19 (ninS ne_a1_b2 nin0)
  have f30 := f13.keep K19 (ninS ne_a1_b2 nin0)
  have f31 := A2.keep K19
  have k32 := k14.trans K19 (allS (Or.inr sz_b2) all0)
  have nf33 := Fr.app N0 N19
  obtain ⟨T34, h34, X34, e34, W34, st34⟩ := putF X18 hx hZ hown (host := "") (Or.inl (hw _ (List.mem_of_getElem? (i := 34) rfl))) Via.refl rfl f22 f21 (Or.inr ⟨(hw _ (List.mem_of_getElem? (i := 35) rfl)), rfl, hnm⟩) (hw _ (List.mem_of_getElem? (i := 2) rfl)) (ty := (.object "java/util/List")) (by decide) rfl rfl (g := (mkF m 12 #[.val (.ref a1), .val (.int p2), .val (.int p3), .val (.ref a4)] [(.ref b2), (.ref a1)])) rfl rfl (hb hby own_d_prog_13_method_1_12)
  have f35 := f20.wr W34
  have f36 := f21.wr W34
  have f38 := f23.other W34 (Or.inr (slot_ne (Or.inr (hw _ (List.mem_of_getElem? (i := 37) rfl))) (Or.inr (hw _ (List.mem_of_getElem? (i := 35) rfl))) (by decide) (t := (.object "java/util/List")) (t' := (.object "java/util/List")) (by decide) (by decide)))
  have f39 := f24.other W34 (Or.inr (slot_ne (Or.inr (hw _ (List.mem_of_getElem? (i := 39) rfl))) (Or.inr (hw _ (List.mem_of_getElem? (i := 35) rfl))) (by decide) (t := .int) (t' := (.object "java/util/List")) (by decide) (by decide)))
  have f40 := f25.other W34 (Or.inr (slot_ne (Or.inr (hw _ (List.mem_of_getElem? (i := 41) rfl))) (Or.inr (hw _ (List.mem_of_getElem? (i := 35) rfl))) (by decide) (t := .int) (t' := (.object "java/util/List")) (by decide) (by decide)))
  have f41 := f26.other W34 (Or.inr (slot_ne (Or.inr (hw _ (List.mem_of_getElem? (i := 43) rfl))) (Or.inr (hw _ (List.mem_of_getElem? (i := 35) rfl))) (by decide) (t := (.array .byte)) (t' := (.object "java/util/List")) (by decide) (by decide)))
  have f42 := f27.other W34 (Or.inr (slot_ne (Or.inl (hw _ (List.mem_of_getElem? (i := 52) rfl))) (Or.inr (hw _ (List.mem_of_getElem? (i := 35) rfl))) (by decide) (t := (.object "java/util/List")) (t' := (.object "java/util/List")) (by decide) (by decide)))
  have f43 := f28.other W34 (Or.inr (slot_ne (Or.inl (hw _ (List.mem_of_getElem? (i := 54) rfl))) (Or.inr (hw _ (List.mem_of_getElem? (i := 35) rfl))) (by decide) (t := .long) (t' := (.object "java/util/List")) (by decide) (by decide)))
  have f44 := f29.other W34 (Or.inr (slot_ne (Or.inl (hw _ (List.mem_of_getElem? (i := 56) rfl))) (Or.inr (hw _ (List.mem_of_getElem? (i := 35) rfl))) (by decide) (t := .long) (t' := (.object "java/util/List")) (by decide) (by decide)))
  have f45 := f30.other W34 (Or.inr (slot_ne (Or.inl (hw _ (List.mem_of_getElem? (i := 58) rfl))) (Or.inr (hw _ (List.mem_of_getElem? (i := 35) rfl))) (by decide) (t := .int) (t' := (.object "java/util/List")) (by decide) (by decide)))
  have f46 := f31.wr W34
  have k47 := k32.wr W34 (Or.inl (List.mem_of_getElem? (i := 0) rfl))
  have nf48 := Fr.snoc X34 nf33 g1
  have f49 := f22.same W34
  obtain ⟨T50, h50, X50, e50, E50, A50, D50, -, st50⟩ := newO X34 hx hZ hown (hw _ (List.mem_of_getElem? (i := 10) rfl)) (hw _ (List.mem_of_getElem? (i := 11) rfl)) (hw _ (List.mem_of_getElem? (i := 12) rfl)) e34 (g := (mkF m 16 #[.val (.ref a1), .val (.int p2), .val (.int p3), .val (.ref a4)] [(.ref a1)])) rfl (hb hby own_d_prog_13_method_1_16) (by decide) (by decide)
  obtain ⟨b50, g50⟩ : ∃ z, z = h34.size := ⟨_, rfl⟩
  rw [← g50] at A50 D50 st50
  have sz_b50 : h0.size ≤ b50 := Nat.le_trans k47.1 (Nat.le_of_eq g50.symm)
  have gn_b50 : n0 ≤ b50 := Nat.le_trans Z0 sz_b50
  have ne_a1_b50 : a1 ≠ b50 := Nat.ne_of_lt (Nat.lt_of_lt_of_le f45.lt (Nat.le_of_eq g50.symm))
  have ne_b2_b50 : b2 ≠ b50 := Nat.ne_of_lt (Nat.lt_of_lt_of_le f46.lt (Nat.le_of_eq g50.symm))
  have f51 := f35.ext E50
  have f52 := f36.ext E50
  have f53 := f49.ext E50
  have f54 := f38.ext E50
  have f55 := f39.ext E50
  have f56 := f40.ext E50
  have f57 := f41.ext E50
  have f58 := f42.ext E50
  have f59 := f43.ext E50
  have f60 := f44.ext E50
  have f61 := f45.ext E50
  have f62 := f46.ext E50
  have k63 := k47.ext E50
  have f64 : Fld Z h50 b50 "java/util/AbstractList" "modCount" "I" (.int (0 : Int32)) := D50 (Or.inl (hw _ (List.mem_of_getElem? (i := 30) rfl))) (ty := .int) (by decide)
  have f65 : Fld Z h50 b50 "java/util/ArrayList" "elementData" "[Ljava/lang/Object;" .null := D50 (Or.inl (hw _ (List.mem_of_getElem? (i := 33) rfl))) (ty := (.array (.object "java/lang/Object"))) (by decide)
  have zs66 : n0 ≤ h50.size := Nat.le_trans Z0 k63.1
  obtain ⟨_, _, ⟨T67, L67, k67, n67⟩, -, X67, ⟨Lc67, hQ67, l67, y67, z67⟩, st67⟩ := X50.specialBack hx (y := (⟨"java/util/ArrayList", "<init>", "()V"⟩ : MethodName)) rfl hown (mvT hZ (hw _ (List.mem_of_getElem? (i := 13) rfl))) (mvT hZ (hw _ (List.mem_of_getElem? (i := 14) rfl))) (mvT hZ (hw _ (List.mem_of_getElem? (i := 15) rfl))) (by decide) (backOf (W := 2) (own_rm_al l Z a0 hw [] b50 aS h50 n0 zs66 f51 A50 f64 f65 gn_b50) hZ (hw _ (List.mem_of_getElem? (i := 15) rfl)) (hw _ (List.mem_of_getElem? (i := 12) rfl)) (by decide) (by decide)) (g := (mkF m 20 #[.val (.ref a1), .val (.int p2), .val (.int p3), .val (.ref a4)] [(.ref b50), (.ref b50), (.ref a1)])) rfl (by rw [hml]; rfl) (Steps.refl _) (a := b50) (argsL := []) (rest := [(.ref b50), (.ref a1)]) (lenOf own_pd0 rfl) rfl (by show 2 * 0 + _ ≤ _; exact Nat.le_of_eq rfl) (hb hby own_d_prog_13_method_1_20) (fun _ _ => ⟨rfl, e50, (by decide : 2 + 0 ≤ _), (by decide : 6 + 0 ≤ _)⟩)
  dsimp only [Pt.U, Pt.locs, Pt.cells, Pt.slots] at X67 l67 y67 z67 st67 hQ67
  rw [l67, (y67 : k67 = 2), (z67 : n67 = 6)] at X67
  clear l67 y67 z67
  obtain ⟨rfl, N68, K68⟩ := hQ67
  have f69 := own_sta_keep f51 K68 (own_pl_cons A50 all0)
  have f70 := f52.keep K68
  have f71 := f53.keep K68 (ninS ne_a1_b50 nin0)
  have f72 := f54.keep K68 (ninS ne_a1_b50 nin0)
  have f73 := f55.keep K68 (ninS ne_a1_b50 nin0)
  have f74 := f56.keep K68 (ninS ne_a1_b50 nin0)
  have f75 := f57.keep K68 (ninS ne_a1_b50 nin0)
  have f76 := f58.keep K68 (ninS ne_a1_b50 nin0)
  have f77 := f59.keep K68 (ninS ne_a1_b50 nin0)
  have f78 := f60.keep K68 (ninS ne_a1_b50 nin0)
  have f79 := f61.keep K68 (ninS ne_a1_b50 nin0)
  have f80 := f62.keep K68
  have f81 := A50.keep K68
  have k82 := k63.trans K68 (allS (Or.inr sz_b50) all0)
  have nf83 := Fr.app nf48 N68
  obtain ⟨T84, h84, X84, e84, W84, st84⟩ := putF X67 hx hZ hown (host := "") (Or.inl (hw _ (List.mem_of_getElem? (i := 36) rfl))) Via.refl rfl f72 f70 (Or.inr ⟨(hw _ (List.mem_of_getElem? (i := 37) rfl)), rfl, hnm⟩) (hw _ (List.mem_of_getElem? (i := 2) rfl)) (ty := (.object "java/util/List")) (by decide) rfl rfl (g := (mkF m 23 #[.val (.ref a1), .val (.int p2), .val (.int p3), .val (.ref a4)] [(.ref b50), (.ref a1)])) rfl rfl (hb hby own_d_prog_13_method_1_23)
  have f85 := f69.wr W84
  have f86 := f70.wr W84
  have f87 := f71.other W84 (Or.inr (slot_ne (Or.inr (hw _ (List.mem_of_getElem? (i := 35) rfl))) (Or.inr (hw _ (List.mem_of_getElem? (i := 37) rfl))) (by decide) (t := (.object "java/util/List")) (t' := (.object "java/util/List")) (by decide) (by decide)))
  have f89 := f73.other W84 (Or.inr (slot_ne (Or.inr (hw _ (List.mem_of_getElem? (i := 39) rfl))) (Or.inr (hw _ (List.mem_of_getElem? (i := 37) rfl))) (by decide) (t := .int) (t' := (.object "java/util/List")) (by decide) (by decide)))
  have f90 := f74.other W84 (Or.inr (slot_ne (Or.inr (hw _ (List.mem_of_getElem? (i := 41) rfl))) (Or.inr (hw _ (List.mem_of_getElem? (i := 37) rfl))) (by decide) (t := .int) (t' := (.object "java/util/List")) (by decide) (by decide)))
  have f91 := f75.other W84 (Or.inr (slot_ne (Or.inr (hw _ (List.mem_of_getElem? (i := 43) rfl))) (Or.inr (hw _ (List.mem_of_getElem? (i := 37) rfl))) (by decide) (t := (.array .byte)) (t' := (.object "java/util/List")) (by decide) (by decide)))
  have f92 := f76.other W84 (Or.inr (slot_ne (Or.inl (hw _ (List.mem_of_getElem? (i := 52) rfl))) (Or.inr (hw _ (List.mem_of_getElem? (i := 37) rfl))) (by decide) (t := (.object "java/util/List")) (t' := (.object "java/util/List")) (by decide) (by decide)))
  have f93 := f77.other W84 (Or.inr (slot_ne (Or.inl (hw _ (List.mem_of_getElem? (i := 54) rfl))) (Or.inr (hw _ (List.mem_of_getElem? (i := 37) rfl))) (by decide) (t := .long) (t' := (.object "java/util/List")) (by decide) (by decide)))
  have f94 := f78.other W84 (Or.inr (slot_ne (Or.inl (hw _ (List.mem_of_getElem? (i := 56) rfl))) (Or.inr (hw _ (List.mem_of_getElem? (i := 37) rfl))) (by decide) (t := .long) (t' := (.object "java/util/List")) (by decide) (by decide)))
  have f95 := f79.other W84 (Or.inr (slot_ne (Or.inl (hw _ (List.mem_of_getElem? (i := 58) rfl))) (Or.inr (hw _ (List.mem_of_getElem? (i := 37) rfl))) (by decide) (t := .int) (t' := (.object "java/util/List")) (by decide) (by decide)))
  have f96 := f80.wr W84
  have f97 := f81.wr W84
  have k98 := k82.wr W84 (Or.inl (List.mem_of_getElem? (i := 0) rfl))
  have nf99 := Fr.snoc X84 nf83 g1
  have f100 := f72.same W84
  have pre101 : ∀ t, Steps p.tables e below (T84.setTop (mkF m 26 #[.val (.ref a1), .val (.int p2), .val (.int p3), .val (.ref a4)] [])) t → Steps p.tables e below (s₁.setTop (entryFrame m #[(.ref a1), (.int p2), (.int p3), (.ref a4)] 4)) t := by
    intro t kt
    refine pre0 t ?_
    show Steps p.tables e below (s₁.setTop (mkF m 0 #[.val (.ref a1), .val (.int p2), .val (.int p3), .val (.ref a4)] [])) _
    refine XS.aloadN X0.here hx rfl (hb hby own_d_prog_13_method_1_0) rfl rfl ?_
    show Steps p.tables e below (s₁.setTop (mkF m 1 #[.val (.ref a1), .val (.int p2), .val (.int p3), .val (.ref a4)] [(.ref a1)])) _
    refine st1 _ ?_
    show Steps p.tables e below (T1.setTop (mkF m 4 #[.val (.ref a1), .val (.int p2), .val (.int p3), .val (.ref a4)] [])) _
    refine XS.aloadN X1.here hx rfl (hb hby own_d_prog_13_method_1_4) rfl rfl ?_
    show Steps p.tables e below (T1.setTop (mkF m 5 #[.val (.ref a1), .val (.int p2), .val (.int p3), .val (.ref a4)] [(.ref a1)])) _
    refine st2 _ ?_
    show Steps p.tables e below (T2.setTop (mkF m 8 #[.val (.ref a1), .val (.int p2), .val (.int p3), .val (.ref a4)] [(.ref b2), (.ref a1)])) _
    refine XS.dup X2.here hx rfl (hb hby own_d_prog_13_method_1_8) rfl rfl ?_
    show Steps p.tables e below (T2.setTop (mkF m 9 #[.val (.ref a1), .val (.int p2), .val (.int p3), .val (.ref a4)] [(.ref b2), (.ref b2), (.ref a1)])) _
    refine st18.trans ?_
    show Steps p.tables e below (T18.setTop (mkF m 12 #[.val (.ref a1), .val (.int p2), .val (.int p3), .val (.ref a4)] [(.ref b2), (.ref a1)])) _
    refine st34 _ ?_
    show Steps p.tables e below (T34.setTop (mkF m 15 #[.val (.ref a1), .val (.int p2), .val (.int p3), .val (.ref a4)] [])) _
    refine XS.aloadN X34.here hx rfl (hb hby own_d_prog_13_method_1_15) rfl rfl ?_
    show Steps p.tables e below (T34.setTop (mkF m 16 #[.val (.ref a1), .val (.int p2), .val (.int p3), .val (.ref a4)] [(.ref a1)])) _
    refine st50 _ ?_
    show Steps p.tables e below (T50.setTop (mkF m 19 #[.val (.ref a1), .val (.int p2), .val (.int p3), .val (.ref a4)] [(.ref b50), (.ref a1)])) _
    refine XS.dup X50.here hx rfl (hb hby own_d_prog_13_method_1_19) rfl rfl ?_
    show Steps p.tables e below (T50.setTop (mkF m 20 #[.val (.ref a1), .val (.int p2), .val (.int p3), .val (.ref a4)] [(.ref b50), (.ref b50), (.ref a1)])) _
    refine st67.trans ?_
    show Steps p.tables e below (T67.setTop (mkF m 23 #[.val (.ref a1), .val (.int p2), .val (.int p3), .val (.ref a4)] [(.ref b50), (.ref a1)])) _
    refine st84 _ ?_
    exact kt
  obtain ⟨T102, h102, X102, e102, W102, st102⟩ := putF X84 hx hZ hown (host := "") (Or.inl (hw _ (List.mem_of_getElem? (i := 38) rfl))) Via.refl e84 f89 f86 (Or.inr ⟨(hw _ (List.mem_of_getElem? (i := 39) rfl)), rfl, hnm⟩) (hw _ (List.mem_of_getElem? (i := 2) rfl)) (ty := .int) (by decide) rfl rfl (g := (mkF m 28 #[.val (.ref a1), .val (.int p2), .val (.int p3), .val (.ref a4)] [(.int p2), (.ref a1)])) rfl rfl (hb hby own_d_prog_13_method_1_28)
  have f103 := f85.wr W102
  have f104 := f86.wr W102
  have f105 := f87.other W102 (Or.inr (slot_ne (Or.inr (hw _ (List.mem_of_getElem? (i := 35) rfl))) (Or.inr (hw _ (List.mem_of_getElem? (i := 39) rfl))) (by decide) (t := (.object "java/util/List")) (t' := .int) (by decide) (by decide)))
  have f106 := f100.other W102 (Or.inr (slot_ne (Or.inr (hw _ (List.mem_of_getElem? (i := 37) rfl))) (Or.inr (hw _ (List.mem_of_getElem? (i := 39) rfl))) (by decide) (t := (.object "java/util/List")) (t' := .int) (by decide) (by decide)))
  have f108 := f90.other W102 (Or.inr (slot_ne (Or.inr (hw _ (List.mem_of_getElem? (i := 41) rfl))) (Or.inr (hw _ (List.mem_of_getElem? (i := 39) rfl))) (by decide) (t := .int) (t' := .int) (by decide) (by decide)))
  have f109 := f91.other W102 (Or.inr (slot_ne (Or.inr (hw _ (List.mem_of_getElem? (i := 43) rfl))) (Or.inr (hw _ (List.mem_of_getElem? (i := 39) rfl))) (by decide) (t := (.array .byte)) (t' := .int) (by decide) (by decide)))
  have f110 := f92.other W102 (Or.inr (slot_ne (Or.inl (hw _ (List.mem_of_getElem? (i := 52) rfl))) (Or.inr (hw _ (List.mem_of_getElem? (i := 39) rfl))) (by decide) (t := (.object "java/util/List")) (t' := .int) (by decide) (by decide)))
  have f111 := f93.other W102 (Or.inr (slot_ne (Or.inl (hw _ (List.mem_of_getElem? (i := 54) rfl))) (Or.inr (hw _ (List.mem_of_getElem? (i := 39) rfl))) (by decide) (t := .long) (t' := .int) (by decide) (by decide)))
  have f112 := f94.other W102 (Or.inr (slot_ne (Or.inl (hw _ (List.mem_of_getElem? (i := 56) rfl))) (Or.inr (hw _ (List.mem_of_getElem? (i := 39) rfl))) (by decide) (t := .long) (t' := .int) (by decide) (by decide)))
  have f113 := f95.other W102 (Or.inr (slot_ne (Or.inl (hw _ (List.mem_of_getElem? (i := 58) rfl))) (Or.inr (hw _ (List.mem_of_getElem? (i := 39) rfl))) (by decide) (t := .int) (t' := .int) (by decide) (by decide)))
  have f114 := f96.wr W102
  have f115 := f97.wr W102
  have k116 := k98.wr W102 (Or.inl (List.mem_of_getElem? (i := 0) rfl))
  have nf117 := Fr.snoc X102 nf99 g1
  have f118 := f89.same W102
  obtain ⟨T119, h119, X119, e119, W119, st119⟩ := putF X102 hx hZ hown (host := "") (Or.inl (hw _ (List.mem_of_getElem? (i := 40) rfl))) Via.refl e102 f108 f104 (Or.inr ⟨(hw _ (List.mem_of_getElem? (i := 41) rfl)), rfl, hnm⟩) (hw _ (List.mem_of_getElem? (i := 2) rfl)) (ty := .int) (by decide) rfl rfl (g := (mkF m 33 #[.val (.ref a1), .val (.int p2), .val (.int p3), .val (.ref a4)] [(.int p3), (.ref a1)])) rfl rfl (hb hby own_d_prog_13_method_1_33)
  have f120 := f103.wr W119
  have f121 := f104.wr W119
  have f122 := f105.other W119 (Or.inr (slot_ne (Or.inr (hw _ (List.mem_of_getElem? (i := 35) rfl))) (Or.inr (hw _ (List.mem_of_getElem? (i := 41) rfl))) (by decide) (t := (.object "java/util/List")) (t' := .int) (by decide) (by decide)))
  have f123 := f106.other W119 (Or.inr (slot_ne (Or.inr (hw _ (List.mem_of_getElem? (i := 37) rfl))) (Or.inr (hw _ (List.mem_of_getElem? (i := 41) rfl))) (by decide) (t := (.object "java/util/List")) (t' := .int) (by decide) (by decide)))
  have f124 := f118.other W119 (Or.inr (slot_ne (Or.inr (hw _ (List.mem_of_getElem? (i := 39) rfl))) (Or.inr (hw _ (List.mem_of_getElem? (i := 41) rfl))) (by decide) (t := .int) (t' := .int) (by decide) (by decide)))
  have f126 := f109.other W119 (Or.inr (slot_ne (Or.inr (hw _ (List.mem_of_getElem? (i := 43) rfl))) (Or.inr (hw _ (List.mem_of_getElem? (i := 41) rfl))) (by decide) (t := (.array .byte)) (t' := .int) (by decide) (by decide)))
  have f127 := f110.other W119 (Or.inr (slot_ne (Or.inl (hw _ (List.mem_of_getElem? (i := 52) rfl))) (Or.inr (hw _ (List.mem_of_getElem? (i := 41) rfl))) (by decide) (t := (.object "java/util/List")) (t' := .int) (by decide) (by decide)))
  have f128 := f111.other W119 (Or.inr (slot_ne (Or.inl (hw _ (List.mem_of_getElem? (i := 54) rfl))) (Or.inr (hw _ (List.mem_of_getElem? (i := 41) rfl))) (by decide) (t := .long) (t' := .int) (by decide) (by decide)))
  have f129 := f112.other W119 (Or.inr (slot_ne (Or.inl (hw _ (List.mem_of_getElem? (i := 56) rfl))) (Or.inr (hw _ (List.mem_of_getElem? (i := 41) rfl))) (by decide) (t := .long) (t' := .int) (by decide) (by decide)))
  have f130 := f113.other W119 (Or.inr (slot_ne (Or.inl (hw _ (List.mem_of_getElem? (i := 58) rfl))) (Or.inr (hw _ (List.mem_of_getElem? (i := 41) rfl))) (by decide) (t := .int) (t' := .int) (by decide) (by decide)))
  have f131 := f114.wr W119
  have f132 := f115.wr W119
  have k133 := k116.wr W119 (Or.inl (List.mem_of_getElem? (i := 0) rfl))
  have nf134 := Fr.snoc X119 nf117 g1
  have f135 := f108.same W119
  obtain ⟨T136, h136, X136, e136, W136, st136⟩ := putF X119 hx hZ hown (host := "") (Or.inl (hw _ (List.mem_of_getElem? (i := 42) rfl))) Via.refl e119 f126 f121 (Or.inr ⟨(hw _ (List.mem_of_getElem? (i := 43) rfl)), rfl, hnm⟩) (hw _ (List.mem_of_getElem? (i := 2) rfl)) (ty := (.array .byte)) (by decide) rfl rfl (g := (mkF m 38 #[.val (.ref a1), .val (.int p2), .val (.int p3), .val (.ref a4)] [(.ref a4), (.ref a1)])) rfl rfl (hb hby own_d_prog_13_method_1_38)
  have f137 := f120.wr W136
  have f138 := f121.wr W136
  have f139 := f122.other W136 (Or.inr (slot_ne (Or.inr (hw _ (List.mem_of_getElem? (i := 35) rfl))) (Or.inr (hw _ (List.mem_of_getElem? (i := 43) rfl))) (by decide) (t := (.object "java/util/List")) (t' := (.array .byte)) (by decide) (by decide)))
  have f140 := f123.other W136 (Or.inr (slot_ne (Or.inr (hw _ (List.mem_of_getElem? (i := 37) rfl))) (Or.inr (hw _ (List.mem_of_getElem? (i := 43) rfl))) (by decide) (t := (.object "java/util/List")) (t' := (.array .byte)) (by decide) (by decide)))
  have f141 := f124.other W136 (Or.inr (slot_ne (Or.inr (hw _ (List.mem_of_getElem? (i := 39) rfl))) (Or.inr (hw _ (List.mem_of_getElem? (i := 43) rfl))) (by decide) (t := .int) (t' := (.array .byte)) (by decide) (by decide)))
  have f142 := f135.other W136 (Or.inr (slot_ne (Or.inr (hw _ (List.mem_of_getElem? (i := 41) rfl))) (Or.inr (hw _ (List.mem_of_getElem? (i := 43) rfl))) (by decide) (t := .int) (t' := (.array .byte)) (by decide) (by decide)))
  have f144 := f127.other W136 (Or.inr (slot_ne (Or.inl (hw _ (List.mem_of_getElem? (i := 52) rfl))) (Or.inr (hw _ (List.mem_of_getElem? (i := 43) rfl))) (by decide) (t := (.object "java/util/List")) (t' := (.array .byte)) (by decide) (by decide)))
  have f145 := f128.other W136 (Or.inr (slot_ne (Or.inl (hw _ (List.mem_of_getElem? (i := 54) rfl))) (Or.inr (hw _ (List.mem_of_getElem? (i := 43) rfl))) (by decide) (t := .long) (t' := (.array .byte)) (by decide) (by decide)))
  have f146 := f129.other W136 (Or.inr (slot_ne (Or.inl (hw _ (List.mem_of_getElem? (i := 56) rfl))) (Or.inr (hw _ (List.mem_of_getElem? (i := 43) rfl))) (by decide) (t := .long) (t' := (.array .byte)) (by decide) (by decide)))
  have f147 := f130.other W136 (Or.inr (slot_ne (Or.inl (hw _ (List.mem_of_getElem? (i := 58) rfl))) (Or.inr (hw _ (List.mem_of_getElem? (i := 43) rfl))) (by decide) (t := .int) (t' := (.array .byte)) (by decide) (by decide)))
  have f148 := f131.wr W136
  have f149 := f132.wr W136
  have k150 := k133.wr W136 (Or.inl (List.mem_of_getElem? (i := 0) rfl))
  have nf151 := Fr.snoc X136 nf134 g1
  have f152 := f126.same W136
  have pre153 : ∀ t, Steps p.tables e below (T136.setTop (mkF m 41 #[.val (.ref a1), .val (.int p2), .val (.int p3), .val (.ref a4)] [])) t → Steps p.tables e below (s₁.setTop (entryFrame m #[(.ref a1), (.int p2), (.int p3), (.ref a4)] 4)) t := by
    intro t kt
    refine pre101 t ?_
    show Steps p.tables e below (T84.setTop (mkF m 26 #[.val (.ref a1), .val (.int p2), .val (.int p3), .val (.ref a4)] [])) _
    refine XS.aloadN X84.here hx rfl (hb hby own_d_prog_13_method_1_26) rfl rfl ?_
    show Steps p.tables e below (T84.setTop (mkF m 27 #[.val (.ref a1), .val (.int p2), .val (.int p3), .val (.ref a4)] [(.ref a1)])) _
    refine XS.iloadN X84.here hx rfl (hb hby own_d_prog_13_method_1_27) rfl ?_
    show Steps p.tables e below (T84.setTop (mkF m 28 #[.val (.ref a1), .val (.int p2), .val (.int p3), .val (.ref a4)] [(.int p2), (.ref a1)])) _
    refine st102 _ ?_
    show Steps p.tables e below (T102.setTop (mkF m 31 #[.val (.ref a1), .val (.int p2), .val (.int p3), .val (.ref a4)] [])) _
    refine XS.aloadN X102.here hx rfl (hb hby own_d_prog_13_method_1_31) rfl rfl ?_
    show Steps p.tables e below (T102.setTop (mkF m 32 #[.val (.ref a1), .val (.int p2), .val (.int p3), .val (.ref a4)] [(.ref a1)])) _
    refine XS.iloadN X102.here hx rfl (hb hby own_d_prog_13_method_1_32) rfl ?_
    show Steps p.tables e below (T102.setTop (mkF m 33 #[.val (.ref a1), .val (.int p2), .val (.int p3), .val (.ref a4)] [(.int p3), (.ref a1)])) _
    refine st119 _ ?_
    show Steps p.tables e below (T119.setTop (mkF m 36 #[.val (.ref a1), .val (.int p2), .val (.int p3), .val (.ref a4)] [])) _
    refine XS.aloadN X119.here hx rfl (hb hby own_d_prog_13_method_1_36) rfl rfl ?_
    show Steps p.tables e below (T119.setTop (mkF m 37 #[.val (.ref a1), .val (.int p2), .val (.int p3), .val (.ref a4)] [(.ref a1)])) _
    refine XS.aloadN X119.here hx rfl (hb hby own_d_prog_13_method_1_37) rfl rfl ?_
    show Steps p.tables e below (T119.setTop (mkF m 38 #[.val (.ref a1), .val (.int p2), .val (.int p3), .val (.ref a4)] [(.ref a4), (.ref a1)])) _
    refine st136 _ ?_
    exact kt
  obtain ⟨fs, hr, hrun, hended, hW, hsame⟩ := X136.leave (v := none) (fun _ => rfl)
  refine ⟨_, _, pre153 _ ?_, hrun, hended, _, _, rfl, ?_, ⟨_, rfl⟩, hW, hsame.mono (by decide) (by decide)⟩
  · show Steps p.tables e below (T136.setTop (mkF m 41 #[.val (.ref a1), .val (.int p2), .val (.int p3), .val (.ref a4)] [])) _
    exact X136.returnOut hx Bd.returns (hb hby own_d_prog_13_method_1_41) hr
  · show own_Q_exR Z a1 p2 p3 a4 aS h0 n0 (none) T136.heap _
    rw [e136]
    exact ⟨rfl, nf151, k150, f141, f142, f152, f144, f145, f146, f147⟩
theorem own_ef_exN (m : MethodId) (a1 : Addr) (p2 : Int32) (p3 : Int32) : entryFrame m #[(.ref a1), (.int p2), (.int p3), .null] 4 = mkF m 0 #[.val (.ref a1), .val (.int p2), .val (.int p3), .val .null] [] := by first | (simp [entryFrame, mkF, argsToLocals, Value.category]; done) | rfl
def own_Q_exN (Z : State) (a1 : Addr) (p2 : Int32) (p3 : Int32) (aS : Addr) (h0 : Heap) (n0 : Nat) (v : Option Value) (h : Heap) (L : List Loc) : Prop := v = none ∧ Fr n0 L ∧ Keep h0 h [a1] ∧ Fld Z h a1 "com/example/interleave/interleave/check/Expansion" "sourceId" "I" (.int p2) ∧ Fld Z h a1 "com/example/interleave/interleave/check/Expansion" "sourceParent" "I" (.int p3) ∧ Fld Z h a1 "com/example/interleave/interleave/check/Expansion" "sourceBytes" "[B" .null ∧ Fld Z h a1 "com/example/interleave/interleave/check/Expansion" "fresh" "Ljava/util/List;" .null ∧ Fld Z h a1 "com/example/interleave/interleave/check/Expansion" "generated" "J" (.long (0 : Int64)) ∧ Fld Z h a1 "com/example/interleave/interleave/check/Expansion" "distinct" "J" (.long (0 : Int64)) ∧ Fld Z h a1 "com/example/interleave/interleave/check/Expansion" "depth" "I" (.int (0 : Int32))
set_option maxRecDepth 65536 in
set_option maxHeartbeats 40000000 in
theorem own_rm_exN (l : Launch) (Z : State) (a0 : Array Value) (hw : ∀ d ∈ tables_1, d.before a0 Z = true) (ws : List Jvm.Cond) (a1 : Addr) (p2 : Int32) (p3 : Int32) (aS : Addr) (h0 : Heap) (n0 : Nat) (Z0 : n0 ≤ h0.size) (S0 : Sta Z h0 "java/util/ArrayList" "DEFAULTCAPACITY_EMPTY_ELEMENTDATA" "[Ljava/lang/Object;" (.ref aS)) (E1 : Exa Z h0 a1 "com/example/interleave/interleave/check/Expansion") (F_found : Fld Z h0 a1 "com/example/interleave/interleave/check/Expansion" "found" "Ljava/util/List;" .null) (F_printed : Fld Z h0 a1 "com/example/interleave/interleave/check/Expansion" "printed" "Ljava/util/List;" .null) (F_sourceId : Fld Z h0 a1 "com/example/interleave/interleave/check/Expansion" "sourceId" "I" (.int (0 : Int32))) (F_sourceParent : Fld Z h0 a1 "com/example/interleave/interleave/check/Expansion" "sourceParent" "I" (.int (0 : Int32))) (F_sourceBytes : Fld Z h0 a1 "com/example/interleave/interleave/check/Expansion" "sourceBytes" "[B" .null) (F_fresh : Fld Z h0 a1 "com/example/interleave/interleave/check/Expansion" "fresh" "Ljava/util/List;" .null) (F_generated : Fld Z h0 a1 "com/example/interleave/interleave/check/Expansion" "generated" "J" (.long (0 : Int64))) (F_distinct : Fld Z h0 a1 "com/example/interleave/interleave/check/Expansion" "distinct" "J" (.long (0 : Int64))) (F_depth : Fld Z h0 a1 "com/example/interleave/interleave/check/Expansion" "depth" "I" (.int (0 : Int32))) (g1 : n0 ≤ a1) :
    MetFree l (⟨"com/example/interleave/interleave/check/Expansion", "<init>", "(II[B)V"⟩ : MethodName) (head1 (Jvm.Cond.code (⟨"com/example/interleave/interleave/check/Expansion", "<init>", "(II[B)V"⟩ : MethodName) prog_13_method_1_code 4 none :: ws) ({ frames := 4, cells := 2, slots := 6, locals := 50 } : Room)) (fun a U => a = #[(.ref a1), (.int p2), (.int p3), .null] ∧ Z.Warmed39 U.vm ∧ U.heap = h0) (fun _ _ _ _ _ => True) (fun _ U o U' => ∃ v L, o = .returned v ∧ own_Q_exN Z a1 p2 p3 aS h0 n0 v U'.heap L ∧ FrameEnd U o U' L ({ frames := 4, cells := 2, slots := 6, locals := 50 } : Room).cells ({ frames := 4, cells := 2, slots := 6, locals := 50 } : Room).slots) := by
  refine MetFree.of_bodySF (plainFor_of_name own_pn3) hisR ?_
  intro p e s m args below meth c s₁ Bd hml0 hP hK
  obtain ⟨rfl, hZ, hh⟩ := hP
  have hx := Bd.exec
  have hby := Bd.bytes
  have hml : c.maxLocals = 4 := hml0
  have hown : s.vm.findClass "com/example/interleave/interleave/check/Expansion" = some m.cls := findClass_of_methodNamed Bd.named
  have hnm := (name_of_methodNamed Bd.named Bd.method).1
  have X0 : Stand p l e ({ frames := 4, cells := 2, slots := 6, locals := 50 } : Room) s m #[(.ref a1), (.int p2), (.int p3), .null] below meth c s₁ [] 0 0 := Stand.of_body Bd
  have e0 : s₁.heap = h0 := by rw [← hh, Bd.state]; rfl
  have N0 := Fr.nil n0
  have K0 : Keep h0 h0 [a1] := Keep.refl _ _
  have pre0 : ∀ t, Steps p.tables e below (s₁.setTop (mkF m 0 #[.val (.ref a1), .val (.int p2), .val (.int p3), .val .null] [])) t → Steps p.tables e below (s₁.setTop (entryFrame m #[(.ref a1), (.int p2), (.int p3), .null] 4)) t := fun t k => castTop (own_ef_exN m a1 p2 p3) k
  obtain ⟨T1, X1, e1, st1⟩ := initO X0 hx hZ hown (hw _ (List.mem_of_getElem? (i := 7) rfl)) (hw _ (List.mem_of_getElem? (i := 8) rfl)) (hw _ (List.mem_of_getElem? (i := 9) rfl)) e0 (g := (mkF m 1 #[.val (.ref a1), .val (.int p2), .val (.int p3), .val .null] [(.ref a1)])) rfl (by rw [hml]; rfl) rfl (hb hby own_d_prog_13_method_1_1) (by decide) (W := 0) (by show 2 * 0 + _ ≤ _; exact Nat.le_of_eq rfl) (by decide)
  obtain ⟨T2, h2, X2, e2, E2, A2, D2, -, st2⟩ := newO X1 hx hZ hown (hw _ (List.mem_of_getElem? (i := 10) rfl)) (hw _ (List.mem_of_getElem? (i := 11) rfl)) (hw _ (List.mem_of_getElem? (i := 12) rfl)) e1 (g := (mkF m 5 #[.val (.ref a1), .val (.int p2), .val (.int p3), .val .null] [(.ref a1)])) rfl (hb hby own_d_prog_13_method_1_5) (by decide) (by decide)
  obtain ⟨b2, g2⟩ : ∃ z, z = h0.size := ⟨_, rfl⟩
  rw [← g2] at A2 D2 st2
  have sz_b2 : h0.size ≤ b2 := Nat.le_trans K0.1 (Nat.le_of_eq g2.symm)
  have gn_b2 : n0 ≤ b2 := Nat.le_trans Z0 sz_b2
  have ne_a1_b2 : a1 ≠ b2 := Nat.ne_of_lt (Nat.lt_of_lt_of_le F_depth.lt (Nat.le_of_eq g2.symm))
  have f3 := S0.ext E2
  have f4 := E1.ext E2
  have f5 := F_found.ext E2
  have f6 := F_printed.ext E2
  have f7 := F_sourceId.ext E2
  have f8 := F_sourceParent.ext E2
  have f9 := F_sourceBytes.ext E2
  have f10 := F_fresh.ext E2
  have f11 := F_generated.ext E2
  have f12 := F_distinct.ext E2
  have f13 := F_depth.ext E2
  have k14 := K0.ext E2
  have f15 : Fld Z h2 b2 "java/util/AbstractList" "modCount" "I" (.int (0 : Int32)) := D2 (Or.inl (hw _ (List.mem_of_getElem? (i := 30) rfl))) (ty := .int) (by decide)
  have f16 : Fld Z h2 b2 "java/util/ArrayList" "elementData" "[Ljava/lang/Object;" .null := D2 (Or.inl (hw _ (List.mem_of_getElem? (i := 33) rfl))) (ty := (.array (.object "java/lang/Object"))) (by decide)
  have zs17 : n0 ≤ h2.size := Nat.le_trans Z0 k14.1
  obtain ⟨_, _, ⟨T18, L18, k18, n18⟩, -, X18, ⟨Lc18, hQ18, l18, y18, z18⟩, st18⟩ := X2.specialBack hx (y := (⟨"java/util/ArrayList", "<init>", "()V"⟩ : MethodName)) rfl hown (mvT hZ (hw _ (List.mem_of_getElem? (i := 13) rfl))) (mvT hZ (hw _ (List.mem_of_getElem? (i := 14) rfl))) (mvT hZ (hw _ (List.mem_of_getElem? (i := 15) rfl))) (by decide) (backOf (W := 2) (own_rm_al l Z a0 hw [] b2 aS h2 n0 zs17 f3 A2 f15 f16 gn_b2) hZ (hw _ (List.mem_of_getElem? (i := 15) rfl)) (hw _ (List.mem_of_getElem? (i := 12) rfl)) (by decide) (by decide)) (g := (mkF m 9 #[.val (.ref a1), .val (.int p2), .val (.int p3), .val .null] [(.ref b2), (.ref b2), (.ref a1)])) rfl (by rw [hml]; rfl) (Steps.refl _) (a := b2) (argsL := []) (rest := [(.ref b2), (.ref a1)]) (lenOf own_pd0 rfl) rfl (by show 2 * 0 + _ ≤ _; exact Nat.le_of_eq rfl) (hb hby own_d_prog_13_method_1_9) (fun _ _ => ⟨rfl, e2, (by decide : 1 + 0 ≤ _), (by decide : 3 + 0 ≤ _)⟩)
  dsimp only [Pt.U, Pt.locs, Pt.cells, Pt.slots] at X18 l18 y18 z18 st18 hQ18
  rw [l18, (y18 : k18 = 1), (z18 : n18 = 3)] at X18
  clear l18 y18 z18
  obtain ⟨rfl, N19, K19⟩ := hQ18
  have f20 := own_sta_keep f3 K19 (own_pl_cons A2 all0)
  have f21 := f4.keep K19
  have f22 := f5.keep K19 (ninS ne_a1_b2 nin0)
  have f23 := f6.keep K19 (ninS ne_a1_b2 nin0)
  have f24 := f7.keep K19 (ninS ne_a1_b2 nin0)
  have f25 := f8.keep K19 (ninS ne_a1_b2 nin0)
  have f26 := f9.keep K19 (ninS ne_a1_b2 nin0)
  have f27 := f10.keep K19 (ninS ne_a1_b2 nin0)
  have f28 := f11.keep K19 (ninS ne_a1_b2 nin0)
  have f29 := f12.keep K19 (ninS ne_a1_b2 nin0)
  have f30 := f13.keep K19 (ninS ne_a1_b2 nin0)
  have f31 := A2.keep K19
  have k32 := k14.trans K19 (allS (Or.inr sz_b2) all0)
  have nf33 := Fr.app N0 N19
  obtain ⟨T34, h34, X34, e34, W34, st34⟩ := putF X18 hx hZ hown (host := "") (Or.inl (hw _ (List.mem_of_getElem? (i := 34) rfl))) Via.refl rfl f22 f21 (Or.inr ⟨(hw _ (List.mem_of_getElem? (i := 35) rfl)), rfl, hnm⟩) (hw _ (List.mem_of_getElem? (i := 2) rfl)) (ty := (.object "java/util/List")) (by decide) rfl rfl (g := (mkF m 12 #[.val (.ref a1), .val (.int p2), .val (.int p3), .val .null] [(.ref b2), (.ref a1)])) rfl rfl (hb hby own_d_prog_13_method_1_12)
  have f35 := f20.wr W34
  have f36 := f21.wr W34
  have f38 := f23.other W34 (Or.inr (slot_ne (Or.inr (hw _ (List.mem_of_getElem? (i := 37) rfl))) (Or.inr (hw _ (List.mem_of_getElem? (i := 35) rfl))) (by decide) (t := (.object "java/util/List")) (t' := (.object "java/util/List")) (by decide) (by decide)))
  have f39 := f24.other W34 (Or.inr (slot_ne (Or.inr (hw _ (List.mem_of_getElem? (i := 39) rfl))) (Or.inr (hw _ (List.mem_of_getElem? (i := 35) rfl))) (by decide) (t := .int) (t' := (.object "java/util/List")) (by decide) (by decide)))
  have f40 := f25.other W34 (Or.inr (slot_ne (Or.inr (hw _ (List.mem_of_getElem? (i := 41) rfl))) (Or.inr (hw _ (List.mem_of_getElem? (i := 35) rfl))) (by decide) (t := .int) (t' := (.object "java/util/List")) (by decide) (by decide)))
  have f41 := f26.other W34 (Or.inr (slot_ne (Or.inr (hw _ (List.mem_of_getElem? (i := 43) rfl))) (Or.inr (hw _ (List.mem_of_getElem? (i := 35) rfl))) (by decide) (t := (.array .byte)) (t' := (.object "java/util/List")) (by decide) (by decide)))
  have f42 := f27.other W34 (Or.inr (slot_ne (Or.inl (hw _ (List.mem_of_getElem? (i := 52) rfl))) (Or.inr (hw _ (List.mem_of_getElem? (i := 35) rfl))) (by decide) (t := (.object "java/util/List")) (t' := (.object "java/util/List")) (by decide) (by decide)))
  have f43 := f28.other W34 (Or.inr (slot_ne (Or.inl (hw _ (List.mem_of_getElem? (i := 54) rfl))) (Or.inr (hw _ (List.mem_of_getElem? (i := 35) rfl))) (by decide) (t := .long) (t' := (.object "java/util/List")) (by decide) (by decide)))
  have f44 := f29.other W34 (Or.inr (slot_ne (Or.inl (hw _ (List.mem_of_getElem? (i := 56) rfl))) (Or.inr (hw _ (List.mem_of_getElem? (i := 35) rfl))) (by decide) (t := .long) (t' := (.object "java/util/List")) (by decide) (by decide)))
  have f45 := f30.other W34 (Or.inr (slot_ne (Or.inl (hw _ (List.mem_of_getElem? (i := 58) rfl))) (Or.inr (hw _ (List.mem_of_getElem? (i := 35) rfl))) (by decide) (t := .int) (t' := (.object "java/util/List")) (by decide) (by decide)))
  have f46 := f31.wr W34
  have k47 := k32.wr W34 (Or.inl (List.mem_of_getElem? (i := 0) rfl))
  have nf48 := Fr.snoc X34 nf33 g1
  have f49 := f22.same W34
  obtain ⟨T50, h50, X50, e50, E50, A50, D50, -, st50⟩ := newO X34 hx hZ hown (hw _ (List.mem_of_getElem? (i := 10) rfl)) (hw _ (List.mem_of_getElem? (i := 11) rfl)) (hw _ (List.mem_of_getElem? (i := 12) rfl)) e34 (g := (mkF m 16 #[.val (.ref a1), .val (.int p2), .val (.int p3), .val .null] [(.ref a1)])) rfl (hb hby own_d_prog_13_method_1_16) (by decide) (by decide)
  obtain ⟨b50, g50⟩ : ∃ z, z = h34.size := ⟨_, rfl⟩
  rw [← g50] at A50 D50 st50
  have sz_b50 : h0.size ≤ b50 := Nat.le_trans k47.1 (Nat.le_of_eq g50.symm)
  have gn_b50 : n0 ≤ b50 := Nat.le_trans Z0 sz_b50
  have ne_a1_b50 : a1 ≠ b50 := Nat.ne_of_lt (Nat.lt_of_lt_of_le f45.lt (Nat.le_of_eq g50.symm))
  have ne_b2_b50 : b2 ≠ b50 := Nat.ne_of_lt (Nat.lt_of_lt_of_le f46.lt (Nat.le_of_eq g50.symm))
  have f51 := f35.ext E50
  have f52 := f36.ext E50
  have f53 := f49.ext E50
  have f54 := f38.ext E50
  have f55 := f39.ext E50
  have f56 := f40.ext E50
  have f57 := f41.ext E50
  have f58 := f42.ext E50
  have f59 := f43.ext E50
  have f60 := f44.ext E50
  have f61 := f45.ext E50
  have f62 := f46.ext E50
  have k63 := k47.ext E50
  have f64 : Fld Z h50 b50 "java/util/AbstractList" "modCount" "I" (.int (0 : Int32)) := D50 (Or.inl (hw _ (List.mem_of_getElem? (i := 30) rfl))) (ty := .int) (by decide)
  have f65 : Fld Z h50 b50 "java/util/ArrayList" "elementData" "[Ljava/lang/Object;" .null := D50 (Or.inl (hw _ (List.mem_of_getElem? (i := 33) rfl))) (ty := (.array (.object "java/lang/Object"))) (by decide)
  have zs66 : n0 ≤ h50.size := Nat.le_trans Z0 k63.1
  obtain ⟨_, _, ⟨T67, L67, k67, n67⟩, -, X67, ⟨Lc67, hQ67, l67, y67, z67⟩, st67⟩ := X50.specialBack hx (y := (⟨"java/util/ArrayList", "<init>", "()V"⟩ : MethodName)) rfl hown (mvT hZ (hw _ (List.mem_of_getElem? (i := 13) rfl))) (mvT hZ (hw _ (List.mem_of_getElem? (i := 14) rfl))) (mvT hZ (hw _ (List.mem_of_getElem? (i := 15) rfl))) (by decide) (backOf (W := 2) (own_rm_al l Z a0 hw [] b50 aS h50 n0 zs66 f51 A50 f64 f65 gn_b50) hZ (hw _ (List.mem_of_getElem? (i := 15) rfl)) (hw _ (List.mem_of_getElem? (i := 12) rfl)) (by decide) (by decide)) (g := (mkF m 20 #[.val (.ref a1), .val (.int p2), .val (.int p3), .val .null] [(.ref b50), (.ref b50), (.ref a1)])) rfl (by rw [hml]; rfl) (Steps.refl _) (a := b50) (argsL := []) (rest := [(.ref b50), (.ref a1)]) (lenOf own_pd0 rfl) rfl (by show 2 * 0 + _ ≤ _; exact Nat.le_of_eq rfl) (hb hby own_d_prog_13_method_1_20) (fun _ _ => ⟨rfl, e50, (by decide : 2 + 0 ≤ _), (by decide : 6 + 0 ≤ _)⟩)
  dsimp only [Pt.U, Pt.locs, Pt.cells, Pt.slots] at X67 l67 y67 z67 st67 hQ67
  rw [l67, (y67 : k67 = 2), (z67 : n67 = 6)] at X67
  clear l67 y67 z67
  obtain ⟨rfl, N68, K68⟩ := hQ67
  have f69 := own_sta_keep f51 K68 (own_pl_cons A50 all0)
  have f70 := f52.keep K68
  have f71 := f53.keep K68 (ninS ne_a1_b50 nin0)
  have f72 := f54.keep K68 (ninS ne_a1_b50 nin0)
  have f73 := f55.keep K68 (ninS ne_a1_b50 nin0)
  have f74 := f56.keep K68 (ninS ne_a1_b50 nin0)
  have f75 := f57.keep K68 (ninS ne_a1_b50 nin0)
  have f76 := f58.keep K68 (ninS ne_a1_b50 nin0)
  have f77 := f59.keep K68 (ninS ne_a1_b50 nin0)
  have f78 := f60.keep K68 (ninS ne_a1_b50 nin0)
  have f79 := f61.keep K68 (ninS ne_a1_b50 nin0)
  have f80 := f62.keep K68
  have f81 := A50.keep K68
  have k82 := k63.trans K68 (allS (Or.inr sz_b50) all0)
  have nf83 := Fr.app nf48 N68
  obtain ⟨T84, h84, X84, e84, W84, st84⟩ := putF X67 hx hZ hown (host := "") (Or.inl (hw _ (List.mem_of_getElem? (i := 36) rfl))) Via.refl rfl f72 f70 (Or.inr ⟨(hw _ (List.mem_of_getElem? (i := 37) rfl)), rfl, hnm⟩) (hw _ (List.mem_of_getElem? (i := 2) rfl)) (ty := (.object "java/util/List")) (by decide) rfl rfl (g := (mkF m 23 #[.val (.ref a1), .val (.int p2), .val (.int p3), .val .null] [(.ref b50), (.ref a1)])) rfl rfl (hb hby own_d_prog_13_method_1_23)
  have f85 := f69.wr W84
  have f86 := f70.wr W84
  have f87 := f71.other W84 (Or.inr (slot_ne (Or.inr (hw _ (List.mem_of_getElem? (i := 35) rfl))) (Or.inr (hw _ (List.mem_of_getElem? (i := 37) rfl))) (by decide) (t := (.object "java/util/List")) (t' := (.object "java/util/List")) (by decide) (by decide)))
  have f89 := f73.other W84 (Or.inr (slot_ne (Or.inr (hw _ (List.mem_of_getElem? (i := 39) rfl))) (Or.inr (hw _ (List.mem_of_getElem? (i := 37) rfl))) (by decide) (t := .int) (t' := (.object "java/util/List")) (by decide) (by decide)))
  have f90 := f74.other W84 (Or.inr (slot_ne (Or.inr (hw _ (List.mem_of_getElem? (i := 41) rfl))) (Or.inr (hw _ (List.mem_of_getElem? (i := 37) rfl))) (by decide) (t := .int) (t' := (.object "java/util/List")) (by decide) (by decide)))
  have f91 := f75.other W84 (Or.inr (slot_ne (Or.inr (hw _ (List.mem_of_getElem? (i := 43) rfl))) (Or.inr (hw _ (List.mem_of_getElem? (i := 37) rfl))) (by decide) (t := (.array .byte)) (t' := (.object "java/util/List")) (by decide) (by decide)))
  have f92 := f76.other W84 (Or.inr (slot_ne (Or.inl (hw _ (List.mem_of_getElem? (i := 52) rfl))) (Or.inr (hw _ (List.mem_of_getElem? (i := 37) rfl))) (by decide) (t := (.object "java/util/List")) (t' := (.object "java/util/List")) (by decide) (by decide)))
  have f93 := f77.other W84 (Or.inr (slot_ne (Or.inl (hw _ (List.mem_of_getElem? (i := 54) rfl))) (Or.inr (hw _ (List.mem_of_getElem? (i := 37) rfl))) (by decide) (t := .long) (t' := (.object "java/util/List")) (by decide) (by decide)))
  have f94 := f78.other W84 (Or.inr (slot_ne (Or.inl (hw _ (List.mem_of_getElem? (i := 56) rfl))) (Or.inr (hw _ (List.mem_of_getElem? (i := 37) rfl))) (by decide) (t := .long) (t' := (.object "java/util/List")) (by decide) (by decide)))
  have f95 := f79.other W84 (Or.inr (slot_ne (Or.inl (hw _ (List.mem_of_getElem? (i := 58) rfl))) (Or.inr (hw _ (List.mem_of_getElem? (i := 37) rfl))) (by decide) (t := .int) (t' := (.object "java/util/List")) (by decide) (by decide)))
  have f96 := f80.wr W84
  have f97 := f81.wr W84
  have k98 := k82.wr W84 (Or.inl (List.mem_of_getElem? (i := 0) rfl))
  have nf99 := Fr.snoc X84 nf83 g1
  have f100 := f72.same W84
  have pre101 : ∀ t, Steps p.tables e below (T84.setTop (mkF m 26 #[.val (.ref a1), .val (.int p2), .val (.int p3), .val .null] [])) t → Steps p.tables e below (s₁.setTop (entryFrame m #[(.ref a1), (.int p2), (.int p3), .null] 4)) t := by
    intro t kt
    refine pre0 t ?_
    show Steps p.tables e below (s₁.setTop (mkF m 0 #[.val (.ref a1), .val (.int p2), .val (.int p3), .val .null] [])) _
    refine XS.aloadN X0.here hx rfl (hb hby own_d_prog_13_method_1_0) rfl rfl ?_
    show Steps p.tables e below (s₁.setTop (mkF m 1 #[.val (.ref a1), .val (.int p2), .val (.int p3), .val .null] [(.ref a1)])) _
    refine st1 _ ?_
    show Steps p.tables e below (T1.setTop (mkF m 4 #[.val (.ref a1), .val (.int p2), .val (.int p3), .val .null] [])) _
    refine XS.aloadN X1.here hx rfl (hb hby own_d_prog_13_method_1_4) rfl rfl ?_
    show Steps p.tables e below (T1.setTop (mkF m 5 #[.val (.ref a1), .val (.int p2), .val (.int p3), .val .null] [(.ref a1)])) _
    refine st2 _ ?_
    show Steps p.tables e below (T2.setTop (mkF m 8 #[.val (.ref a1), .val (.int p2), .val (.int p3), .val .null] [(.ref b2), (.ref a1)])) _
    refine XS.dup X2.here hx rfl (hb hby own_d_prog_13_method_1_8) rfl rfl ?_
    show Steps p.tables e below (T2.setTop (mkF m 9 #[.val (.ref a1), .val (.int p2), .val (.int p3), .val .null] [(.ref b2), (.ref b2), (.ref a1)])) _
    refine st18.trans ?_
    show Steps p.tables e below (T18.setTop (mkF m 12 #[.val (.ref a1), .val (.int p2), .val (.int p3), .val .null] [(.ref b2), (.ref a1)])) _
    refine st34 _ ?_
    show Steps p.tables e below (T34.setTop (mkF m 15 #[.val (.ref a1), .val (.int p2), .val (.int p3), .val .null] [])) _
    refine XS.aloadN X34.here hx rfl (hb hby own_d_prog_13_method_1_15) rfl rfl ?_
    show Steps p.tables e below (T34.setTop (mkF m 16 #[.val (.ref a1), .val (.int p2), .val (.int p3), .val .null] [(.ref a1)])) _
    refine st50 _ ?_
    show Steps p.tables e below (T50.setTop (mkF m 19 #[.val (.ref a1), .val (.int p2), .val (.int p3), .val .null] [(.ref b50), (.ref a1)])) _
    refine XS.dup X50.here hx rfl (hb hby own_d_prog_13_method_1_19) rfl rfl ?_
    show Steps p.tables e below (T50.setTop (mkF m 20 #[.val (.ref a1), .val (.int p2), .val (.int p3), .val .null] [(.ref b50), (.ref b50), (.ref a1)])) _
    refine st67.trans ?_
    show Steps p.tables e below (T67.setTop (mkF m 23 #[.val (.ref a1), .val (.int p2), .val (.int p3), .val .null] [(.ref b50), (.ref a1)])) _
    refine st84 _ ?_
    exact kt
  obtain ⟨T102, h102, X102, e102, W102, st102⟩ := putF X84 hx hZ hown (host := "") (Or.inl (hw _ (List.mem_of_getElem? (i := 38) rfl))) Via.refl e84 f89 f86 (Or.inr ⟨(hw _ (List.mem_of_getElem? (i := 39) rfl)), rfl, hnm⟩) (hw _ (List.mem_of_getElem? (i := 2) rfl)) (ty := .int) (by decide) rfl rfl (g := (mkF m 28 #[.val (.ref a1), .val (.int p2), .val (.int p3), .val .null] [(.int p2), (.ref a1)])) rfl rfl (hb hby own_d_prog_13_method_1_28)
  have f103 := f85.wr W102
  have f104 := f86.wr W102
  have f105 := f87.other W102 (Or.inr (slot_ne (Or.inr (hw _ (List.mem_of_getElem? (i := 35) rfl))) (Or.inr (hw _ (List.mem_of_getElem? (i := 39) rfl))) (by decide) (t := (.object "java/util/List")) (t' := .int) (by decide) (by decide)))
  have f106 := f100.other W102 (Or.inr (slot_ne (Or.inr (hw _ (List.mem_of_getElem? (i := 37) rfl))) (Or.inr (hw _ (List.mem_of_getElem? (i := 39) rfl))) (by decide) (t := (.object "java/util/List")) (t' := .int) (by decide) (by decide)))
  have f108 := f90.other W102 (Or.inr (slot_ne (Or.inr (hw _ (List.mem_of_getElem? (i := 41) rfl))) (Or.inr (hw _ (List.mem_of_getElem? (i := 39) rfl))) (by decide) (t := .int) (t' := .int) (by decide) (by decide)))
  have f109 := f91.other W102 (Or.inr (slot_ne (Or.inr (hw _ (List.mem_of_getElem? (i := 43) rfl))) (Or.inr (hw _ (List.mem_of_getElem? (i := 39) rfl))) (by decide) (t := (.array .byte)) (t' := .int) (by decide) (by decide)))
  have f110 := f92.other W102 (Or.inr (slot_ne (Or.inl (hw _ (List.mem_of_getElem? (i := 52) rfl))) (Or.inr (hw _ (List.mem_of_getElem? (i := 39) rfl))) (by decide) (t := (.object "java/util/List")) (t' := .int) (by decide) (by decide)))
  have f111 := f93.other W102 (Or.inr (slot_ne (Or.inl (hw _ (List.mem_of_getElem? (i := 54) rfl))) (Or.inr (hw _ (List.mem_of_getElem? (i := 39) rfl))) (by decide) (t := .long) (t' := .int) (by decide) (by decide)))
  have f112 := f94.other W102 (Or.inr (slot_ne (Or.inl (hw _ (List.mem_of_getElem? (i := 56) rfl))) (Or.inr (hw _ (List.mem_of_getElem? (i := 39) rfl))) (by decide) (t := .long) (t' := .int) (by decide) (by decide)))
  have f113 := f95.other W102 (Or.inr (slot_ne (Or.inl (hw _ (List.mem_of_getElem? (i := 58) rfl))) (Or.inr (hw _ (List.mem_of_getElem? (i := 39) rfl))) (by decide) (t := .int) (t' := .int) (by decide) (by decide)))
  have f114 := f96.wr W102
  have f115 := f97.wr W102
  have k116 := k98.wr W102 (Or.inl (List.mem_of_getElem? (i := 0) rfl))
  have nf117 := Fr.snoc X102 nf99 g1
  have f118 := f89.same W102
  obtain ⟨T119, h119, X119, e119, W119, st119⟩ := putF X102 hx hZ hown (host := "") (Or.inl (hw _ (List.mem_of_getElem? (i := 40) rfl))) Via.refl e102 f108 f104 (Or.inr ⟨(hw _ (List.mem_of_getElem? (i := 41) rfl)), rfl, hnm⟩) (hw _ (List.mem_of_getElem? (i := 2) rfl)) (ty := .int) (by decide) rfl rfl (g := (mkF m 33 #[.val (.ref a1), .val (.int p2), .val (.int p3), .val .null] [(.int p3), (.ref a1)])) rfl rfl (hb hby own_d_prog_13_method_1_33)
  have f120 := f103.wr W119
  have f121 := f104.wr W119
  have f122 := f105.other W119 (Or.inr (slot_ne (Or.inr (hw _ (List.mem_of_getElem? (i := 35) rfl))) (Or.inr (hw _ (List.mem_of_getElem? (i := 41) rfl))) (by decide) (t := (.object "java/util/List")) (t' := .int) (by decide) (by decide)))
  have f123 := f106.other W119 (Or.inr (slot_ne (Or.inr (hw _ (List.mem_of_getElem? (i := 37) rfl))) (Or.inr (hw _ (List.mem_of_getElem? (i := 41) rfl))) (by decide) (t := (.object "java/util/List")) (t' := .int) (by decide) (by decide)))
  have f124 := f118.other W119 (Or.inr (slot_ne (Or.inr (hw _ (List.mem_of_getElem? (i := 39) rfl))) (Or.inr (hw _ (List.mem_of_getElem? (i := 41) rfl))) (by decide) (t := .int) (t' := .int) (by decide) (by decide)))
  have f126 := f109.other W119 (Or.inr (slot_ne (Or.inr (hw _ (List.mem_of_getElem? (i := 43) rfl))) (Or.inr (hw _ (List.mem_of_getElem? (i := 41) rfl))) (by decide) (t := (.array .byte)) (t' := .int) (by decide) (by decide)))
  have f127 := f110.other W119 (Or.inr (slot_ne (Or.inl (hw _ (List.mem_of_getElem? (i := 52) rfl))) (Or.inr (hw _ (List.mem_of_getElem? (i := 41) rfl))) (by decide) (t := (.object "java/util/List")) (t' := .int) (by decide) (by decide)))
  have f128 := f111.other W119 (Or.inr (slot_ne (Or.inl (hw _ (List.mem_of_getElem? (i := 54) rfl))) (Or.inr (hw _ (List.mem_of_getElem? (i := 41) rfl))) (by decide) (t := .long) (t' := .int) (by decide) (by decide)))
  have f129 := f112.other W119 (Or.inr (slot_ne (Or.inl (hw _ (List.mem_of_getElem? (i := 56) rfl))) (Or.inr (hw _ (List.mem_of_getElem? (i := 41) rfl))) (by decide) (t := .long) (t' := .int) (by decide) (by decide)))
  have f130 := f113.other W119 (Or.inr (slot_ne (Or.inl (hw _ (List.mem_of_getElem? (i := 58) rfl))) (Or.inr (hw _ (List.mem_of_getElem? (i := 41) rfl))) (by decide) (t := .int) (t' := .int) (by decide) (by decide)))
  have f131 := f114.wr W119
  have f132 := f115.wr W119
  have k133 := k116.wr W119 (Or.inl (List.mem_of_getElem? (i := 0) rfl))
  have nf134 := Fr.snoc X119 nf117 g1
  have f135 := f108.same W119
  obtain ⟨T136, h136, X136, e136, W136, st136⟩ := putF X119 hx hZ hown (host := "") (Or.inl (hw _ (List.mem_of_getElem? (i := 42) rfl))) Via.refl e119 f126 f121 (Or.inr ⟨(hw _ (List.mem_of_getElem? (i := 43) rfl)), rfl, hnm⟩) (hw _ (List.mem_of_getElem? (i := 2) rfl)) (ty := (.array .byte)) (by decide) rfl rfl (g := (mkF m 38 #[.val (.ref a1), .val (.int p2), .val (.int p3), .val .null] [.null, (.ref a1)])) rfl rfl (hb hby own_d_prog_13_method_1_38)
  have f137 := f120.wr W136
  have f138 := f121.wr W136
  have f139 := f122.other W136 (Or.inr (slot_ne (Or.inr (hw _ (List.mem_of_getElem? (i := 35) rfl))) (Or.inr (hw _ (List.mem_of_getElem? (i := 43) rfl))) (by decide) (t := (.object "java/util/List")) (t' := (.array .byte)) (by decide) (by decide)))
  have f140 := f123.other W136 (Or.inr (slot_ne (Or.inr (hw _ (List.mem_of_getElem? (i := 37) rfl))) (Or.inr (hw _ (List.mem_of_getElem? (i := 43) rfl))) (by decide) (t := (.object "java/util/List")) (t' := (.array .byte)) (by decide) (by decide)))
  have f141 := f124.other W136 (Or.inr (slot_ne (Or.inr (hw _ (List.mem_of_getElem? (i := 39) rfl))) (Or.inr (hw _ (List.mem_of_getElem? (i := 43) rfl))) (by decide) (t := .int) (t' := (.array .byte)) (by decide) (by decide)))
  have f142 := f135.other W136 (Or.inr (slot_ne (Or.inr (hw _ (List.mem_of_getElem? (i := 41) rfl))) (Or.inr (hw _ (List.mem_of_getElem? (i := 43) rfl))) (by decide) (t := .int) (t' := (.array .byte)) (by decide) (by decide)))
  have f144 := f127.other W136 (Or.inr (slot_ne (Or.inl (hw _ (List.mem_of_getElem? (i := 52) rfl))) (Or.inr (hw _ (List.mem_of_getElem? (i := 43) rfl))) (by decide) (t := (.object "java/util/List")) (t' := (.array .byte)) (by decide) (by decide)))
  have f145 := f128.other W136 (Or.inr (slot_ne (Or.inl (hw _ (List.mem_of_getElem? (i := 54) rfl))) (Or.inr (hw _ (List.mem_of_getElem? (i := 43) rfl))) (by decide) (t := .long) (t' := (.array .byte)) (by decide) (by decide)))
  have f146 := f129.other W136 (Or.inr (slot_ne (Or.inl (hw _ (List.mem_of_getElem? (i := 56) rfl))) (Or.inr (hw _ (List.mem_of_getElem? (i := 43) rfl))) (by decide) (t := .long) (t' := (.array .byte)) (by decide) (by decide)))
  have f147 := f130.other W136 (Or.inr (slot_ne (Or.inl (hw _ (List.mem_of_getElem? (i := 58) rfl))) (Or.inr (hw _ (List.mem_of_getElem? (i := 43) rfl))) (by decide) (t := .int) (t' := (.array .byte)) (by decide) (by decide)))
  have f148 := f131.wr W136
  have f149 := f132.wr W136
  have k150 := k133.wr W136 (Or.inl (List.mem_of_getElem? (i := 0) rfl))
  have nf151 := Fr.snoc X136 nf134 g1
  have f152 := f126.same W136
  have pre153 : ∀ t, Steps p.tables e below (T136.setTop (mkF m 41 #[.val (.ref a1), .val (.int p2), .val (.int p3), .val .null] [])) t → Steps p.tables e below (s₁.setTop (entryFrame m #[(.ref a1), (.int p2), (.int p3), .null] 4)) t := by
    intro t kt
    refine pre101 t ?_
    show Steps p.tables e below (T84.setTop (mkF m 26 #[.val (.ref a1), .val (.int p2), .val (.int p3), .val .null] [])) _
    refine XS.aloadN X84.here hx rfl (hb hby own_d_prog_13_method_1_26) rfl rfl ?_
    show Steps p.tables e below (T84.setTop (mkF m 27 #[.val (.ref a1), .val (.int p2), .val (.int p3), .val .null] [(.ref a1)])) _
    refine XS.iloadN X84.here hx rfl (hb hby own_d_prog_13_method_1_27) rfl ?_
    show Steps p.tables e below (T84.setTop (mkF m 28 #[.val (.ref a1), .val (.int p2), .val (.int p3), .val .null] [(.int p2), (.ref a1)])) _
    refine st102 _ ?_
    show Steps p.tables e below (T102.setTop (mkF m 31 #[.val (.ref a1), .val (.int p2), .val (.int p3), .val .null] [])) _
    refine XS.aloadN X102.here hx rfl (hb hby own_d_prog_13_method_1_31) rfl rfl ?_
    show Steps p.tables e below (T102.setTop (mkF m 32 #[.val (.ref a1), .val (.int p2), .val (.int p3), .val .null] [(.ref a1)])) _
    refine XS.iloadN X102.here hx rfl (hb hby own_d_prog_13_method_1_32) rfl ?_
    show Steps p.tables e below (T102.setTop (mkF m 33 #[.val (.ref a1), .val (.int p2), .val (.int p3), .val .null] [(.int p3), (.ref a1)])) _
    refine st119 _ ?_
    show Steps p.tables e below (T119.setTop (mkF m 36 #[.val (.ref a1), .val (.int p2), .val (.int p3), .val .null] [])) _
    refine XS.aloadN X119.here hx rfl (hb hby own_d_prog_13_method_1_36) rfl rfl ?_
    show Steps p.tables e below (T119.setTop (mkF m 37 #[.val (.ref a1), .val (.int p2), .val (.int p3), .val .null] [(.ref a1)])) _
    refine XS.aloadN X119.here hx rfl (hb hby own_d_prog_13_method_1_37) rfl rfl ?_
    show Steps p.tables e below (T119.setTop (mkF m 38 #[.val (.ref a1), .val (.int p2), .val (.int p3), .val .null] [.null, (.ref a1)])) _
    refine st136 _ ?_
    exact kt
  obtain ⟨fs, hr, hrun, hended, hW, hsame⟩ := X136.leave (v := none) (fun _ => rfl)
  refine ⟨_, _, pre153 _ ?_, hrun, hended, _, _, rfl, ?_, ⟨_, rfl⟩, hW, hsame.mono (by decide) (by decide)⟩
  · show Steps p.tables e below (T136.setTop (mkF m 41 #[.val (.ref a1), .val (.int p2), .val (.int p3), .val .null] [])) _
    exact X136.returnOut hx Bd.returns (hb hby own_d_prog_13_method_1_41) hr
  · show own_Q_exN Z a1 p2 p3 aS h0 n0 (none) T136.heap _
    rw [e136]
    exact ⟨rfl, nf151, k150, f141, f142, f152, f144, f145, f146, f147⟩
theorem own_lc (x : Int64) : lcmpW x x = 0 := by simp [lcmpW]
theorem own_d_prog_13_method_21_0 : decode prog_13_method_21_code 0 = .ok (.aload_n 0, 1) := by decide +kernel
theorem own_d_prog_13_method_21_1 : decode prog_13_method_21_code 1 = .ok (.aload_n 1, 1) := by decide +kernel
theorem own_d_prog_13_method_21_2 : decode prog_13_method_21_code 2 = .ok (.putfield 64, 3) := by decide +kernel
theorem own_d_prog_13_method_21_5 : decode prog_13_method_21_code 5 = .ok (.aload_n 0, 1) := by decide +kernel
theorem own_d_prog_13_method_21_6 : decode prog_13_method_21_code 6 = .ok (.lload_n 2, 1) := by decide +kernel
theorem own_d_prog_13_method_21_7 : decode prog_13_method_21_code 7 = .ok (.putfield 67, 3) := by decide +kernel
theorem own_d_prog_13_method_21_10 : decode prog_13_method_21_code 10 = .ok (.aload_n 0, 1) := by decide +kernel
theorem own_d_prog_13_method_21_11 : decode prog_13_method_21_code 11 = .ok (.lload 4, 2) := by decide +kernel
theorem own_d_prog_13_method_21_13 : decode prog_13_method_21_code 13 = .ok (.putfield 71, 3) := by decide +kernel
theorem own_d_prog_13_method_21_16 : decode prog_13_method_21_code 16 = .ok (.aload_n 0, 1) := by decide +kernel
theorem own_d_prog_13_method_21_17 : decode prog_13_method_21_code 17 = .ok (.iload 6, 2) := by decide +kernel
theorem own_d_prog_13_method_21_19 : decode prog_13_method_21_code 19 = .ok (.putfield 74, 3) := by decide +kernel
theorem own_d_prog_13_method_21_22 : decode prog_13_method_21_code 22 = .ok (.return_, 1) := by decide +kernel
theorem own_ef_tkR (m : MethodId) (a1 : Addr) (a2 : Addr) (q3 : Int64) (q4 : Int64) (p5 : Int32) : entryFrame m #[(.ref a1), (.ref a2), (.long q3), (.long q4), (.int p5)] 7 = mkF m 0 #[.val (.ref a1), .val (.ref a2), .val (.long q3), .second, .val (.long q4), .second, .val (.int p5)] [] := by first | (simp [entryFrame, mkF, argsToLocals, Value.category]; done) | rfl
def own_Q_tkR (Z : State) (a1 : Addr) (a2 : Addr) (q3 : Int64) (q4 : Int64) (p5 : Int32) (u1 : Value) (u2 : Value) (u3 : Value) (u4 : Value) (v1 : Int32) (v2 : Int32) (v3 : Addr) (h0 : Heap) (n0 : Nat) (v : Option Value) (h : Heap) (L : List Loc) : Prop := v = none ∧ Fr n0 L ∧ Keep h0 h [a1] ∧ Fld Z h a1 "com/example/interleave/interleave/check/Expansion" "fresh" "Ljava/util/List;" (.ref a2) ∧ Fld Z h a1 "com/example/interleave/interleave/check/Expansion" "generated" "J" (.long q3) ∧ Fld Z h a1 "com/example/interleave/interleave/check/Expansion" "distinct" "J" (.long q4) ∧ Fld Z h a1 "com/example/interleave/interleave/check/Expansion" "depth" "I" (.int p5) ∧ Fld Z h a1 "com/example/interleave/interleave/check/Expansion" "sourceId" "I" (.int v1) ∧ Fld Z h a1 "com/example/interleave/interleave/check/Expansion" "sourceParent" "I" (.int v2) ∧ Fld Z h a1 "com/example/interleave/interleave/check/Expansion" "sourceBytes" "[B" (.ref v3)
set_option maxRecDepth 65536 in
set_option maxHeartbeats 40000000 in
theorem own_rm_tkR (l : Launch) (Z : State) (a0 : Array Value) (hw : ∀ d ∈ tables_1, d.before a0 Z = true) (ws : List Jvm.Cond) (a1 : Addr) (a2 : Addr) (q3 : Int64) (q4 : Int64) (p5 : Int32) (u1 : Value) (u2 : Value) (u3 : Value) (u4 : Value) (v1 : Int32) (v2 : Int32) (v3 : Addr) (h0 : Heap) (n0 : Nat) (Z0 : n0 ≤ h0.size) (E1 : Exa Z h0 a1 "com/example/interleave/interleave/check/Expansion") (F_fresh : Fld Z h0 a1 "com/example/interleave/interleave/check/Expansion" "fresh" "Ljava/util/List;" u1) (F_generated : Fld Z h0 a1 "com/example/interleave/interleave/check/Expansion" "generated" "J" u2) (F_distinct : Fld Z h0 a1 "com/example/interleave/interleave/check/Expansion" "distinct" "J" u3) (F_depth : Fld Z h0 a1 "com/example/interleave/interleave/check/Expansion" "depth" "I" u4) (F_sourceId : Fld Z h0 a1 "com/example/interleave/interleave/check/Expansion" "sourceId" "I" (.int v1)) (F_sourceParent : Fld Z h0 a1 "com/example/interleave/interleave/check/Expansion" "sourceParent" "I" (.int v2)) (F_sourceBytes : Fld Z h0 a1 "com/example/interleave/interleave/check/Expansion" "sourceBytes" "[B" (.ref v3)) (g1 : n0 ≤ a1) :
    MetFree l (⟨"com/example/interleave/interleave/check/Expansion", "tookIn", "(Ljava/util/List;JJI)V"⟩ : MethodName) (head1 (Jvm.Cond.code (⟨"com/example/interleave/interleave/check/Expansion", "tookIn", "(Ljava/util/List;JJI)V"⟩ : MethodName) prog_13_method_21_code 7 none :: ws) ({ frames := 0, cells := 0, slots := 0, locals := 0 } : Room)) (fun a U => a = #[(.ref a1), (.ref a2), (.long q3), (.long q4), (.int p5)] ∧ Z.Warmed39 U.vm ∧ U.heap = h0) (fun _ _ _ _ _ => True) (fun _ U o U' => ∃ v L, o = .returned v ∧ own_Q_tkR Z a1 a2 q3 q4 p5 u1 u2 u3 u4 v1 v2 v3 h0 n0 v U'.heap L ∧ FrameEnd U o U' L ({ frames := 0, cells := 0, slots := 0, locals := 0 } : Room).cells ({ frames := 0, cells := 0, slots := 0, locals := 0 } : Room).slots) := by
  refine MetFree.of_bodySF (plainFor_of_name own_pn3) hisR ?_
  intro p e s m args below meth c s₁ Bd hml0 hP hK
  obtain ⟨rfl, hZ, hh⟩ := hP
  have hx := Bd.exec
  have hby := Bd.bytes
  have hml : c.maxLocals = 7 := hml0
  have hown : s.vm.findClass "com/example/interleave/interleave/check/Expansion" = some m.cls := findClass_of_methodNamed Bd.named
  have hnm := (name_of_methodNamed Bd.named Bd.method).1
  have X0 : Stand p l e ({ frames := 0, cells := 0, slots := 0, locals := 0 } : Room) s m #[(.ref a1), (.ref a2), (.long q3), (.long q4), (.int p5)] below meth c s₁ [] 0 0 := Stand.of_body Bd
  have e0 : s₁.heap = h0 := by rw [← hh, Bd.state]; rfl
  have N0 := Fr.nil n0
  have K0 : Keep h0 h0 [a1] := Keep.refl _ _
  have pre0 : ∀ t, Steps p.tables e below (s₁.setTop (mkF m 0 #[.val (.ref a1), .val (.ref a2), .val (.long q3), .second, .val (.long q4), .second, .val (.int p5)] [])) t → Steps p.tables e below (s₁.setTop (entryFrame m #[(.ref a1), (.ref a2), (.long q3), (.long q4), (.int p5)] 7)) t := fun t k => castTop (own_ef_tkR m a1 a2 q3 q4 p5) k
  obtain ⟨T1, h1, X1, e1, W1, st1⟩ := putF X0 hx hZ hown (host := "") (Or.inl (hw _ (List.mem_of_getElem? (i := 51) rfl))) Via.refl e0 F_fresh E1 (Or.inl (hw _ (List.mem_of_getElem? (i := 52) rfl))) (hw _ (List.mem_of_getElem? (i := 2) rfl)) (ty := (.object "java/util/List")) (by decide) rfl rfl (g := (mkF m 2 #[.val (.ref a1), .val (.ref a2), .val (.long q3), .second, .val (.long q4), .second, .val (.int p5)] [(.ref a2), (.ref a1)])) rfl rfl (hb hby own_d_prog_13_method_21_2)
  have f2 := E1.wr W1
  have f4 := F_generated.other W1 (Or.inr (slot_ne (Or.inl (hw _ (List.mem_of_getElem? (i := 54) rfl))) (Or.inl (hw _ (List.mem_of_getElem? (i := 52) rfl))) (by decide) (t := .long) (t' := (.object "java/util/List")) (by decide) (by decide)))
  have f5 := F_distinct.other W1 (Or.inr (slot_ne (Or.inl (hw _ (List.mem_of_getElem? (i := 56) rfl))) (Or.inl (hw _ (List.mem_of_getElem? (i := 52) rfl))) (by decide) (t := .long) (t' := (.object "java/util/List")) (by decide) (by decide)))
  have f6 := F_depth.other W1 (Or.inr (slot_ne (Or.inl (hw _ (List.mem_of_getElem? (i := 58) rfl))) (Or.inl (hw _ (List.mem_of_getElem? (i := 52) rfl))) (by decide) (t := .int) (t' := (.object "java/util/List")) (by decide) (by decide)))
  have f7 := F_sourceId.other W1 (Or.inr (slot_ne (Or.inr (hw _ (List.mem_of_getElem? (i := 39) rfl))) (Or.inl (hw _ (List.mem_of_getElem? (i := 52) rfl))) (by decide) (t := .int) (t' := (.object "java/util/List")) (by decide) (by decide)))
  have f8 := F_sourceParent.other W1 (Or.inr (slot_ne (Or.inr (hw _ (List.mem_of_getElem? (i := 41) rfl))) (Or.inl (hw _ (List.mem_of_getElem? (i := 52) rfl))) (by decide) (t := .int) (t' := (.object "java/util/List")) (by decide) (by decide)))
  have f9 := F_sourceBytes.other W1 (Or.inr (slot_ne (Or.inr (hw _ (List.mem_of_getElem? (i := 43) rfl))) (Or.inl (hw _ (List.mem_of_getElem? (i := 52) rfl))) (by decide) (t := (.array .byte)) (t' := (.object "java/util/List")) (by decide) (by decide)))
  have k10 := K0.wr W1 (Or.inl (List.mem_of_getElem? (i := 0) rfl))
  have nf11 := Fr.snoc X1 N0 g1
  have f12 := F_fresh.same W1
  obtain ⟨T13, h13, X13, e13, W13, st13⟩ := putF X1 hx hZ hown (host := "") (Or.inl (hw _ (List.mem_of_getElem? (i := 53) rfl))) Via.refl e1 f4 f2 (Or.inl (hw _ (List.mem_of_getElem? (i := 54) rfl))) (hw _ (List.mem_of_getElem? (i := 2) rfl)) (ty := .long) (by decide) rfl rfl (g := (mkF m 7 #[.val (.ref a1), .val (.ref a2), .val (.long q3), .second, .val (.long q4), .second, .val (.int p5)] [(.long q3), (.ref a1)])) rfl rfl (hb hby own_d_prog_13_method_21_7)
  have f14 := f2.wr W13
  have f15 := f12.other W13 (Or.inr (slot_ne (Or.inl (hw _ (List.mem_of_getElem? (i := 52) rfl))) (Or.inl (hw _ (List.mem_of_getElem? (i := 54) rfl))) (by decide) (t := (.object "java/util/List")) (t' := .long) (by decide) (by decide)))
  have f17 := f5.other W13 (Or.inr (slot_ne (Or.inl (hw _ (List.mem_of_getElem? (i := 56) rfl))) (Or.inl (hw _ (List.mem_of_getElem? (i := 54) rfl))) (by decide) (t := .long) (t' := .long) (by decide) (by decide)))
  have f18 := f6.other W13 (Or.inr (slot_ne (Or.inl (hw _ (List.mem_of_getElem? (i := 58) rfl))) (Or.inl (hw _ (List.mem_of_getElem? (i := 54) rfl))) (by decide) (t := .int) (t' := .long) (by decide) (by decide)))
  have f19 := f7.other W13 (Or.inr (slot_ne (Or.inr (hw _ (List.mem_of_getElem? (i := 39) rfl))) (Or.inl (hw _ (List.mem_of_getElem? (i := 54) rfl))) (by decide) (t := .int) (t' := .long) (by decide) (by decide)))
  have f20 := f8.other W13 (Or.inr (slot_ne (Or.inr (hw _ (List.mem_of_getElem? (i := 41) rfl))) (Or.inl (hw _ (List.mem_of_getElem? (i := 54) rfl))) (by decide) (t := .int) (t' := .long) (by decide) (by decide)))
  have f21 := f9.other W13 (Or.inr (slot_ne (Or.inr (hw _ (List.mem_of_getElem? (i := 43) rfl))) (Or.inl (hw _ (List.mem_of_getElem? (i := 54) rfl))) (by decide) (t := (.array .byte)) (t' := .long) (by decide) (by decide)))
  have k22 := k10.wr W13 (Or.inl (List.mem_of_getElem? (i := 0) rfl))
  have nf23 := Fr.snoc X13 nf11 g1
  have f24 := f4.same W13
  obtain ⟨T25, h25, X25, e25, W25, st25⟩ := putF X13 hx hZ hown (host := "") (Or.inl (hw _ (List.mem_of_getElem? (i := 55) rfl))) Via.refl e13 f17 f14 (Or.inl (hw _ (List.mem_of_getElem? (i := 56) rfl))) (hw _ (List.mem_of_getElem? (i := 2) rfl)) (ty := .long) (by decide) rfl rfl (g := (mkF m 13 #[.val (.ref a1), .val (.ref a2), .val (.long q3), .second, .val (.long q4), .second, .val (.int p5)] [(.long q4), (.ref a1)])) rfl rfl (hb hby own_d_prog_13_method_21_13)
  have f26 := f14.wr W25
  have f27 := f15.other W25 (Or.inr (slot_ne (Or.inl (hw _ (List.mem_of_getElem? (i := 52) rfl))) (Or.inl (hw _ (List.mem_of_getElem? (i := 56) rfl))) (by decide) (t := (.object "java/util/List")) (t' := .long) (by decide) (by decide)))
  have f28 := f24.other W25 (Or.inr (slot_ne (Or.inl (hw _ (List.mem_of_getElem? (i := 54) rfl))) (Or.inl (hw _ (List.mem_of_getElem? (i := 56) rfl))) (by decide) (t := .long) (t' := .long) (by decide) (by decide)))
  have f30 := f18.other W25 (Or.inr (slot_ne (Or.inl (hw _ (List.mem_of_getElem? (i := 58) rfl))) (Or.inl (hw _ (List.mem_of_getElem? (i := 56) rfl))) (by decide) (t := .int) (t' := .long) (by decide) (by decide)))
  have f31 := f19.other W25 (Or.inr (slot_ne (Or.inr (hw _ (List.mem_of_getElem? (i := 39) rfl))) (Or.inl (hw _ (List.mem_of_getElem? (i := 56) rfl))) (by decide) (t := .int) (t' := .long) (by decide) (by decide)))
  have f32 := f20.other W25 (Or.inr (slot_ne (Or.inr (hw _ (List.mem_of_getElem? (i := 41) rfl))) (Or.inl (hw _ (List.mem_of_getElem? (i := 56) rfl))) (by decide) (t := .int) (t' := .long) (by decide) (by decide)))
  have f33 := f21.other W25 (Or.inr (slot_ne (Or.inr (hw _ (List.mem_of_getElem? (i := 43) rfl))) (Or.inl (hw _ (List.mem_of_getElem? (i := 56) rfl))) (by decide) (t := (.array .byte)) (t' := .long) (by decide) (by decide)))
  have k34 := k22.wr W25 (Or.inl (List.mem_of_getElem? (i := 0) rfl))
  have nf35 := Fr.snoc X25 nf23 g1
  have f36 := f17.same W25
  obtain ⟨T37, h37, X37, e37, W37, st37⟩ := putF X25 hx hZ hown (host := "") (Or.inl (hw _ (List.mem_of_getElem? (i := 57) rfl))) Via.refl e25 f30 f26 (Or.inl (hw _ (List.mem_of_getElem? (i := 58) rfl))) (hw _ (List.mem_of_getElem? (i := 2) rfl)) (ty := .int) (by decide) rfl rfl (g := (mkF m 19 #[.val (.ref a1), .val (.ref a2), .val (.long q3), .second, .val (.long q4), .second, .val (.int p5)] [(.int p5), (.ref a1)])) rfl rfl (hb hby own_d_prog_13_method_21_19)
  have f38 := f26.wr W37
  have f39 := f27.other W37 (Or.inr (slot_ne (Or.inl (hw _ (List.mem_of_getElem? (i := 52) rfl))) (Or.inl (hw _ (List.mem_of_getElem? (i := 58) rfl))) (by decide) (t := (.object "java/util/List")) (t' := .int) (by decide) (by decide)))
  have f40 := f28.other W37 (Or.inr (slot_ne (Or.inl (hw _ (List.mem_of_getElem? (i := 54) rfl))) (Or.inl (hw _ (List.mem_of_getElem? (i := 58) rfl))) (by decide) (t := .long) (t' := .int) (by decide) (by decide)))
  have f41 := f36.other W37 (Or.inr (slot_ne (Or.inl (hw _ (List.mem_of_getElem? (i := 56) rfl))) (Or.inl (hw _ (List.mem_of_getElem? (i := 58) rfl))) (by decide) (t := .long) (t' := .int) (by decide) (by decide)))
  have f43 := f31.other W37 (Or.inr (slot_ne (Or.inr (hw _ (List.mem_of_getElem? (i := 39) rfl))) (Or.inl (hw _ (List.mem_of_getElem? (i := 58) rfl))) (by decide) (t := .int) (t' := .int) (by decide) (by decide)))
  have f44 := f32.other W37 (Or.inr (slot_ne (Or.inr (hw _ (List.mem_of_getElem? (i := 41) rfl))) (Or.inl (hw _ (List.mem_of_getElem? (i := 58) rfl))) (by decide) (t := .int) (t' := .int) (by decide) (by decide)))
  have f45 := f33.other W37 (Or.inr (slot_ne (Or.inr (hw _ (List.mem_of_getElem? (i := 43) rfl))) (Or.inl (hw _ (List.mem_of_getElem? (i := 58) rfl))) (by decide) (t := (.array .byte)) (t' := .int) (by decide) (by decide)))
  have k46 := k34.wr W37 (Or.inl (List.mem_of_getElem? (i := 0) rfl))
  have nf47 := Fr.snoc X37 nf35 g1
  have f48 := f30.same W37
  have pre49 : ∀ t, Steps p.tables e below (T37.setTop (mkF m 22 #[.val (.ref a1), .val (.ref a2), .val (.long q3), .second, .val (.long q4), .second, .val (.int p5)] [])) t → Steps p.tables e below (s₁.setTop (entryFrame m #[(.ref a1), (.ref a2), (.long q3), (.long q4), (.int p5)] 7)) t := by
    intro t kt
    refine pre0 t ?_
    show Steps p.tables e below (s₁.setTop (mkF m 0 #[.val (.ref a1), .val (.ref a2), .val (.long q3), .second, .val (.long q4), .second, .val (.int p5)] [])) _
    refine XS.aloadN X0.here hx rfl (hb hby own_d_prog_13_method_21_0) rfl rfl ?_
    show Steps p.tables e below (s₁.setTop (mkF m 1 #[.val (.ref a1), .val (.ref a2), .val (.long q3), .second, .val (.long q4), .second, .val (.int p5)] [(.ref a1)])) _
    refine XS.aloadN X0.here hx rfl (hb hby own_d_prog_13_method_21_1) rfl rfl ?_
    show Steps p.tables e below (s₁.setTop (mkF m 2 #[.val (.ref a1), .val (.ref a2), .val (.long q3), .second, .val (.long q4), .second, .val (.int p5)] [(.ref a2), (.ref a1)])) _
    refine st1 _ ?_
    show Steps p.tables e below (T1.setTop (mkF m 5 #[.val (.ref a1), .val (.ref a2), .val (.long q3), .second, .val (.long q4), .second, .val (.int p5)] [])) _
    refine XS.aloadN X1.here hx rfl (hb hby own_d_prog_13_method_21_5) rfl rfl ?_
    show Steps p.tables e below (T1.setTop (mkF m 6 #[.val (.ref a1), .val (.ref a2), .val (.long q3), .second, .val (.long q4), .second, .val (.int p5)] [(.ref a1)])) _
    refine XS.lloadN X1.here hx rfl (hb hby own_d_prog_13_method_21_6) rfl ?_
    show Steps p.tables e below (T1.setTop (mkF m 7 #[.val (.ref a1), .val (.ref a2), .val (.long q3), .second, .val (.long q4), .second, .val (.int p5)] [(.long q3), (.ref a1)])) _
    refine st13 _ ?_
    show Steps p.tables e below (T13.setTop (mkF m 10 #[.val (.ref a1), .val (.ref a2), .val (.long q3), .second, .val (.long q4), .second, .val (.int p5)] [])) _
    refine XS.aloadN X13.here hx rfl (hb hby own_d_prog_13_method_21_10) rfl rfl ?_
    show Steps p.tables e below (T13.setTop (mkF m 11 #[.val (.ref a1), .val (.ref a2), .val (.long q3), .second, .val (.long q4), .second, .val (.int p5)] [(.ref a1)])) _
    refine XS.lload X13.here hx rfl (hb hby own_d_prog_13_method_21_11) rfl ?_
    show Steps p.tables e below (T13.setTop (mkF m 13 #[.val (.ref a1), .val (.ref a2), .val (.long q3), .second, .val (.long q4), .second, .val (.int p5)] [(.long q4), (.ref a1)])) _
    refine st25 _ ?_
    show Steps p.tables e below (T25.setTop (mkF m 16 #[.val (.ref a1), .val (.ref a2), .val (.long q3), .second, .val (.long q4), .second, .val (.int p5)] [])) _
    refine XS.aloadN X25.here hx rfl (hb hby own_d_prog_13_method_21_16) rfl rfl ?_
    show Steps p.tables e below (T25.setTop (mkF m 17 #[.val (.ref a1), .val (.ref a2), .val (.long q3), .second, .val (.long q4), .second, .val (.int p5)] [(.ref a1)])) _
    refine XS.iload X25.here hx rfl (hb hby own_d_prog_13_method_21_17) rfl ?_
    show Steps p.tables e below (T25.setTop (mkF m 19 #[.val (.ref a1), .val (.ref a2), .val (.long q3), .second, .val (.long q4), .second, .val (.int p5)] [(.int p5), (.ref a1)])) _
    refine st37 _ ?_
    exact kt
  obtain ⟨fs, hr, hrun, hended, hW, hsame⟩ := X37.leave (v := none) (fun _ => rfl)
  refine ⟨_, _, pre49 _ ?_, hrun, hended, _, _, rfl, ?_, ⟨_, rfl⟩, hW, hsame.mono (by decide) (by decide)⟩
  · show Steps p.tables e below (T37.setTop (mkF m 22 #[.val (.ref a1), .val (.ref a2), .val (.long q3), .second, .val (.long q4), .second, .val (.int p5)] [])) _
    exact X37.returnOut hx Bd.returns (hb hby own_d_prog_13_method_21_22) hr
  · show own_Q_tkR Z a1 a2 q3 q4 p5 u1 u2 u3 u4 v1 v2 v3 h0 n0 (none) T37.heap _
    rw [e37]
    exact ⟨rfl, nf47, k46, f39, f40, f41, f48, f43, f44, f45⟩
theorem own_ef_tkN (m : MethodId) (a1 : Addr) (q3 : Int64) (q4 : Int64) (p5 : Int32) : entryFrame m #[(.ref a1), .null, (.long q3), (.long q4), (.int p5)] 7 = mkF m 0 #[.val (.ref a1), .val .null, .val (.long q3), .second, .val (.long q4), .second, .val (.int p5)] [] := by first | (simp [entryFrame, mkF, argsToLocals, Value.category]; done) | rfl
def own_Q_tkN (Z : State) (a1 : Addr) (q3 : Int64) (q4 : Int64) (p5 : Int32) (u1 : Value) (u2 : Value) (u3 : Value) (u4 : Value) (v1 : Int32) (v2 : Int32) (v3 : Addr) (h0 : Heap) (n0 : Nat) (v : Option Value) (h : Heap) (L : List Loc) : Prop := v = none ∧ Fr n0 L ∧ Keep h0 h [a1] ∧ Fld Z h a1 "com/example/interleave/interleave/check/Expansion" "fresh" "Ljava/util/List;" .null ∧ Fld Z h a1 "com/example/interleave/interleave/check/Expansion" "generated" "J" (.long q3) ∧ Fld Z h a1 "com/example/interleave/interleave/check/Expansion" "distinct" "J" (.long q4) ∧ Fld Z h a1 "com/example/interleave/interleave/check/Expansion" "depth" "I" (.int p5) ∧ Fld Z h a1 "com/example/interleave/interleave/check/Expansion" "sourceId" "I" (.int v1) ∧ Fld Z h a1 "com/example/interleave/interleave/check/Expansion" "sourceParent" "I" (.int v2) ∧ Fld Z h a1 "com/example/interleave/interleave/check/Expansion" "sourceBytes" "[B" (.ref v3)
set_option maxRecDepth 65536 in
set_option maxHeartbeats 40000000 in
theorem own_rm_tkN (l : Launch) (Z : State) (a0 : Array Value) (hw : ∀ d ∈ tables_1, d.before a0 Z = true) (ws : List Jvm.Cond) (a1 : Addr) (q3 : Int64) (q4 : Int64) (p5 : Int32) (u1 : Value) (u2 : Value) (u3 : Value) (u4 : Value) (v1 : Int32) (v2 : Int32) (v3 : Addr) (h0 : Heap) (n0 : Nat) (Z0 : n0 ≤ h0.size) (E1 : Exa Z h0 a1 "com/example/interleave/interleave/check/Expansion") (F_fresh : Fld Z h0 a1 "com/example/interleave/interleave/check/Expansion" "fresh" "Ljava/util/List;" u1) (F_generated : Fld Z h0 a1 "com/example/interleave/interleave/check/Expansion" "generated" "J" u2) (F_distinct : Fld Z h0 a1 "com/example/interleave/interleave/check/Expansion" "distinct" "J" u3) (F_depth : Fld Z h0 a1 "com/example/interleave/interleave/check/Expansion" "depth" "I" u4) (F_sourceId : Fld Z h0 a1 "com/example/interleave/interleave/check/Expansion" "sourceId" "I" (.int v1)) (F_sourceParent : Fld Z h0 a1 "com/example/interleave/interleave/check/Expansion" "sourceParent" "I" (.int v2)) (F_sourceBytes : Fld Z h0 a1 "com/example/interleave/interleave/check/Expansion" "sourceBytes" "[B" (.ref v3)) (g1 : n0 ≤ a1) :
    MetFree l (⟨"com/example/interleave/interleave/check/Expansion", "tookIn", "(Ljava/util/List;JJI)V"⟩ : MethodName) (head1 (Jvm.Cond.code (⟨"com/example/interleave/interleave/check/Expansion", "tookIn", "(Ljava/util/List;JJI)V"⟩ : MethodName) prog_13_method_21_code 7 none :: ws) ({ frames := 0, cells := 0, slots := 0, locals := 0 } : Room)) (fun a U => a = #[(.ref a1), .null, (.long q3), (.long q4), (.int p5)] ∧ Z.Warmed39 U.vm ∧ U.heap = h0) (fun _ _ _ _ _ => True) (fun _ U o U' => ∃ v L, o = .returned v ∧ own_Q_tkN Z a1 q3 q4 p5 u1 u2 u3 u4 v1 v2 v3 h0 n0 v U'.heap L ∧ FrameEnd U o U' L ({ frames := 0, cells := 0, slots := 0, locals := 0 } : Room).cells ({ frames := 0, cells := 0, slots := 0, locals := 0 } : Room).slots) := by
  refine MetFree.of_bodySF (plainFor_of_name own_pn3) hisR ?_
  intro p e s m args below meth c s₁ Bd hml0 hP hK
  obtain ⟨rfl, hZ, hh⟩ := hP
  have hx := Bd.exec
  have hby := Bd.bytes
  have hml : c.maxLocals = 7 := hml0
  have hown : s.vm.findClass "com/example/interleave/interleave/check/Expansion" = some m.cls := findClass_of_methodNamed Bd.named
  have hnm := (name_of_methodNamed Bd.named Bd.method).1
  have X0 : Stand p l e ({ frames := 0, cells := 0, slots := 0, locals := 0 } : Room) s m #[(.ref a1), .null, (.long q3), (.long q4), (.int p5)] below meth c s₁ [] 0 0 := Stand.of_body Bd
  have e0 : s₁.heap = h0 := by rw [← hh, Bd.state]; rfl
  have N0 := Fr.nil n0
  have K0 : Keep h0 h0 [a1] := Keep.refl _ _
  have pre0 : ∀ t, Steps p.tables e below (s₁.setTop (mkF m 0 #[.val (.ref a1), .val .null, .val (.long q3), .second, .val (.long q4), .second, .val (.int p5)] [])) t → Steps p.tables e below (s₁.setTop (entryFrame m #[(.ref a1), .null, (.long q3), (.long q4), (.int p5)] 7)) t := fun t k => castTop (own_ef_tkN m a1 q3 q4 p5) k
  obtain ⟨T1, h1, X1, e1, W1, st1⟩ := putF X0 hx hZ hown (host := "") (Or.inl (hw _ (List.mem_of_getElem? (i := 51) rfl))) Via.refl e0 F_fresh E1 (Or.inl (hw _ (List.mem_of_getElem? (i := 52) rfl))) (hw _ (List.mem_of_getElem? (i := 2) rfl)) (ty := (.object "java/util/List")) (by decide) rfl rfl (g := (mkF m 2 #[.val (.ref a1), .val .null, .val (.long q3), .second, .val (.long q4), .second, .val (.int p5)] [.null, (.ref a1)])) rfl rfl (hb hby own_d_prog_13_method_21_2)
  have f2 := E1.wr W1
  have f4 := F_generated.other W1 (Or.inr (slot_ne (Or.inl (hw _ (List.mem_of_getElem? (i := 54) rfl))) (Or.inl (hw _ (List.mem_of_getElem? (i := 52) rfl))) (by decide) (t := .long) (t' := (.object "java/util/List")) (by decide) (by decide)))
  have f5 := F_distinct.other W1 (Or.inr (slot_ne (Or.inl (hw _ (List.mem_of_getElem? (i := 56) rfl))) (Or.inl (hw _ (List.mem_of_getElem? (i := 52) rfl))) (by decide) (t := .long) (t' := (.object "java/util/List")) (by decide) (by decide)))
  have f6 := F_depth.other W1 (Or.inr (slot_ne (Or.inl (hw _ (List.mem_of_getElem? (i := 58) rfl))) (Or.inl (hw _ (List.mem_of_getElem? (i := 52) rfl))) (by decide) (t := .int) (t' := (.object "java/util/List")) (by decide) (by decide)))
  have f7 := F_sourceId.other W1 (Or.inr (slot_ne (Or.inr (hw _ (List.mem_of_getElem? (i := 39) rfl))) (Or.inl (hw _ (List.mem_of_getElem? (i := 52) rfl))) (by decide) (t := .int) (t' := (.object "java/util/List")) (by decide) (by decide)))
  have f8 := F_sourceParent.other W1 (Or.inr (slot_ne (Or.inr (hw _ (List.mem_of_getElem? (i := 41) rfl))) (Or.inl (hw _ (List.mem_of_getElem? (i := 52) rfl))) (by decide) (t := .int) (t' := (.object "java/util/List")) (by decide) (by decide)))
  have f9 := F_sourceBytes.other W1 (Or.inr (slot_ne (Or.inr (hw _ (List.mem_of_getElem? (i := 43) rfl))) (Or.inl (hw _ (List.mem_of_getElem? (i := 52) rfl))) (by decide) (t := (.array .byte)) (t' := (.object "java/util/List")) (by decide) (by decide)))
  have k10 := K0.wr W1 (Or.inl (List.mem_of_getElem? (i := 0) rfl))
  have nf11 := Fr.snoc X1 N0 g1
  have f12 := F_fresh.same W1
  obtain ⟨T13, h13, X13, e13, W13, st13⟩ := putF X1 hx hZ hown (host := "") (Or.inl (hw _ (List.mem_of_getElem? (i := 53) rfl))) Via.refl e1 f4 f2 (Or.inl (hw _ (List.mem_of_getElem? (i := 54) rfl))) (hw _ (List.mem_of_getElem? (i := 2) rfl)) (ty := .long) (by decide) rfl rfl (g := (mkF m 7 #[.val (.ref a1), .val .null, .val (.long q3), .second, .val (.long q4), .second, .val (.int p5)] [(.long q3), (.ref a1)])) rfl rfl (hb hby own_d_prog_13_method_21_7)
  have f14 := f2.wr W13
  have f15 := f12.other W13 (Or.inr (slot_ne (Or.inl (hw _ (List.mem_of_getElem? (i := 52) rfl))) (Or.inl (hw _ (List.mem_of_getElem? (i := 54) rfl))) (by decide) (t := (.object "java/util/List")) (t' := .long) (by decide) (by decide)))
  have f17 := f5.other W13 (Or.inr (slot_ne (Or.inl (hw _ (List.mem_of_getElem? (i := 56) rfl))) (Or.inl (hw _ (List.mem_of_getElem? (i := 54) rfl))) (by decide) (t := .long) (t' := .long) (by decide) (by decide)))
  have f18 := f6.other W13 (Or.inr (slot_ne (Or.inl (hw _ (List.mem_of_getElem? (i := 58) rfl))) (Or.inl (hw _ (List.mem_of_getElem? (i := 54) rfl))) (by decide) (t := .int) (t' := .long) (by decide) (by decide)))
  have f19 := f7.other W13 (Or.inr (slot_ne (Or.inr (hw _ (List.mem_of_getElem? (i := 39) rfl))) (Or.inl (hw _ (List.mem_of_getElem? (i := 54) rfl))) (by decide) (t := .int) (t' := .long) (by decide) (by decide)))
  have f20 := f8.other W13 (Or.inr (slot_ne (Or.inr (hw _ (List.mem_of_getElem? (i := 41) rfl))) (Or.inl (hw _ (List.mem_of_getElem? (i := 54) rfl))) (by decide) (t := .int) (t' := .long) (by decide) (by decide)))
  have f21 := f9.other W13 (Or.inr (slot_ne (Or.inr (hw _ (List.mem_of_getElem? (i := 43) rfl))) (Or.inl (hw _ (List.mem_of_getElem? (i := 54) rfl))) (by decide) (t := (.array .byte)) (t' := .long) (by decide) (by decide)))
  have k22 := k10.wr W13 (Or.inl (List.mem_of_getElem? (i := 0) rfl))
  have nf23 := Fr.snoc X13 nf11 g1
  have f24 := f4.same W13
  obtain ⟨T25, h25, X25, e25, W25, st25⟩ := putF X13 hx hZ hown (host := "") (Or.inl (hw _ (List.mem_of_getElem? (i := 55) rfl))) Via.refl e13 f17 f14 (Or.inl (hw _ (List.mem_of_getElem? (i := 56) rfl))) (hw _ (List.mem_of_getElem? (i := 2) rfl)) (ty := .long) (by decide) rfl rfl (g := (mkF m 13 #[.val (.ref a1), .val .null, .val (.long q3), .second, .val (.long q4), .second, .val (.int p5)] [(.long q4), (.ref a1)])) rfl rfl (hb hby own_d_prog_13_method_21_13)
  have f26 := f14.wr W25
  have f27 := f15.other W25 (Or.inr (slot_ne (Or.inl (hw _ (List.mem_of_getElem? (i := 52) rfl))) (Or.inl (hw _ (List.mem_of_getElem? (i := 56) rfl))) (by decide) (t := (.object "java/util/List")) (t' := .long) (by decide) (by decide)))
  have f28 := f24.other W25 (Or.inr (slot_ne (Or.inl (hw _ (List.mem_of_getElem? (i := 54) rfl))) (Or.inl (hw _ (List.mem_of_getElem? (i := 56) rfl))) (by decide) (t := .long) (t' := .long) (by decide) (by decide)))
  have f30 := f18.other W25 (Or.inr (slot_ne (Or.inl (hw _ (List.mem_of_getElem? (i := 58) rfl))) (Or.inl (hw _ (List.mem_of_getElem? (i := 56) rfl))) (by decide) (t := .int) (t' := .long) (by decide) (by decide)))
  have f31 := f19.other W25 (Or.inr (slot_ne (Or.inr (hw _ (List.mem_of_getElem? (i := 39) rfl))) (Or.inl (hw _ (List.mem_of_getElem? (i := 56) rfl))) (by decide) (t := .int) (t' := .long) (by decide) (by decide)))
  have f32 := f20.other W25 (Or.inr (slot_ne (Or.inr (hw _ (List.mem_of_getElem? (i := 41) rfl))) (Or.inl (hw _ (List.mem_of_getElem? (i := 56) rfl))) (by decide) (t := .int) (t' := .long) (by decide) (by decide)))
  have f33 := f21.other W25 (Or.inr (slot_ne (Or.inr (hw _ (List.mem_of_getElem? (i := 43) rfl))) (Or.inl (hw _ (List.mem_of_getElem? (i := 56) rfl))) (by decide) (t := (.array .byte)) (t' := .long) (by decide) (by decide)))
  have k34 := k22.wr W25 (Or.inl (List.mem_of_getElem? (i := 0) rfl))
  have nf35 := Fr.snoc X25 nf23 g1
  have f36 := f17.same W25
  obtain ⟨T37, h37, X37, e37, W37, st37⟩ := putF X25 hx hZ hown (host := "") (Or.inl (hw _ (List.mem_of_getElem? (i := 57) rfl))) Via.refl e25 f30 f26 (Or.inl (hw _ (List.mem_of_getElem? (i := 58) rfl))) (hw _ (List.mem_of_getElem? (i := 2) rfl)) (ty := .int) (by decide) rfl rfl (g := (mkF m 19 #[.val (.ref a1), .val .null, .val (.long q3), .second, .val (.long q4), .second, .val (.int p5)] [(.int p5), (.ref a1)])) rfl rfl (hb hby own_d_prog_13_method_21_19)
  have f38 := f26.wr W37
  have f39 := f27.other W37 (Or.inr (slot_ne (Or.inl (hw _ (List.mem_of_getElem? (i := 52) rfl))) (Or.inl (hw _ (List.mem_of_getElem? (i := 58) rfl))) (by decide) (t := (.object "java/util/List")) (t' := .int) (by decide) (by decide)))
  have f40 := f28.other W37 (Or.inr (slot_ne (Or.inl (hw _ (List.mem_of_getElem? (i := 54) rfl))) (Or.inl (hw _ (List.mem_of_getElem? (i := 58) rfl))) (by decide) (t := .long) (t' := .int) (by decide) (by decide)))
  have f41 := f36.other W37 (Or.inr (slot_ne (Or.inl (hw _ (List.mem_of_getElem? (i := 56) rfl))) (Or.inl (hw _ (List.mem_of_getElem? (i := 58) rfl))) (by decide) (t := .long) (t' := .int) (by decide) (by decide)))
  have f43 := f31.other W37 (Or.inr (slot_ne (Or.inr (hw _ (List.mem_of_getElem? (i := 39) rfl))) (Or.inl (hw _ (List.mem_of_getElem? (i := 58) rfl))) (by decide) (t := .int) (t' := .int) (by decide) (by decide)))
  have f44 := f32.other W37 (Or.inr (slot_ne (Or.inr (hw _ (List.mem_of_getElem? (i := 41) rfl))) (Or.inl (hw _ (List.mem_of_getElem? (i := 58) rfl))) (by decide) (t := .int) (t' := .int) (by decide) (by decide)))
  have f45 := f33.other W37 (Or.inr (slot_ne (Or.inr (hw _ (List.mem_of_getElem? (i := 43) rfl))) (Or.inl (hw _ (List.mem_of_getElem? (i := 58) rfl))) (by decide) (t := (.array .byte)) (t' := .int) (by decide) (by decide)))
  have k46 := k34.wr W37 (Or.inl (List.mem_of_getElem? (i := 0) rfl))
  have nf47 := Fr.snoc X37 nf35 g1
  have f48 := f30.same W37
  have pre49 : ∀ t, Steps p.tables e below (T37.setTop (mkF m 22 #[.val (.ref a1), .val .null, .val (.long q3), .second, .val (.long q4), .second, .val (.int p5)] [])) t → Steps p.tables e below (s₁.setTop (entryFrame m #[(.ref a1), .null, (.long q3), (.long q4), (.int p5)] 7)) t := by
    intro t kt
    refine pre0 t ?_
    show Steps p.tables e below (s₁.setTop (mkF m 0 #[.val (.ref a1), .val .null, .val (.long q3), .second, .val (.long q4), .second, .val (.int p5)] [])) _
    refine XS.aloadN X0.here hx rfl (hb hby own_d_prog_13_method_21_0) rfl rfl ?_
    show Steps p.tables e below (s₁.setTop (mkF m 1 #[.val (.ref a1), .val .null, .val (.long q3), .second, .val (.long q4), .second, .val (.int p5)] [(.ref a1)])) _
    refine XS.aloadN X0.here hx rfl (hb hby own_d_prog_13_method_21_1) rfl rfl ?_
    show Steps p.tables e below (s₁.setTop (mkF m 2 #[.val (.ref a1), .val .null, .val (.long q3), .second, .val (.long q4), .second, .val (.int p5)] [.null, (.ref a1)])) _
    refine st1 _ ?_
    show Steps p.tables e below (T1.setTop (mkF m 5 #[.val (.ref a1), .val .null, .val (.long q3), .second, .val (.long q4), .second, .val (.int p5)] [])) _
    refine XS.aloadN X1.here hx rfl (hb hby own_d_prog_13_method_21_5) rfl rfl ?_
    show Steps p.tables e below (T1.setTop (mkF m 6 #[.val (.ref a1), .val .null, .val (.long q3), .second, .val (.long q4), .second, .val (.int p5)] [(.ref a1)])) _
    refine XS.lloadN X1.here hx rfl (hb hby own_d_prog_13_method_21_6) rfl ?_
    show Steps p.tables e below (T1.setTop (mkF m 7 #[.val (.ref a1), .val .null, .val (.long q3), .second, .val (.long q4), .second, .val (.int p5)] [(.long q3), (.ref a1)])) _
    refine st13 _ ?_
    show Steps p.tables e below (T13.setTop (mkF m 10 #[.val (.ref a1), .val .null, .val (.long q3), .second, .val (.long q4), .second, .val (.int p5)] [])) _
    refine XS.aloadN X13.here hx rfl (hb hby own_d_prog_13_method_21_10) rfl rfl ?_
    show Steps p.tables e below (T13.setTop (mkF m 11 #[.val (.ref a1), .val .null, .val (.long q3), .second, .val (.long q4), .second, .val (.int p5)] [(.ref a1)])) _
    refine XS.lload X13.here hx rfl (hb hby own_d_prog_13_method_21_11) rfl ?_
    show Steps p.tables e below (T13.setTop (mkF m 13 #[.val (.ref a1), .val .null, .val (.long q3), .second, .val (.long q4), .second, .val (.int p5)] [(.long q4), (.ref a1)])) _
    refine st25 _ ?_
    show Steps p.tables e below (T25.setTop (mkF m 16 #[.val (.ref a1), .val .null, .val (.long q3), .second, .val (.long q4), .second, .val (.int p5)] [])) _
    refine XS.aloadN X25.here hx rfl (hb hby own_d_prog_13_method_21_16) rfl rfl ?_
    show Steps p.tables e below (T25.setTop (mkF m 17 #[.val (.ref a1), .val .null, .val (.long q3), .second, .val (.long q4), .second, .val (.int p5)] [(.ref a1)])) _
    refine XS.iload X25.here hx rfl (hb hby own_d_prog_13_method_21_17) rfl ?_
    show Steps p.tables e below (T25.setTop (mkF m 19 #[.val (.ref a1), .val .null, .val (.long q3), .second, .val (.long q4), .second, .val (.int p5)] [(.int p5), (.ref a1)])) _
    refine st37 _ ?_
    exact kt
  obtain ⟨fs, hr, hrun, hended, hW, hsame⟩ := X37.leave (v := none) (fun _ => rfl)
  refine ⟨_, _, pre49 _ ?_, hrun, hended, _, _, rfl, ?_, ⟨_, rfl⟩, hW, hsame.mono (by decide) (by decide)⟩
  · show Steps p.tables e below (T37.setTop (mkF m 22 #[.val (.ref a1), .val .null, .val (.long q3), .second, .val (.long q4), .second, .val (.int p5)] [])) _
    exact X37.returnOut hx Bd.returns (hb hby own_d_prog_13_method_21_22) hr
  · show own_Q_tkN Z a1 q3 q4 p5 u1 u2 u3 u4 v1 v2 v3 h0 n0 (none) T37.heap _
    rw [e37]
    exact ⟨rfl, nf47, k46, f39, f40, f41, f48, f43, f44, f45⟩
theorem own_d_prog_13_method_22_0 : decode prog_13_method_22_code 0 = .ok (.aload_n 0, 1) := by decide +kernel
theorem own_d_prog_13_method_22_1 : decode prog_13_method_22_code 1 = .ok (.getfield 64, 3) := by decide +kernel
theorem own_d_prog_13_method_22_4 : decode prog_13_method_22_code 4 = .ok (.areturn, 1) := by decide +kernel
theorem own_ef_gfN (m : MethodId) (a1 : Addr) : entryFrame m #[(.ref a1)] 1 = mkF m 0 #[.val (.ref a1)] [] := by first | (simp [entryFrame, mkF, argsToLocals, Value.category]; done) | rfl
def own_Q_gfN (Z : State) (a1 : Addr) (h0 : Heap) (n0 : Nat) (v : Option Value) (h : Heap) (L : List Loc) : Prop := v = some .null ∧ Fr n0 L ∧ h = h0
set_option maxRecDepth 65536 in
set_option maxHeartbeats 40000000 in
theorem own_rm_gfN (l : Launch) (Z : State) (a0 : Array Value) (hw : ∀ d ∈ tables_1, d.before a0 Z = true) (ws : List Jvm.Cond) (a1 : Addr) (h0 : Heap) (n0 : Nat) (Z0 : n0 ≤ h0.size) (F0 : Fld Z h0 a1 "com/example/interleave/interleave/check/Expansion" "fresh" "Ljava/util/List;" .null) :
    MetFree l (⟨"com/example/interleave/interleave/check/Expansion", "fresh", "()Ljava/util/List;"⟩ : MethodName) (head1 (Jvm.Cond.code (⟨"com/example/interleave/interleave/check/Expansion", "fresh", "()Ljava/util/List;"⟩ : MethodName) prog_13_method_22_code 1 (some (.object "java/util/List")) :: ws) ({ frames := 0, cells := 0, slots := 0, locals := 0 } : Room)) (fun a U => a = #[(.ref a1)] ∧ Z.Warmed39 U.vm ∧ U.heap = h0) (fun _ _ _ _ _ => True) (fun _ U o U' => ∃ v L, o = .returned v ∧ own_Q_gfN Z a1 h0 n0 v U'.heap L ∧ FrameEnd U o U' L ({ frames := 0, cells := 0, slots := 0, locals := 0 } : Room).cells ({ frames := 0, cells := 0, slots := 0, locals := 0 } : Room).slots) := by
  refine MetFree.of_bodySF (plainFor_of_name own_pn3) hisR ?_
  intro p e s m args below meth c s₁ Bd hml0 hP hK
  obtain ⟨rfl, hZ, hh⟩ := hP
  have hx := Bd.exec
  have hby := Bd.bytes
  have hml : c.maxLocals = 1 := hml0
  have hown : s.vm.findClass "com/example/interleave/interleave/check/Expansion" = some m.cls := findClass_of_methodNamed Bd.named
  have hnm := (name_of_methodNamed Bd.named Bd.method).1
  have X0 : Stand p l e ({ frames := 0, cells := 0, slots := 0, locals := 0 } : Room) s m #[(.ref a1)] below meth c s₁ [] 0 0 := Stand.of_body Bd
  have e0 : s₁.heap = h0 := by rw [← hh, Bd.state]; rfl
  have N0 := Fr.nil n0
  have K0 : Keep h0 h0 [] := Keep.refl _ _
  have pre0 : ∀ t, Steps p.tables e below (s₁.setTop (mkF m 0 #[.val (.ref a1)] [])) t → Steps p.tables e below (s₁.setTop (entryFrame m #[(.ref a1)] 1)) t := fun t k => castTop (own_ef_gfN m a1) k
  obtain ⟨T1, X1, e1, st1⟩ := getF X0 hx hZ hown (host := "") (Or.inl (hw _ (List.mem_of_getElem? (i := 51) rfl))) Via.refl e0 F0 (g := (mkF m 1 #[.val (.ref a1)] [(.ref a1)])) rfl rfl (hb hby own_d_prog_13_method_22_1)
  have pre2 : ∀ t, Steps p.tables e below (T1.setTop (mkF m 4 #[.val (.ref a1)] [.null])) t → Steps p.tables e below (s₁.setTop (entryFrame m #[(.ref a1)] 1)) t := by
    intro t kt
    refine pre0 t ?_
    show Steps p.tables e below (s₁.setTop (mkF m 0 #[.val (.ref a1)] [])) _
    refine XS.aloadN X0.here hx rfl (hb hby own_d_prog_13_method_22_0) rfl rfl ?_
    show Steps p.tables e below (s₁.setTop (mkF m 1 #[.val (.ref a1)] [(.ref a1)])) _
    refine st1 _ ?_
    exact kt
  obtain ⟨fs, hr, hrun, hended, hW, hsame⟩ := X1.leave (v := some .null) (fun h => by rw [Bd.returns] at h; cases h)
  refine ⟨_, _, pre2 _ ?_, hrun, hended, _, _, rfl, ?_, ⟨_, rfl⟩, hW, hsame.mono (by decide) (by decide)⟩
  · show Steps p.tables e below (T1.setTop (mkF m 4 #[.val (.ref a1)] [.null])) _
    jvm_step X1.here [X1.here.top, hx, (hb hby own_d_prog_13_method_22_4), X1.method', Bd.returns, Value.isRef, FieldType.isReference]
    first | (intro acts; rw [hr _ acts rfl rfl rfl]) | rw [hr _ _ rfl rfl rfl]
    exact Steps.refl _
  · show own_Q_gfN Z a1 h0 n0 (some .null) T1.heap _
    rw [e1]
    exact ⟨rfl, N0, rfl⟩
theorem own_ef_gfR (m : MethodId) (a1 : Addr) : entryFrame m #[(.ref a1)] 1 = mkF m 0 #[.val (.ref a1)] [] := by first | (simp [entryFrame, mkF, argsToLocals, Value.category]; done) | rfl
def own_Q_gfR (Z : State) (a1 : Addr) (w : Addr) (h0 : Heap) (n0 : Nat) (v : Option Value) (h : Heap) (L : List Loc) : Prop := v = some (.ref w) ∧ Fr n0 L ∧ h = h0
set_option maxRecDepth 65536 in
set_option maxHeartbeats 40000000 in
theorem own_rm_gfR (l : Launch) (Z : State) (a0 : Array Value) (hw : ∀ d ∈ tables_1, d.before a0 Z = true) (ws : List Jvm.Cond) (a1 : Addr) (w : Addr) (h0 : Heap) (n0 : Nat) (Z0 : n0 ≤ h0.size) (F0 : Fld Z h0 a1 "com/example/interleave/interleave/check/Expansion" "fresh" "Ljava/util/List;" (.ref w)) :
    MetFree l (⟨"com/example/interleave/interleave/check/Expansion", "fresh", "()Ljava/util/List;"⟩ : MethodName) (head1 (Jvm.Cond.code (⟨"com/example/interleave/interleave/check/Expansion", "fresh", "()Ljava/util/List;"⟩ : MethodName) prog_13_method_22_code 1 (some (.object "java/util/List")) :: ws) ({ frames := 0, cells := 0, slots := 0, locals := 0 } : Room)) (fun a U => a = #[(.ref a1)] ∧ Z.Warmed39 U.vm ∧ U.heap = h0) (fun _ _ _ _ _ => True) (fun _ U o U' => ∃ v L, o = .returned v ∧ own_Q_gfR Z a1 w h0 n0 v U'.heap L ∧ FrameEnd U o U' L ({ frames := 0, cells := 0, slots := 0, locals := 0 } : Room).cells ({ frames := 0, cells := 0, slots := 0, locals := 0 } : Room).slots) := by
  refine MetFree.of_bodySF (plainFor_of_name own_pn3) hisR ?_
  intro p e s m args below meth c s₁ Bd hml0 hP hK
  obtain ⟨rfl, hZ, hh⟩ := hP
  have hx := Bd.exec
  have hby := Bd.bytes
  have hml : c.maxLocals = 1 := hml0
  have hown : s.vm.findClass "com/example/interleave/interleave/check/Expansion" = some m.cls := findClass_of_methodNamed Bd.named
  have hnm := (name_of_methodNamed Bd.named Bd.method).1
  have X0 : Stand p l e ({ frames := 0, cells := 0, slots := 0, locals := 0 } : Room) s m #[(.ref a1)] below meth c s₁ [] 0 0 := Stand.of_body Bd
  have e0 : s₁.heap = h0 := by rw [← hh, Bd.state]; rfl
  have N0 := Fr.nil n0
  have K0 : Keep h0 h0 [] := Keep.refl _ _
  have pre0 : ∀ t, Steps p.tables e below (s₁.setTop (mkF m 0 #[.val (.ref a1)] [])) t → Steps p.tables e below (s₁.setTop (entryFrame m #[(.ref a1)] 1)) t := fun t k => castTop (own_ef_gfR m a1) k
  obtain ⟨T1, X1, e1, st1⟩ := getF X0 hx hZ hown (host := "") (Or.inl (hw _ (List.mem_of_getElem? (i := 51) rfl))) Via.refl e0 F0 (g := (mkF m 1 #[.val (.ref a1)] [(.ref a1)])) rfl rfl (hb hby own_d_prog_13_method_22_1)
  have pre2 : ∀ t, Steps p.tables e below (T1.setTop (mkF m 4 #[.val (.ref a1)] [(.ref w)])) t → Steps p.tables e below (s₁.setTop (entryFrame m #[(.ref a1)] 1)) t := by
    intro t kt
    refine pre0 t ?_
    show Steps p.tables e below (s₁.setTop (mkF m 0 #[.val (.ref a1)] [])) _
    refine XS.aloadN X0.here hx rfl (hb hby own_d_prog_13_method_22_0) rfl rfl ?_
    show Steps p.tables e below (s₁.setTop (mkF m 1 #[.val (.ref a1)] [(.ref a1)])) _
    refine st1 _ ?_
    exact kt
  obtain ⟨fs, hr, hrun, hended, hW, hsame⟩ := X1.leave (v := some (.ref w)) (fun h => by rw [Bd.returns] at h; cases h)
  refine ⟨_, _, pre2 _ ?_, hrun, hended, _, _, rfl, ?_, ⟨_, rfl⟩, hW, hsame.mono (by decide) (by decide)⟩
  · show Steps p.tables e below (T1.setTop (mkF m 4 #[.val (.ref a1)] [(.ref w)])) _
    jvm_step X1.here [X1.here.top, hx, (hb hby own_d_prog_13_method_22_4), X1.method', Bd.returns, Value.isRef, FieldType.isReference]
    first | (intro acts; rw [hr _ acts rfl rfl rfl]) | rw [hr _ _ rfl rfl rfl]
    exact Steps.refl _
  · show own_Q_gfR Z a1 w h0 n0 (some (.ref w)) T1.heap _
    rw [e1]
    exact ⟨rfl, N0, rfl⟩
theorem own_d_prog_13_method_23_0 : decode prog_13_method_23_code 0 = .ok (.aload_n 0, 1) := by decide +kernel
theorem own_d_prog_13_method_23_1 : decode prog_13_method_23_code 1 = .ok (.getfield 67, 3) := by decide +kernel
theorem own_d_prog_13_method_23_4 : decode prog_13_method_23_code 4 = .ok (.lreturn, 1) := by decide +kernel
theorem own_ef_ggn (m : MethodId) (a1 : Addr) : entryFrame m #[(.ref a1)] 1 = mkF m 0 #[.val (.ref a1)] [] := by first | (simp [entryFrame, mkF, argsToLocals, Value.category]; done) | rfl
def own_Q_ggn (Z : State) (a1 : Addr) (w : Int64) (h0 : Heap) (n0 : Nat) (v : Option Value) (h : Heap) (L : List Loc) : Prop := v = some (.long w) ∧ Fr n0 L ∧ h = h0
set_option maxRecDepth 65536 in
set_option maxHeartbeats 40000000 in
theorem own_rm_ggn (l : Launch) (Z : State) (a0 : Array Value) (hw : ∀ d ∈ tables_1, d.before a0 Z = true) (ws : List Jvm.Cond) (a1 : Addr) (w : Int64) (h0 : Heap) (n0 : Nat) (Z0 : n0 ≤ h0.size) (F0 : Fld Z h0 a1 "com/example/interleave/interleave/check/Expansion" "generated" "J" (.long w)) :
    MetFree l (⟨"com/example/interleave/interleave/check/Expansion", "generated", "()J"⟩ : MethodName) (head1 (Jvm.Cond.code (⟨"com/example/interleave/interleave/check/Expansion", "generated", "()J"⟩ : MethodName) prog_13_method_23_code 1 (some .long) :: ws) ({ frames := 0, cells := 0, slots := 0, locals := 0 } : Room)) (fun a U => a = #[(.ref a1)] ∧ Z.Warmed39 U.vm ∧ U.heap = h0) (fun _ _ _ _ _ => True) (fun _ U o U' => ∃ v L, o = .returned v ∧ own_Q_ggn Z a1 w h0 n0 v U'.heap L ∧ FrameEnd U o U' L ({ frames := 0, cells := 0, slots := 0, locals := 0 } : Room).cells ({ frames := 0, cells := 0, slots := 0, locals := 0 } : Room).slots) := by
  refine MetFree.of_bodySF (plainFor_of_name own_pn3) hisR ?_
  intro p e s m args below meth c s₁ Bd hml0 hP hK
  obtain ⟨rfl, hZ, hh⟩ := hP
  have hx := Bd.exec
  have hby := Bd.bytes
  have hml : c.maxLocals = 1 := hml0
  have hown : s.vm.findClass "com/example/interleave/interleave/check/Expansion" = some m.cls := findClass_of_methodNamed Bd.named
  have hnm := (name_of_methodNamed Bd.named Bd.method).1
  have X0 : Stand p l e ({ frames := 0, cells := 0, slots := 0, locals := 0 } : Room) s m #[(.ref a1)] below meth c s₁ [] 0 0 := Stand.of_body Bd
  have e0 : s₁.heap = h0 := by rw [← hh, Bd.state]; rfl
  have N0 := Fr.nil n0
  have K0 : Keep h0 h0 [] := Keep.refl _ _
  have pre0 : ∀ t, Steps p.tables e below (s₁.setTop (mkF m 0 #[.val (.ref a1)] [])) t → Steps p.tables e below (s₁.setTop (entryFrame m #[(.ref a1)] 1)) t := fun t k => castTop (own_ef_ggn m a1) k
  obtain ⟨T1, X1, e1, st1⟩ := getF X0 hx hZ hown (host := "") (Or.inl (hw _ (List.mem_of_getElem? (i := 53) rfl))) Via.refl e0 F0 (g := (mkF m 1 #[.val (.ref a1)] [(.ref a1)])) rfl rfl (hb hby own_d_prog_13_method_23_1)
  have pre2 : ∀ t, Steps p.tables e below (T1.setTop (mkF m 4 #[.val (.ref a1)] [(.long w)])) t → Steps p.tables e below (s₁.setTop (entryFrame m #[(.ref a1)] 1)) t := by
    intro t kt
    refine pre0 t ?_
    show Steps p.tables e below (s₁.setTop (mkF m 0 #[.val (.ref a1)] [])) _
    refine XS.aloadN X0.here hx rfl (hb hby own_d_prog_13_method_23_0) rfl rfl ?_
    show Steps p.tables e below (s₁.setTop (mkF m 1 #[.val (.ref a1)] [(.ref a1)])) _
    refine st1 _ ?_
    exact kt
  obtain ⟨fs, hr, hrun, hended, hW, hsame⟩ := X1.leave (v := some (.long w)) (fun h => by rw [Bd.returns] at h; cases h)
  refine ⟨_, _, pre2 _ ?_, hrun, hended, _, _, rfl, ?_, ⟨_, rfl⟩, hW, hsame.mono (by decide) (by decide)⟩
  · show Steps p.tables e below (T1.setTop (mkF m 4 #[.val (.ref a1)] [(.long w)])) _
    jvm_step X1.here [X1.here.top, hx, (hb hby own_d_prog_13_method_23_4), X1.method', Bd.returns, narrow]
    first | (intro acts; rw [hr _ acts rfl rfl rfl]) | rw [hr _ _ rfl rfl rfl]
    exact Steps.refl _
  · show own_Q_ggn Z a1 w h0 n0 (some (.long w)) T1.heap _
    rw [e1]
    exact ⟨rfl, N0, rfl⟩
theorem own_d_prog_13_method_24_0 : decode prog_13_method_24_code 0 = .ok (.aload_n 0, 1) := by decide +kernel
theorem own_d_prog_13_method_24_1 : decode prog_13_method_24_code 1 = .ok (.getfield 71, 3) := by decide +kernel
theorem own_d_prog_13_method_24_4 : decode prog_13_method_24_code 4 = .ok (.lreturn, 1) := by decide +kernel
theorem own_ef_gdi (m : MethodId) (a1 : Addr) : entryFrame m #[(.ref a1)] 1 = mkF m 0 #[.val (.ref a1)] [] := by first | (simp [entryFrame, mkF, argsToLocals, Value.category]; done) | rfl
def own_Q_gdi (Z : State) (a1 : Addr) (w : Int64) (h0 : Heap) (n0 : Nat) (v : Option Value) (h : Heap) (L : List Loc) : Prop := v = some (.long w) ∧ Fr n0 L ∧ h = h0
set_option maxRecDepth 65536 in
set_option maxHeartbeats 40000000 in
theorem own_rm_gdi (l : Launch) (Z : State) (a0 : Array Value) (hw : ∀ d ∈ tables_1, d.before a0 Z = true) (ws : List Jvm.Cond) (a1 : Addr) (w : Int64) (h0 : Heap) (n0 : Nat) (Z0 : n0 ≤ h0.size) (F0 : Fld Z h0 a1 "com/example/interleave/interleave/check/Expansion" "distinct" "J" (.long w)) :
    MetFree l (⟨"com/example/interleave/interleave/check/Expansion", "distinct", "()J"⟩ : MethodName) (head1 (Jvm.Cond.code (⟨"com/example/interleave/interleave/check/Expansion", "distinct", "()J"⟩ : MethodName) prog_13_method_24_code 1 (some .long) :: ws) ({ frames := 0, cells := 0, slots := 0, locals := 0 } : Room)) (fun a U => a = #[(.ref a1)] ∧ Z.Warmed39 U.vm ∧ U.heap = h0) (fun _ _ _ _ _ => True) (fun _ U o U' => ∃ v L, o = .returned v ∧ own_Q_gdi Z a1 w h0 n0 v U'.heap L ∧ FrameEnd U o U' L ({ frames := 0, cells := 0, slots := 0, locals := 0 } : Room).cells ({ frames := 0, cells := 0, slots := 0, locals := 0 } : Room).slots) := by
  refine MetFree.of_bodySF (plainFor_of_name own_pn3) hisR ?_
  intro p e s m args below meth c s₁ Bd hml0 hP hK
  obtain ⟨rfl, hZ, hh⟩ := hP
  have hx := Bd.exec
  have hby := Bd.bytes
  have hml : c.maxLocals = 1 := hml0
  have hown : s.vm.findClass "com/example/interleave/interleave/check/Expansion" = some m.cls := findClass_of_methodNamed Bd.named
  have hnm := (name_of_methodNamed Bd.named Bd.method).1
  have X0 : Stand p l e ({ frames := 0, cells := 0, slots := 0, locals := 0 } : Room) s m #[(.ref a1)] below meth c s₁ [] 0 0 := Stand.of_body Bd
  have e0 : s₁.heap = h0 := by rw [← hh, Bd.state]; rfl
  have N0 := Fr.nil n0
  have K0 : Keep h0 h0 [] := Keep.refl _ _
  have pre0 : ∀ t, Steps p.tables e below (s₁.setTop (mkF m 0 #[.val (.ref a1)] [])) t → Steps p.tables e below (s₁.setTop (entryFrame m #[(.ref a1)] 1)) t := fun t k => castTop (own_ef_gdi m a1) k
  obtain ⟨T1, X1, e1, st1⟩ := getF X0 hx hZ hown (host := "") (Or.inl (hw _ (List.mem_of_getElem? (i := 55) rfl))) Via.refl e0 F0 (g := (mkF m 1 #[.val (.ref a1)] [(.ref a1)])) rfl rfl (hb hby own_d_prog_13_method_24_1)
  have pre2 : ∀ t, Steps p.tables e below (T1.setTop (mkF m 4 #[.val (.ref a1)] [(.long w)])) t → Steps p.tables e below (s₁.setTop (entryFrame m #[(.ref a1)] 1)) t := by
    intro t kt
    refine pre0 t ?_
    show Steps p.tables e below (s₁.setTop (mkF m 0 #[.val (.ref a1)] [])) _
    refine XS.aloadN X0.here hx rfl (hb hby own_d_prog_13_method_24_0) rfl rfl ?_
    show Steps p.tables e below (s₁.setTop (mkF m 1 #[.val (.ref a1)] [(.ref a1)])) _
    refine st1 _ ?_
    exact kt
  obtain ⟨fs, hr, hrun, hended, hW, hsame⟩ := X1.leave (v := some (.long w)) (fun h => by rw [Bd.returns] at h; cases h)
  refine ⟨_, _, pre2 _ ?_, hrun, hended, _, _, rfl, ?_, ⟨_, rfl⟩, hW, hsame.mono (by decide) (by decide)⟩
  · show Steps p.tables e below (T1.setTop (mkF m 4 #[.val (.ref a1)] [(.long w)])) _
    jvm_step X1.here [X1.here.top, hx, (hb hby own_d_prog_13_method_24_4), X1.method', Bd.returns, narrow]
    first | (intro acts; rw [hr _ acts rfl rfl rfl]) | rw [hr _ _ rfl rfl rfl]
    exact Steps.refl _
  · show own_Q_gdi Z a1 w h0 n0 (some (.long w)) T1.heap _
    rw [e1]
    exact ⟨rfl, N0, rfl⟩
theorem own_d_prog_13_method_25_0 : decode prog_13_method_25_code 0 = .ok (.aload_n 0, 1) := by decide +kernel
theorem own_d_prog_13_method_25_1 : decode prog_13_method_25_code 1 = .ok (.getfield 74, 3) := by decide +kernel
theorem own_d_prog_13_method_25_4 : decode prog_13_method_25_code 4 = .ok (.ireturn, 1) := by decide +kernel
theorem own_ef_gde (m : MethodId) (a1 : Addr) : entryFrame m #[(.ref a1)] 1 = mkF m 0 #[.val (.ref a1)] [] := by first | (simp [entryFrame, mkF, argsToLocals, Value.category]; done) | rfl
def own_Q_gde (Z : State) (a1 : Addr) (w : Int32) (h0 : Heap) (n0 : Nat) (v : Option Value) (h : Heap) (L : List Loc) : Prop := v = some (.int w) ∧ Fr n0 L ∧ h = h0
set_option maxRecDepth 65536 in
set_option maxHeartbeats 40000000 in
theorem own_rm_gde (l : Launch) (Z : State) (a0 : Array Value) (hw : ∀ d ∈ tables_1, d.before a0 Z = true) (ws : List Jvm.Cond) (a1 : Addr) (w : Int32) (h0 : Heap) (n0 : Nat) (Z0 : n0 ≤ h0.size) (F0 : Fld Z h0 a1 "com/example/interleave/interleave/check/Expansion" "depth" "I" (.int w)) :
    MetFree l (⟨"com/example/interleave/interleave/check/Expansion", "depth", "()I"⟩ : MethodName) (head1 (Jvm.Cond.code (⟨"com/example/interleave/interleave/check/Expansion", "depth", "()I"⟩ : MethodName) prog_13_method_25_code 1 (some .int) :: ws) ({ frames := 0, cells := 0, slots := 0, locals := 0 } : Room)) (fun a U => a = #[(.ref a1)] ∧ Z.Warmed39 U.vm ∧ U.heap = h0) (fun _ _ _ _ _ => True) (fun _ U o U' => ∃ v L, o = .returned v ∧ own_Q_gde Z a1 w h0 n0 v U'.heap L ∧ FrameEnd U o U' L ({ frames := 0, cells := 0, slots := 0, locals := 0 } : Room).cells ({ frames := 0, cells := 0, slots := 0, locals := 0 } : Room).slots) := by
  refine MetFree.of_bodySF (plainFor_of_name own_pn3) hisR ?_
  intro p e s m args below meth c s₁ Bd hml0 hP hK
  obtain ⟨rfl, hZ, hh⟩ := hP
  have hx := Bd.exec
  have hby := Bd.bytes
  have hml : c.maxLocals = 1 := hml0
  have hown : s.vm.findClass "com/example/interleave/interleave/check/Expansion" = some m.cls := findClass_of_methodNamed Bd.named
  have hnm := (name_of_methodNamed Bd.named Bd.method).1
  have X0 : Stand p l e ({ frames := 0, cells := 0, slots := 0, locals := 0 } : Room) s m #[(.ref a1)] below meth c s₁ [] 0 0 := Stand.of_body Bd
  have e0 : s₁.heap = h0 := by rw [← hh, Bd.state]; rfl
  have N0 := Fr.nil n0
  have K0 : Keep h0 h0 [] := Keep.refl _ _
  have pre0 : ∀ t, Steps p.tables e below (s₁.setTop (mkF m 0 #[.val (.ref a1)] [])) t → Steps p.tables e below (s₁.setTop (entryFrame m #[(.ref a1)] 1)) t := fun t k => castTop (own_ef_gde m a1) k
  obtain ⟨T1, X1, e1, st1⟩ := getF X0 hx hZ hown (host := "") (Or.inl (hw _ (List.mem_of_getElem? (i := 57) rfl))) Via.refl e0 F0 (g := (mkF m 1 #[.val (.ref a1)] [(.ref a1)])) rfl rfl (hb hby own_d_prog_13_method_25_1)
  have pre2 : ∀ t, Steps p.tables e below (T1.setTop (mkF m 4 #[.val (.ref a1)] [(.int w)])) t → Steps p.tables e below (s₁.setTop (entryFrame m #[(.ref a1)] 1)) t := by
    intro t kt
    refine pre0 t ?_
    show Steps p.tables e below (s₁.setTop (mkF m 0 #[.val (.ref a1)] [])) _
    refine XS.aloadN X0.here hx rfl (hb hby own_d_prog_13_method_25_0) rfl rfl ?_
    show Steps p.tables e below (s₁.setTop (mkF m 1 #[.val (.ref a1)] [(.ref a1)])) _
    refine st1 _ ?_
    exact kt
  obtain ⟨fs, hr, hrun, hended, hW, hsame⟩ := X1.leave (v := some (.int w)) (fun h => by rw [Bd.returns] at h; cases h)
  refine ⟨_, _, pre2 _ ?_, hrun, hended, _, _, rfl, ?_, ⟨_, rfl⟩, hW, hsame.mono (by decide) (by decide)⟩
  · show Steps p.tables e below (T1.setTop (mkF m 4 #[.val (.ref a1)] [(.int w)])) _
    exact retI X1 hx Bd.returns (hb hby own_d_prog_13_method_25_4) hr
  · show own_Q_gde Z a1 w h0 n0 (some (.int w)) T1.heap _
    rw [e1]
    exact ⟨rfl, N0, rfl⟩
theorem own_d_prog_13_method_4_0 : decode prog_13_method_4_code 0 = .ok (.aload_n 0, 1) := by decide +kernel
theorem own_d_prog_13_method_4_1 : decode prog_13_method_4_code 1 = .ok (.getfield 19, 3) := by decide +kernel
theorem own_d_prog_13_method_4_4 : decode prog_13_method_4_code 4 = .ok (.ireturn, 1) := by decide +kernel
theorem own_ef_gsi (m : MethodId) (a1 : Addr) : entryFrame m #[(.ref a1)] 1 = mkF m 0 #[.val (.ref a1)] [] := by first | (simp [entryFrame, mkF, argsToLocals, Value.category]; done) | rfl
def own_Q_gsi (Z : State) (a1 : Addr) (w : Int32) (h0 : Heap) (n0 : Nat) (v : Option Value) (h : Heap) (L : List Loc) : Prop := v = some (.int w) ∧ Fr n0 L ∧ h = h0
set_option maxRecDepth 65536 in
set_option maxHeartbeats 40000000 in
theorem own_rm_gsi (l : Launch) (Z : State) (a0 : Array Value) (hw : ∀ d ∈ tables_1, d.before a0 Z = true) (ws : List Jvm.Cond) (a1 : Addr) (w : Int32) (h0 : Heap) (n0 : Nat) (Z0 : n0 ≤ h0.size) (F0 : Fld Z h0 a1 "com/example/interleave/interleave/check/Expansion" "sourceId" "I" (.int w)) :
    MetFree l (⟨"com/example/interleave/interleave/check/Expansion", "sourceId", "()I"⟩ : MethodName) (head1 (Jvm.Cond.code (⟨"com/example/interleave/interleave/check/Expansion", "sourceId", "()I"⟩ : MethodName) prog_13_method_4_code 1 (some .int) :: ws) ({ frames := 0, cells := 0, slots := 0, locals := 0 } : Room)) (fun a U => a = #[(.ref a1)] ∧ Z.Warmed39 U.vm ∧ U.heap = h0) (fun _ _ _ _ _ => True) (fun _ U o U' => ∃ v L, o = .returned v ∧ own_Q_gsi Z a1 w h0 n0 v U'.heap L ∧ FrameEnd U o U' L ({ frames := 0, cells := 0, slots := 0, locals := 0 } : Room).cells ({ frames := 0, cells := 0, slots := 0, locals := 0 } : Room).slots) := by
  refine MetFree.of_bodySF (plainFor_of_name own_pn3) hisR ?_
  intro p e s m args below meth c s₁ Bd hml0 hP hK
  obtain ⟨rfl, hZ, hh⟩ := hP
  have hx := Bd.exec
  have hby := Bd.bytes
  have hml : c.maxLocals = 1 := hml0
  have hown : s.vm.findClass "com/example/interleave/interleave/check/Expansion" = some m.cls := findClass_of_methodNamed Bd.named
  have hnm := (name_of_methodNamed Bd.named Bd.method).1
  have X0 : Stand p l e ({ frames := 0, cells := 0, slots := 0, locals := 0 } : Room) s m #[(.ref a1)] below meth c s₁ [] 0 0 := Stand.of_body Bd
  have e0 : s₁.heap = h0 := by rw [← hh, Bd.state]; rfl
  have N0 := Fr.nil n0
  have K0 : Keep h0 h0 [] := Keep.refl _ _
  have pre0 : ∀ t, Steps p.tables e below (s₁.setTop (mkF m 0 #[.val (.ref a1)] [])) t → Steps p.tables e below (s₁.setTop (entryFrame m #[(.ref a1)] 1)) t := fun t k => castTop (own_ef_gsi m a1) k
  obtain ⟨T1, X1, e1, st1⟩ := getF X0 hx hZ hown (host := "") (Or.inl (hw _ (List.mem_of_getElem? (i := 38) rfl))) Via.refl e0 F0 (g := (mkF m 1 #[.val (.ref a1)] [(.ref a1)])) rfl rfl (hb hby own_d_prog_13_method_4_1)
  have pre2 : ∀ t, Steps p.tables e below (T1.setTop (mkF m 4 #[.val (.ref a1)] [(.int w)])) t → Steps p.tables e below (s₁.setTop (entryFrame m #[(.ref a1)] 1)) t := by
    intro t kt
    refine pre0 t ?_
    show Steps p.tables e below (s₁.setTop (mkF m 0 #[.val (.ref a1)] [])) _
    refine XS.aloadN X0.here hx rfl (hb hby own_d_prog_13_method_4_0) rfl rfl ?_
    show Steps p.tables e below (s₁.setTop (mkF m 1 #[.val (.ref a1)] [(.ref a1)])) _
    refine st1 _ ?_
    exact kt
  obtain ⟨fs, hr, hrun, hended, hW, hsame⟩ := X1.leave (v := some (.int w)) (fun h => by rw [Bd.returns] at h; cases h)
  refine ⟨_, _, pre2 _ ?_, hrun, hended, _, _, rfl, ?_, ⟨_, rfl⟩, hW, hsame.mono (by decide) (by decide)⟩
  · show Steps p.tables e below (T1.setTop (mkF m 4 #[.val (.ref a1)] [(.int w)])) _
    exact retI X1 hx Bd.returns (hb hby own_d_prog_13_method_4_4) hr
  · show own_Q_gsi Z a1 w h0 n0 (some (.int w)) T1.heap _
    rw [e1]
    exact ⟨rfl, N0, rfl⟩
theorem own_d_prog_13_method_5_0 : decode prog_13_method_5_code 0 = .ok (.aload_n 0, 1) := by decide +kernel
theorem own_d_prog_13_method_5_1 : decode prog_13_method_5_code 1 = .ok (.getfield 23, 3) := by decide +kernel
theorem own_d_prog_13_method_5_4 : decode prog_13_method_5_code 4 = .ok (.ireturn, 1) := by decide +kernel
theorem own_ef_gsp (m : MethodId) (a1 : Addr) : entryFrame m #[(.ref a1)] 1 = mkF m 0 #[.val (.ref a1)] [] := by first | (simp [entryFrame, mkF, argsToLocals, Value.category]; done) | rfl
def own_Q_gsp (Z : State) (a1 : Addr) (w : Int32) (h0 : Heap) (n0 : Nat) (v : Option Value) (h : Heap) (L : List Loc) : Prop := v = some (.int w) ∧ Fr n0 L ∧ h = h0
set_option maxRecDepth 65536 in
set_option maxHeartbeats 40000000 in
theorem own_rm_gsp (l : Launch) (Z : State) (a0 : Array Value) (hw : ∀ d ∈ tables_1, d.before a0 Z = true) (ws : List Jvm.Cond) (a1 : Addr) (w : Int32) (h0 : Heap) (n0 : Nat) (Z0 : n0 ≤ h0.size) (F0 : Fld Z h0 a1 "com/example/interleave/interleave/check/Expansion" "sourceParent" "I" (.int w)) :
    MetFree l (⟨"com/example/interleave/interleave/check/Expansion", "sourceParent", "()I"⟩ : MethodName) (head1 (Jvm.Cond.code (⟨"com/example/interleave/interleave/check/Expansion", "sourceParent", "()I"⟩ : MethodName) prog_13_method_5_code 1 (some .int) :: ws) ({ frames := 0, cells := 0, slots := 0, locals := 0 } : Room)) (fun a U => a = #[(.ref a1)] ∧ Z.Warmed39 U.vm ∧ U.heap = h0) (fun _ _ _ _ _ => True) (fun _ U o U' => ∃ v L, o = .returned v ∧ own_Q_gsp Z a1 w h0 n0 v U'.heap L ∧ FrameEnd U o U' L ({ frames := 0, cells := 0, slots := 0, locals := 0 } : Room).cells ({ frames := 0, cells := 0, slots := 0, locals := 0 } : Room).slots) := by
  refine MetFree.of_bodySF (plainFor_of_name own_pn3) hisR ?_
  intro p e s m args below meth c s₁ Bd hml0 hP hK
  obtain ⟨rfl, hZ, hh⟩ := hP
  have hx := Bd.exec
  have hby := Bd.bytes
  have hml : c.maxLocals = 1 := hml0
  have hown : s.vm.findClass "com/example/interleave/interleave/check/Expansion" = some m.cls := findClass_of_methodNamed Bd.named
  have hnm := (name_of_methodNamed Bd.named Bd.method).1
  have X0 : Stand p l e ({ frames := 0, cells := 0, slots := 0, locals := 0 } : Room) s m #[(.ref a1)] below meth c s₁ [] 0 0 := Stand.of_body Bd
  have e0 : s₁.heap = h0 := by rw [← hh, Bd.state]; rfl
  have N0 := Fr.nil n0
  have K0 : Keep h0 h0 [] := Keep.refl _ _
  have pre0 : ∀ t, Steps p.tables e below (s₁.setTop (mkF m 0 #[.val (.ref a1)] [])) t → Steps p.tables e below (s₁.setTop (entryFrame m #[(.ref a1)] 1)) t := fun t k => castTop (own_ef_gsp m a1) k
  obtain ⟨T1, X1, e1, st1⟩ := getF X0 hx hZ hown (host := "") (Or.inl (hw _ (List.mem_of_getElem? (i := 40) rfl))) Via.refl e0 F0 (g := (mkF m 1 #[.val (.ref a1)] [(.ref a1)])) rfl rfl (hb hby own_d_prog_13_method_5_1)
  have pre2 : ∀ t, Steps p.tables e below (T1.setTop (mkF m 4 #[.val (.ref a1)] [(.int w)])) t → Steps p.tables e below (s₁.setTop (entryFrame m #[(.ref a1)] 1)) t := by
    intro t kt
    refine pre0 t ?_
    show Steps p.tables e below (s₁.setTop (mkF m 0 #[.val (.ref a1)] [])) _
    refine XS.aloadN X0.here hx rfl (hb hby own_d_prog_13_method_5_0) rfl rfl ?_
    show Steps p.tables e below (s₁.setTop (mkF m 1 #[.val (.ref a1)] [(.ref a1)])) _
    refine st1 _ ?_
    exact kt
  obtain ⟨fs, hr, hrun, hended, hW, hsame⟩ := X1.leave (v := some (.int w)) (fun h => by rw [Bd.returns] at h; cases h)
  refine ⟨_, _, pre2 _ ?_, hrun, hended, _, _, rfl, ?_, ⟨_, rfl⟩, hW, hsame.mono (by decide) (by decide)⟩
  · show Steps p.tables e below (T1.setTop (mkF m 4 #[.val (.ref a1)] [(.int w)])) _
    exact retI X1 hx Bd.returns (hb hby own_d_prog_13_method_5_4) hr
  · show own_Q_gsp Z a1 w h0 n0 (some (.int w)) T1.heap _
    rw [e1]
    exact ⟨rfl, N0, rfl⟩
theorem own_d_prog_13_method_6_0 : decode prog_13_method_6_code 0 = .ok (.aload_n 0, 1) := by decide +kernel
theorem own_d_prog_13_method_6_1 : decode prog_13_method_6_code 1 = .ok (.getfield 26, 3) := by decide +kernel
theorem own_d_prog_13_method_6_4 : decode prog_13_method_6_code 4 = .ok (.areturn, 1) := by decide +kernel
theorem own_ef_gsb (m : MethodId) (a1 : Addr) : entryFrame m #[(.ref a1)] 1 = mkF m 0 #[.val (.ref a1)] [] := by first | (simp [entryFrame, mkF, argsToLocals, Value.category]; done) | rfl
def own_Q_gsb (Z : State) (a1 : Addr) (w : Addr) (h0 : Heap) (n0 : Nat) (v : Option Value) (h : Heap) (L : List Loc) : Prop := v = some (.ref w) ∧ Fr n0 L ∧ h = h0
set_option maxRecDepth 65536 in
set_option maxHeartbeats 40000000 in
theorem own_rm_gsb (l : Launch) (Z : State) (a0 : Array Value) (hw : ∀ d ∈ tables_1, d.before a0 Z = true) (ws : List Jvm.Cond) (a1 : Addr) (w : Addr) (h0 : Heap) (n0 : Nat) (Z0 : n0 ≤ h0.size) (F0 : Fld Z h0 a1 "com/example/interleave/interleave/check/Expansion" "sourceBytes" "[B" (.ref w)) :
    MetFree l (⟨"com/example/interleave/interleave/check/Expansion", "sourceBytes", "()[B"⟩ : MethodName) (head1 (Jvm.Cond.code (⟨"com/example/interleave/interleave/check/Expansion", "sourceBytes", "()[B"⟩ : MethodName) prog_13_method_6_code 1 (some (.array .byte)) :: ws) ({ frames := 0, cells := 0, slots := 0, locals := 0 } : Room)) (fun a U => a = #[(.ref a1)] ∧ Z.Warmed39 U.vm ∧ U.heap = h0) (fun _ _ _ _ _ => True) (fun _ U o U' => ∃ v L, o = .returned v ∧ own_Q_gsb Z a1 w h0 n0 v U'.heap L ∧ FrameEnd U o U' L ({ frames := 0, cells := 0, slots := 0, locals := 0 } : Room).cells ({ frames := 0, cells := 0, slots := 0, locals := 0 } : Room).slots) := by
  refine MetFree.of_bodySF (plainFor_of_name own_pn3) hisR ?_
  intro p e s m args below meth c s₁ Bd hml0 hP hK
  obtain ⟨rfl, hZ, hh⟩ := hP
  have hx := Bd.exec
  have hby := Bd.bytes
  have hml : c.maxLocals = 1 := hml0
  have hown : s.vm.findClass "com/example/interleave/interleave/check/Expansion" = some m.cls := findClass_of_methodNamed Bd.named
  have hnm := (name_of_methodNamed Bd.named Bd.method).1
  have X0 : Stand p l e ({ frames := 0, cells := 0, slots := 0, locals := 0 } : Room) s m #[(.ref a1)] below meth c s₁ [] 0 0 := Stand.of_body Bd
  have e0 : s₁.heap = h0 := by rw [← hh, Bd.state]; rfl
  have N0 := Fr.nil n0
  have K0 : Keep h0 h0 [] := Keep.refl _ _
  have pre0 : ∀ t, Steps p.tables e below (s₁.setTop (mkF m 0 #[.val (.ref a1)] [])) t → Steps p.tables e below (s₁.setTop (entryFrame m #[(.ref a1)] 1)) t := fun t k => castTop (own_ef_gsb m a1) k
  obtain ⟨T1, X1, e1, st1⟩ := getF X0 hx hZ hown (host := "") (Or.inl (hw _ (List.mem_of_getElem? (i := 42) rfl))) Via.refl e0 F0 (g := (mkF m 1 #[.val (.ref a1)] [(.ref a1)])) rfl rfl (hb hby own_d_prog_13_method_6_1)
  have pre2 : ∀ t, Steps p.tables e below (T1.setTop (mkF m 4 #[.val (.ref a1)] [(.ref w)])) t → Steps p.tables e below (s₁.setTop (entryFrame m #[(.ref a1)] 1)) t := by
    intro t kt
    refine pre0 t ?_
    show Steps p.tables e below (s₁.setTop (mkF m 0 #[.val (.ref a1)] [])) _
    refine XS.aloadN X0.here hx rfl (hb hby own_d_prog_13_method_6_0) rfl rfl ?_
    show Steps p.tables e below (s₁.setTop (mkF m 1 #[.val (.ref a1)] [(.ref a1)])) _
    refine st1 _ ?_
    exact kt
  obtain ⟨fs, hr, hrun, hended, hW, hsame⟩ := X1.leave (v := some (.ref w)) (fun h => by rw [Bd.returns] at h; cases h)
  refine ⟨_, _, pre2 _ ?_, hrun, hended, _, _, rfl, ?_, ⟨_, rfl⟩, hW, hsame.mono (by decide) (by decide)⟩
  · show Steps p.tables e below (T1.setTop (mkF m 4 #[.val (.ref a1)] [(.ref w)])) _
    jvm_step X1.here [X1.here.top, hx, (hb hby own_d_prog_13_method_6_4), X1.method', Bd.returns, Value.isRef, FieldType.isReference]
    first | (intro acts; rw [hr _ acts rfl rfl rfl]) | rw [hr _ _ rfl rfl rfl]
    exact Steps.refl _
  · show own_Q_gsb Z a1 w h0 n0 (some (.ref w)) T1.heap _
    rw [e1]
    exact ⟨rfl, N0, rfl⟩
theorem own_pd1 : parseMethodDescriptor "(II[B)V" = some ⟨[.int, .int, (.array .byte)], none⟩ := by decide +kernel
theorem own_pd2 : parseMethodDescriptor "(Ljava/util/List;JJI)V" = some ⟨[(.object "java/util/List"), .long, .long, .int], none⟩ := by decide +kernel
theorem own_pd3 : parseMethodDescriptor "()Ljava/util/List;" = some ⟨[], some (.object "java/util/List")⟩ := by decide +kernel
theorem own_pd4 : parseMethodDescriptor "()J" = some ⟨[], some .long⟩ := by decide +kernel
theorem own_pd5 : parseMethodDescriptor "()I" = some ⟨[], some .int⟩ := by decide +kernel
theorem own_pd6 : parseMethodDescriptor "()[B" = some ⟨[], some (.array .byte)⟩ := by decide +kernel
theorem own_pn4 : plainName "com/example/interleave/interleave/check/ExpansionTookInPinLaw" = true := by first | (simp [plainName, overriddenIn]; done) | decide +kernel
theorem own_ef_law (m : MethodId) (q0 : Int64) (q1 : Int64) (p2 : Int32) (p3 : Int32) (p4 : Int32) (p5 : Int32) : entryFrame m #[(.long q0), (.long q1), (.int p2), (.int p3), (.int p4), (.int p5)] maxLocals = mkF m 0 #[.val (.long q0), .second, .val (.long q1), .second, .val (.int p2), .val (.int p3), .val (.int p4), .val (.int p5), .unset, .unset, .unset, .unset, .unset, .unset, .unset, .unset, .unset, .unset, .unset] [] := by first | (simp [entryFrame, mkF, argsToLocals, Value.category, maxLocals]; done) | rfl
def own_Q_law (Z : State) (q0 : Int64) (q1 : Int64) (p2 : Int32) (p3 : Int32) (p4 : Int32) (p5 : Int32) (aS : Addr) (h0 : Heap) (n0 : Nat) (v : Option Value) (h : Heap) (L : List Loc) : Prop := v = some (.int 1) ∧ Fr n0 L
set_option maxRecDepth 65536 in
set_option maxHeartbeats 40000000 in
theorem own_rm_law (l : Launch) (Z : State) (a0 : Array Value) (hw : ∀ d ∈ tables_1, d.before a0 Z = true) (ws : List Jvm.Cond) (q0 : Int64) (q1 : Int64) (p2 : Int32) (p3 : Int32) (p4 : Int32) (p5 : Int32) (aS : Addr) (h0 : Heap) (n0 : Nat) (Z0 : n0 ≤ h0.size) (S0 : Sta Z h0 "java/util/ArrayList" "DEFAULTCAPACITY_EMPTY_ELEMENTDATA" "[Ljava/lang/Object;" (.ref aS)) :
    MetFree l x (head1 (Jvm.Cond.code x code maxLocals ret :: ws) room_1) (fun a U => a = #[(.long q0), (.long q1), (.int p2), (.int p3), (.int p4), (.int p5)] ∧ Z.Warmed39 U.vm ∧ U.heap = h0) (fun _ _ _ _ _ => True) (fun _ U o U' => ∃ v L, o = .returned v ∧ own_Q_law Z q0 q1 p2 p3 p4 p5 aS h0 n0 v U'.heap L ∧ FrameEnd U o U' L room_1.cells room_1.slots) := by
  refine MetFree.of_bodySF (plainFor_of_name own_pn4) hisR ?_
  intro p e s m args below meth c s₁ Bd hml0 hP hK
  obtain ⟨rfl, hZ, hh⟩ := hP
  have hx := Bd.exec
  have hby := Bd.bytes
  have hml : c.maxLocals = 19 := hml0
  have hown : s.vm.findClass "com/example/interleave/interleave/check/ExpansionTookInPinLaw" = some m.cls := findClass_of_methodNamed Bd.named
  have hnm := (name_of_methodNamed Bd.named Bd.method).1
  have X0 : Stand p l e room_1 s m #[(.long q0), (.long q1), (.int p2), (.int p3), (.int p4), (.int p5)] below meth c s₁ [] 0 0 := Stand.of_body Bd
  have e0 : s₁.heap = h0 := by rw [← hh, Bd.state]; rfl
  have N0 := Fr.nil n0
  have K0 : Keep h0 h0 [] := Keep.refl _ _
  have pre0 : ∀ t, Steps p.tables e below (s₁.setTop (mkF m 0 #[.val (.long q0), .second, .val (.long q1), .second, .val (.int p2), .val (.int p3), .val (.int p4), .val (.int p5), .unset, .unset, .unset, .unset, .unset, .unset, .unset, .unset, .unset, .unset, .unset] [])) t → Steps p.tables e below (s₁.setTop (entryFrame m #[(.long q0), (.long q1), (.int p2), (.int p3), (.int p4), (.int p5)] maxLocals)) t := fun t k => castTop (own_ef_law m q0 q1 p2 p3 p4 p5) k
  obtain ⟨T1, h1, k1, X1, e1, E1, A1, I1, st1⟩ := newPE X0 hx hZ (hw _ (List.mem_of_getElem? (i := 0) rfl)) e0 (g := (mkF m 1 #[.val (.long q0), .second, .val (.long q1), .second, .val (.int p2), .val (.int p3), .val (.int p4), .val (.int p5), .unset, .unset, .unset, .unset, .unset, .unset, .unset, .unset, .unset, .unset, .unset] [(.int (1 : Int32))])) rfl (hb hby at_1) rfl (by decide) (cap := 1) (by decide) (by decide) (by decide) (by decide) (ad := "[B") rfl
  obtain ⟨b1, g1⟩ : ∃ z, z = h0.size := ⟨_, rfl⟩
  rw [← g1] at A1 I1 st1
  have sz_b1 : h0.size ≤ b1 := Nat.le_trans K0.1 (Nat.le_of_eq g1.symm)
  have gn_b1 : n0 ≤ b1 := Nat.le_trans Z0 sz_b1
  have f2 := S0.ext E1
  have k3 := K0.ext E1
  have f4 : own_L Z h1 b1 .byte (1 : Int32) := ⟨_, A1, sz_new _ _ _⟩
  obtain ⟨T5, h5, X5, e5, E5, A5, D5, -, st5⟩ := newO X1 hx hZ hown (hw _ (List.mem_of_getElem? (i := 1) rfl)) (hw _ (List.mem_of_getElem? (i := 2) rfl)) (hw _ (List.mem_of_getElem? (i := 3) rfl)) e1 (g := (mkF m 5 #[.val (.long q0), .second, .val (.long q1), .second, .val (.int p2), .val (.int p3), .val (.int p4), .val (.int p5), .val (.ref b1), .unset, .unset, .unset, .unset, .unset, .unset, .unset, .unset, .unset, .unset] [])) rfl (hb hby at_5) (by decide) (by decide)
  obtain ⟨b5, g5⟩ : ∃ z, z = h1.size := ⟨_, rfl⟩
  rw [← g5] at A5 D5 st5
  have sz_b5 : h0.size ≤ b5 := Nat.le_trans k3.1 (Nat.le_of_eq g5.symm)
  have gn_b5 : n0 ≤ b5 := Nat.le_trans Z0 sz_b5
  have ne_b1_b5 : b1 ≠ b5 := Nat.ne_of_lt (Nat.lt_of_lt_of_le f4.lt (Nat.le_of_eq g5.symm))
  have f6 := f2.ext E5
  have f7 := I1.ext E5
  have f8 := f4.ext E5
  have k9 := k3.ext E5
  have f10 : Fld Z h5 b5 "com/example/interleave/interleave/check/Expansion" "found" "Ljava/util/List;" .null := D5 (Or.inr (hw _ (List.mem_of_getElem? (i := 35) rfl))) (ty := (.object "java/util/List")) (by decide)
  have f11 : Fld Z h5 b5 "com/example/interleave/interleave/check/Expansion" "printed" "Ljava/util/List;" .null := D5 (Or.inr (hw _ (List.mem_of_getElem? (i := 37) rfl))) (ty := (.object "java/util/List")) (by decide)
  have f12 : Fld Z h5 b5 "com/example/interleave/interleave/check/Expansion" "sourceId" "I" (.int (0 : Int32)) := D5 (Or.inr (hw _ (List.mem_of_getElem? (i := 39) rfl))) (ty := .int) (by decide)
  have f13 : Fld Z h5 b5 "com/example/interleave/interleave/check/Expansion" "sourceParent" "I" (.int (0 : Int32)) := D5 (Or.inr (hw _ (List.mem_of_getElem? (i := 41) rfl))) (ty := .int) (by decide)
  have f14 : Fld Z h5 b5 "com/example/interleave/interleave/check/Expansion" "sourceBytes" "[B" .null := D5 (Or.inr (hw _ (List.mem_of_getElem? (i := 43) rfl))) (ty := (.array .byte)) (by decide)
  have f15 : Fld Z h5 b5 "com/example/interleave/interleave/check/Expansion" "fresh" "Ljava/util/List;" .null := D5 (Or.inl (hw _ (List.mem_of_getElem? (i := 52) rfl))) (ty := (.object "java/util/List")) (by decide)
  have f16 : Fld Z h5 b5 "com/example/interleave/interleave/check/Expansion" "generated" "J" (.long (0 : Int64)) := D5 (Or.inl (hw _ (List.mem_of_getElem? (i := 54) rfl))) (ty := .long) (by decide)
  have f17 : Fld Z h5 b5 "com/example/interleave/interleave/check/Expansion" "distinct" "J" (.long (0 : Int64)) := D5 (Or.inl (hw _ (List.mem_of_getElem? (i := 56) rfl))) (ty := .long) (by decide)
  have f18 : Fld Z h5 b5 "com/example/interleave/interleave/check/Expansion" "depth" "I" (.int (0 : Int32)) := D5 (Or.inl (hw _ (List.mem_of_getElem? (i := 58) rfl))) (ty := .int) (by decide)
  have zs19 : n0 ≤ h5.size := Nat.le_trans Z0 k9.1
  obtain ⟨_, _, ⟨T20, L20, k20, n20⟩, -, X20, ⟨Lc20, hQ20, l20, y20, z20⟩, st20⟩ := X5.specialBack hx (y := (⟨"com/example/interleave/interleave/check/Expansion", "<init>", "(II[B)V"⟩ : MethodName)) rfl hown (mvT hZ (hw _ (List.mem_of_getElem? (i := 4) rfl))) (mvT hZ (hw _ (List.mem_of_getElem? (i := 5) rfl))) (mvT hZ (hw _ (List.mem_of_getElem? (i := 6) rfl))) (by decide) (backOf (W := 1) (own_rm_exR l Z a0 hw [] b5 p3 p4 b1 aS h5 n0 zs19 f6 A5 f10 f11 f12 f13 f14 f15 f16 f17 f18 gn_b5) hZ (hw _ (List.mem_of_getElem? (i := 6) rfl)) (hw _ (List.mem_of_getElem? (i := 3) rfl)) (by decide) (by decide)) (g := (mkF m 15 #[.val (.long q0), .second, .val (.long q1), .second, .val (.int p2), .val (.int p3), .val (.int p4), .val (.int p5), .val (.ref b1), .unset, .unset, .unset, .unset, .unset, .unset, .unset, .unset, .unset, .unset] [(.ref b1), (.int p4), (.int p3), (.ref b5), (.ref b5)])) rfl (by rw [hml]; rfl) (Steps.refl _) (a := b5) (argsL := [(.int p3), (.int p4), (.ref b1)]) (rest := [(.ref b5)]) (lenOf own_pd1 rfl) rfl (by show 2 * 0 + _ ≤ _; exact Nat.le_of_eq rfl) (hb hby at_15) (fun _ _ => ⟨rfl, e5, (by decide : 2 + 2 ≤ _), (by decide : 22 + 6 ≤ _)⟩)
  dsimp only [Pt.U, Pt.locs, Pt.cells, Pt.slots] at X20 l20 y20 z20 st20 hQ20
  rw [l20, (y20 : k20 = 4), (z20 : n20 = 28)] at X20
  clear l20 y20 z20
  obtain ⟨rfl, N21, K21, c21_0, c21_1, c21_2, c21_3, c21_4, c21_5, c21_6⟩ := hQ20
  have f22 := own_sta_keep f6 K21 (own_pl_cons A5 all0)
  have f23 := f7.keep K21
  have f24 := f8.keep K21 (ninS ne_b1_b5 nin0)
  have f25 := A5.keep K21
  have k26 := k9.trans K21 (allS (Or.inr sz_b5) all0)
  have nf27 := Fr.app N0 N21
  have pre28 : ∀ t, Steps p.tables e below (T20.setTop (mkF m 23 #[.val (.long q0), .second, .val (.long q1), .second, .val (.int p2), .val (.int p3), .val (.int p4), .val (.int p5), .val (.ref b1), .val (.ref b5), .unset, .unset, .unset, .unset, .unset, .unset, .unset, .unset, .unset] [(.int (1 : Int32)), (.int p5)])) t → Steps p.tables e below (s₁.setTop (entryFrame m #[(.long q0), (.long q1), (.int p2), (.int p3), (.int p4), (.int p5)] maxLocals)) t := by
    intro t kt
    refine pre0 t ?_
    show Steps p.tables e below (s₁.setTop (mkF m 0 #[.val (.long q0), .second, .val (.long q1), .second, .val (.int p2), .val (.int p3), .val (.int p4), .val (.int p5), .unset, .unset, .unset, .unset, .unset, .unset, .unset, .unset, .unset, .unset, .unset] [])) _
    refine XS.iconst X0.here hx rfl (hb hby at_0) ?_
    show Steps p.tables e below (s₁.setTop (mkF m 1 #[.val (.long q0), .second, .val (.long q1), .second, .val (.int p2), .val (.int p3), .val (.int p4), .val (.int p5), .unset, .unset, .unset, .unset, .unset, .unset, .unset, .unset, .unset, .unset, .unset] [(.int (1 : Int32))])) _
    refine st1 _ ?_
    show Steps p.tables e below (T1.setTop (mkF m 3 #[.val (.long q0), .second, .val (.long q1), .second, .val (.int p2), .val (.int p3), .val (.int p4), .val (.int p5), .unset, .unset, .unset, .unset, .unset, .unset, .unset, .unset, .unset, .unset, .unset] [(.ref b1)])) _
    refine XS.astore X1.here hx rfl (hb hby at_3) rfl rfl (l' := #[.val (.long q0), .second, .val (.long q1), .second, .val (.int p2), .val (.int p3), .val (.int p4), .val (.int p5), .val (.ref b1), .unset, .unset, .unset, .unset, .unset, .unset, .unset, .unset, .unset, .unset]) rfl ?_
    show Steps p.tables e below (T1.setTop (mkF m 5 #[.val (.long q0), .second, .val (.long q1), .second, .val (.int p2), .val (.int p3), .val (.int p4), .val (.int p5), .val (.ref b1), .unset, .unset, .unset, .unset, .unset, .unset, .unset, .unset, .unset, .unset] [])) _
    refine st5 _ ?_
    show Steps p.tables e below (T5.setTop (mkF m 8 #[.val (.long q0), .second, .val (.long q1), .second, .val (.int p2), .val (.int p3), .val (.int p4), .val (.int p5), .val (.ref b1), .unset, .unset, .unset, .unset, .unset, .unset, .unset, .unset, .unset, .unset] [(.ref b5)])) _
    refine XS.dup X5.here hx rfl (hb hby at_8) rfl rfl ?_
    show Steps p.tables e below (T5.setTop (mkF m 9 #[.val (.long q0), .second, .val (.long q1), .second, .val (.int p2), .val (.int p3), .val (.int p4), .val (.int p5), .val (.ref b1), .unset, .unset, .unset, .unset, .unset, .unset, .unset, .unset, .unset, .unset] [(.ref b5), (.ref b5)])) _
    refine XS.iload X5.here hx rfl (hb hby at_9) rfl ?_
    show Steps p.tables e below (T5.setTop (mkF m 11 #[.val (.long q0), .second, .val (.long q1), .second, .val (.int p2), .val (.int p3), .val (.int p4), .val (.int p5), .val (.ref b1), .unset, .unset, .unset, .unset, .unset, .unset, .unset, .unset, .unset, .unset] [(.int p3), (.ref b5), (.ref b5)])) _
    refine XS.iload X5.here hx rfl (hb hby at_11) rfl ?_
    show Steps p.tables e below (T5.setTop (mkF m 13 #[.val (.long q0), .second, .val (.long q1), .second, .val (.int p2), .val (.int p3), .val (.int p4), .val (.int p5), .val (.ref b1), .unset, .unset, .unset, .unset, .unset, .unset, .unset, .unset, .unset, .unset] [(.int p4), (.int p3), (.ref b5), (.ref b5)])) _
    refine XS.aload X5.here hx rfl (hb hby at_13) rfl rfl ?_
    show Steps p.tables e below (T5.setTop (mkF m 15 #[.val (.long q0), .second, .val (.long q1), .second, .val (.int p2), .val (.int p3), .val (.int p4), .val (.int p5), .val (.ref b1), .unset, .unset, .unset, .unset, .unset, .unset, .unset, .unset, .unset, .unset] [(.ref b1), (.int p4), (.int p3), (.ref b5), (.ref b5)])) _
    refine st20.trans ?_
    show Steps p.tables e below (T20.setTop (mkF m 18 #[.val (.long q0), .second, .val (.long q1), .second, .val (.int p2), .val (.int p3), .val (.int p4), .val (.int p5), .val (.ref b1), .unset, .unset, .unset, .unset, .unset, .unset, .unset, .unset, .unset, .unset] [(.ref b5)])) _
    refine XS.astore X20.here hx rfl (hb hby at_18) rfl rfl (l' := #[.val (.long q0), .second, .val (.long q1), .second, .val (.int p2), .val (.int p3), .val (.int p4), .val (.int p5), .val (.ref b1), .val (.ref b5), .unset, .unset, .unset, .unset, .unset, .unset, .unset, .unset, .unset]) rfl ?_
    show Steps p.tables e below (T20.setTop (mkF m 20 #[.val (.long q0), .second, .val (.long q1), .second, .val (.int p2), .val (.int p3), .val (.int p4), .val (.int p5), .val (.ref b1), .val (.ref b5), .unset, .unset, .unset, .unset, .unset, .unset, .unset, .unset, .unset] [])) _
    refine XS.iload X20.here hx rfl (hb hby at_20) rfl ?_
    show Steps p.tables e below (T20.setTop (mkF m 22 #[.val (.long q0), .second, .val (.long q1), .second, .val (.int p2), .val (.int p3), .val (.int p4), .val (.int p5), .val (.ref b1), .val (.ref b5), .unset, .unset, .unset, .unset, .unset, .unset, .unset, .unset, .unset] [(.int p5)])) _
    refine XS.iconst X20.here hx rfl (hb hby at_22) ?_
    exact kt
  have pre29 : ∀ t, Steps p.tables e below (T20.setTop (mkF m 24 #[.val (.long q0), .second, .val (.long q1), .second, .val (.int p2), .val (.int p3), .val (.int p4), .val (.int p5), .val (.ref b1), .val (.ref b5), .unset, .unset, .unset, .unset, .unset, .unset, .unset, .unset, .unset] [(.int (p5 &&& (1 : Int32)))])) t → Steps p.tables e below (s₁.setTop (entryFrame m #[(.long q0), (.long q1), (.int p2), (.int p3), (.int p4), (.int p5)] maxLocals)) t := by
    intro t kt
    refine pre28 t ?_
    show Steps p.tables e below (T20.setTop (mkF m 23 #[.val (.long q0), .second, .val (.long q1), .second, .val (.int p2), .val (.int p3), .val (.int p4), .val (.int p5), .val (.ref b1), .val (.ref b5), .unset, .unset, .unset, .unset, .unset, .unset, .unset, .unset, .unset] [(.int (1 : Int32)), (.int p5)])) _
    refine XS.iand X20.here hx rfl (hb hby at_23) rfl ?_
    exact kt
  by_cases hc30 : (p5 &&& (1 : Int32)) = (0 : Int32)
  · obtain ⟨T31, h31, X31, e31, E31, A31, D31, -, st31⟩ := newO X20 hx hZ hown (hw _ (List.mem_of_getElem? (i := 44) rfl)) (hw _ (List.mem_of_getElem? (i := 11) rfl)) (hw _ (List.mem_of_getElem? (i := 12) rfl)) rfl (g := (mkF m 40 #[.val (.long q0), .second, .val (.long q1), .second, .val (.int p2), .val (.int p3), .val (.int p4), .val (.int p5), .val (.ref b1), .val (.ref b5), .val .null, .unset, .unset, .unset, .unset, .unset, .unset, .unset, .unset] [])) rfl (hb hby at_40) (by decide) (by decide)
    obtain ⟨b31, g31⟩ : ∃ z, z = T20.heap.size := ⟨_, rfl⟩
    rw [← g31] at A31 D31 st31
    have sz_b31 : h0.size ≤ b31 := Nat.le_trans k26.1 (Nat.le_of_eq g31.symm)
    have gn_b31 : n0 ≤ b31 := Nat.le_trans Z0 sz_b31
    have ne_b1_b31 : b1 ≠ b31 := Nat.ne_of_lt (Nat.lt_of_lt_of_le f24.lt (Nat.le_of_eq g31.symm))
    have ne_b5_b31 : b5 ≠ b31 := Nat.ne_of_lt (Nat.lt_of_lt_of_le c21_6.lt (Nat.le_of_eq g31.symm))
    have f32 := f22.ext E31
    have f33 := f23.ext E31
    have f34 := f24.ext E31
    have f35 := f25.ext E31
    have f36 := c21_0.ext E31
    have f37 := c21_1.ext E31
    have f38 := c21_2.ext E31
    have f39 := c21_3.ext E31
    have f40 := c21_4.ext E31
    have f41 := c21_5.ext E31
    have f42 := c21_6.ext E31
    have k43 := k26.ext E31
    have f44 : Fld Z h31 b31 "java/util/AbstractList" "modCount" "I" (.int (0 : Int32)) := D31 (Or.inl (hw _ (List.mem_of_getElem? (i := 30) rfl))) (ty := .int) (by decide)
    have f45 : Fld Z h31 b31 "java/util/ArrayList" "elementData" "[Ljava/lang/Object;" .null := D31 (Or.inl (hw _ (List.mem_of_getElem? (i := 33) rfl))) (ty := (.array (.object "java/lang/Object"))) (by decide)
    have zs46 : n0 ≤ h31.size := Nat.le_trans Z0 k43.1
    obtain ⟨_, _, ⟨T47, L47, k47, n47⟩, -, X47, ⟨Lc47, hQ47, l47, y47, z47⟩, st47⟩ := X31.specialBack hx (y := (⟨"java/util/ArrayList", "<init>", "()V"⟩ : MethodName)) rfl hown (mvT hZ (hw _ (List.mem_of_getElem? (i := 45) rfl))) (mvT hZ (hw _ (List.mem_of_getElem? (i := 14) rfl))) (mvT hZ (hw _ (List.mem_of_getElem? (i := 15) rfl))) (by decide) (backOf (W := 1) (own_rm_al l Z a0 hw [] b31 aS h31 n0 zs46 f32 A31 f44 f45 gn_b31) hZ (hw _ (List.mem_of_getElem? (i := 15) rfl)) (hw _ (List.mem_of_getElem? (i := 12) rfl)) (by decide) (by decide)) (g := (mkF m 44 #[.val (.long q0), .second, .val (.long q1), .second, .val (.int p2), .val (.int p3), .val (.int p4), .val (.int p5), .val (.ref b1), .val (.ref b5), .val .null, .unset, .unset, .unset, .unset, .unset, .unset, .unset, .unset] [(.ref b31), (.ref b31)])) rfl (by rw [hml]; rfl) (Steps.refl _) (a := b31) (argsL := []) (rest := [(.ref b31)]) (lenOf own_pd0 rfl) rfl (by show 2 * 0 + _ ≤ _; exact Nat.le_of_eq rfl) (hb hby at_44) (fun _ _ => ⟨rfl, e31, (by decide : 5 + 0 ≤ _), (by decide : 31 + 0 ≤ _)⟩)
    dsimp only [Pt.U, Pt.locs, Pt.cells, Pt.slots] at X47 l47 y47 z47 st47 hQ47
    rw [l47, (y47 : k47 = 5), (z47 : n47 = 31)] at X47
    clear l47 y47 z47
    obtain ⟨rfl, N48, K48⟩ := hQ47
    have f49 := own_sta_keep f32 K48 (own_pl_cons A31 all0)
    have f50 := f33.keep K48
    have f51 := f34.keep K48 (ninS ne_b1_b31 nin0)
    have f52 := f35.keep K48
    have f53 := f36.keep K48 (ninS ne_b5_b31 nin0)
    have f54 := f37.keep K48 (ninS ne_b5_b31 nin0)
    have f55 := f38.keep K48 (ninS ne_b5_b31 nin0)
    have f56 := f39.keep K48 (ninS ne_b5_b31 nin0)
    have f57 := f40.keep K48 (ninS ne_b5_b31 nin0)
    have f58 := f41.keep K48 (ninS ne_b5_b31 nin0)
    have f59 := f42.keep K48 (ninS ne_b5_b31 nin0)
    have f60 := A31.keep K48
    have k61 := k43.trans K48 (allS (Or.inr sz_b31) all0)
    have nf62 := Fr.app nf27 N48
    have pre63 : ∀ t, Steps p.tables e below (T47.setTop (mkF m 53 #[.val (.long q0), .second, .val (.long q1), .second, .val (.int p2), .val (.int p3), .val (.int p4), .val (.int p5), .val (.ref b1), .val (.ref b5), .val .null, .val (.ref b31), .unset, .unset, .unset, .unset, .unset, .unset, .unset] [(.int (p5 &&& (2 : Int32)))])) t → Steps p.tables e below (s₁.setTop (entryFrame m #[(.long q0), (.long q1), (.int p2), (.int p3), (.int p4), (.int p5)] maxLocals)) t := by
      intro t kt
      refine pre29 t ?_
      show Steps p.tables e below (T20.setTop (mkF m 24 #[.val (.long q0), .second, .val (.long q1), .second, .val (.int p2), .val (.int p3), .val (.int p4), .val (.int p5), .val (.ref b1), .val (.ref b5), .unset, .unset, .unset, .unset, .unset, .unset, .unset, .unset, .unset] [(.int (p5 &&& (1 : Int32)))])) _
      refine XS.ifYes X20.here hx rfl (pc0 := 24) (pc' := 37) rfl (hb hby at_24) rfl ((if0 _ _).trans (teq hc30).1) (by decide) (by decide) ?_
      show Steps p.tables e below (T20.setTop (mkF m 37 #[.val (.long q0), .second, .val (.long q1), .second, .val (.int p2), .val (.int p3), .val (.int p4), .val (.int p5), .val (.ref b1), .val (.ref b5), .unset, .unset, .unset, .unset, .unset, .unset, .unset, .unset, .unset] [])) _
      refine XS.aconstNull X20.here hx rfl (hb hby at_37) ?_
      show Steps p.tables e below (T20.setTop (mkF m 38 #[.val (.long q0), .second, .val (.long q1), .second, .val (.int p2), .val (.int p3), .val (.int p4), .val (.int p5), .val (.ref b1), .val (.ref b5), .unset, .unset, .unset, .unset, .unset, .unset, .unset, .unset, .unset] [.null])) _
      refine XS.astore X20.here hx rfl (hb hby at_38) rfl rfl (l' := #[.val (.long q0), .second, .val (.long q1), .second, .val (.int p2), .val (.int p3), .val (.int p4), .val (.int p5), .val (.ref b1), .val (.ref b5), .val .null, .unset, .unset, .unset, .unset, .unset, .unset, .unset, .unset]) rfl ?_
      show Steps p.tables e below (T20.setTop (mkF m 40 #[.val (.long q0), .second, .val (.long q1), .second, .val (.int p2), .val (.int p3), .val (.int p4), .val (.int p5), .val (.ref b1), .val (.ref b5), .val .null, .unset, .unset, .unset, .unset, .unset, .unset, .unset, .unset] [])) _
      refine st31 _ ?_
      show Steps p.tables e below (T31.setTop (mkF m 43 #[.val (.long q0), .second, .val (.long q1), .second, .val (.int p2), .val (.int p3), .val (.int p4), .val (.int p5), .val (.ref b1), .val (.ref b5), .val .null, .unset, .unset, .unset, .unset, .unset, .unset, .unset, .unset] [(.ref b31)])) _
      refine XS.dup X31.here hx rfl (hb hby at_43) rfl rfl ?_
      show Steps p.tables e below (T31.setTop (mkF m 44 #[.val (.long q0), .second, .val (.long q1), .second, .val (.int p2), .val (.int p3), .val (.int p4), .val (.int p5), .val (.ref b1), .val (.ref b5), .val .null, .unset, .unset, .unset, .unset, .unset, .unset, .unset, .unset] [(.ref b31), (.ref b31)])) _
      refine st47.trans ?_
      show Steps p.tables e below (T47.setTop (mkF m 47 #[.val (.long q0), .second, .val (.long q1), .second, .val (.int p2), .val (.int p3), .val (.int p4), .val (.int p5), .val (.ref b1), .val (.ref b5), .val .null, .unset, .unset, .unset, .unset, .unset, .unset, .unset, .unset] [(.ref b31)])) _
      refine XS.astore X47.here hx rfl (hb hby at_47) rfl rfl (l' := #[.val (.long q0), .second, .val (.long q1), .second, .val (.int p2), .val (.int p3), .val (.int p4), .val (.int p5), .val (.ref b1), .val (.ref b5), .val .null, .val (.ref b31), .unset, .unset, .unset, .unset, .unset, .unset, .unset]) rfl ?_
      show Steps p.tables e below (T47.setTop (mkF m 49 #[.val (.long q0), .second, .val (.long q1), .second, .val (.int p2), .val (.int p3), .val (.int p4), .val (.int p5), .val (.ref b1), .val (.ref b5), .val .null, .val (.ref b31), .unset, .unset, .unset, .unset, .unset, .unset, .unset] [])) _
      refine XS.iload X47.here hx rfl (hb hby at_49) rfl ?_
      show Steps p.tables e below (T47.setTop (mkF m 51 #[.val (.long q0), .second, .val (.long q1), .second, .val (.int p2), .val (.int p3), .val (.int p4), .val (.int p5), .val (.ref b1), .val (.ref b5), .val .null, .val (.ref b31), .unset, .unset, .unset, .unset, .unset, .unset, .unset] [(.int p5)])) _
      refine XS.iconst X47.here hx rfl (hb hby at_51) ?_
      show Steps p.tables e below (T47.setTop (mkF m 52 #[.val (.long q0), .second, .val (.long q1), .second, .val (.int p2), .val (.int p3), .val (.int p4), .val (.int p5), .val (.ref b1), .val (.ref b5), .val .null, .val (.ref b31), .unset, .unset, .unset, .unset, .unset, .unset, .unset] [(.int (2 : Int32)), (.int p5)])) _
      refine XS.iand X47.here hx rfl (hb hby at_52) rfl ?_
      exact kt
    by_cases hc64 : (p5 &&& (2 : Int32)) = (0 : Int32)
    · have zs65 : n0 ≤ T47.heap.size := Nat.le_trans Z0 k61.1
      obtain ⟨cq67, kq67, q67a, q67b, q67c⟩ := isOf hZ rfl f52
      obtain ⟨_, _, ⟨T66, L66, k66, n66⟩, -, X66, ⟨Lc66, hQ66, l66, y66, z66⟩, st66⟩ := X47.virtualBack hx (y := (⟨"com/example/interleave/interleave/check/Expansion", "tookIn", "(Ljava/util/List;JJI)V"⟩ : MethodName)) (z := (⟨"com/example/interleave/interleave/check/Expansion", "tookIn", "(Ljava/util/List;JJI)V"⟩ : MethodName)) hown (mvT hZ (hw _ (List.mem_of_getElem? (i := 46) rfl))) (mvT hZ (hw _ (List.mem_of_getElem? (i := 47) rfl))) (notFace_of_selects (args := #[]) (mvT hZ (hw _ (List.mem_of_getElem? (i := 49) rfl)))) (mvT hZ (hw _ (List.mem_of_getElem? (i := 49) rfl))) (mvT hZ (hw _ (List.mem_of_getElem? (i := 48) rfl))) (by decide) (backOf (W := 0) (own_rm_tkN l Z a0 hw [] b5 q0 q1 p2 .null (.long (0 : Int64)) (.long (0 : Int64)) (.int (0 : Int32)) p3 p4 b1 T47.heap n0 zs65 f52 f56 f57 f58 f59 f53 f54 f55 gn_b5) hZ (hw _ (List.mem_of_getElem? (i := 50) rfl)) (hw _ (List.mem_of_getElem? (i := 3) rfl)) (by decide) (by decide)) q67a q67c (g := (mkF m 71 #[.val (.long q0), .second, .val (.long q1), .second, .val (.int p2), .val (.int p3), .val (.int p4), .val (.int p5), .val (.ref b1), .val (.ref b5), .val .null, .val (.ref b31), .val (.int (0 : Int32)), .unset, .unset, .unset, .unset, .unset, .unset] [(.int p2), (.long q1), (.long q0), .null, (.ref b5)])) rfl (by rw [hml]; rfl) (Steps.refl _) (argsL := [.null, (.long q0), (.long q1), (.int p2)]) (rest := []) (lenOf own_pd2 rfl) rfl (by show 2 * 0 + _ ≤ _; exact Nat.le_of_eq rfl) (hb hby at_71) (fun _ _ => ⟨rfl, rfl, (by decide : 5 + 0 ≤ _), (by decide : 31 + 0 ≤ _)⟩)
      dsimp only [Pt.U, Pt.locs, Pt.cells, Pt.slots] at X66 l66 y66 z66 st66 hQ66
      rw [l66, (y66 : k66 = 5), (z66 : n66 = 31)] at X66
      clear l66 y66 z66
      obtain ⟨rfl, N68, K68, c68_0, c68_1, c68_2, c68_3, c68_4, c68_5, c68_6⟩ := hQ66
      have f69 := own_sta_keep f49 K68 (own_pl_cons f52 all0)
      have f70 := f50.keep K68
      have f71 := f51.keep K68 (ninS ne_b1_b5 nin0)
      have f72 := f52.keep K68
      have f73 := f60.keep K68
      have k74 := k61.trans K68 (allS (Or.inr sz_b5) all0)
      have nf75 := Fr.app nf62 N68
      have pre76 : ∀ t, Steps p.tables e below (T66.setTop (mkF m 79 #[.val (.long q0), .second, .val (.long q1), .second, .val (.int p2), .val (.int p3), .val (.int p4), .val (.int p5), .val (.ref b1), .val (.ref b5), .val .null, .val (.ref b31), .val (.int (0 : Int32)), .val .null, .unset, .unset, .unset, .unset, .unset] [(.long q0)])) t → Steps p.tables e below (s₁.setTop (entryFrame m #[(.long q0), (.long q1), (.int p2), (.int p3), (.int p4), (.int p5)] maxLocals)) t := by
        intro t kt
        refine pre63 t ?_
        show Steps p.tables e below (T47.setTop (mkF m 53 #[.val (.long q0), .second, .val (.long q1), .second, .val (.int p2), .val (.int p3), .val (.int p4), .val (.int p5), .val (.ref b1), .val (.ref b5), .val .null, .val (.ref b31), .unset, .unset, .unset, .unset, .unset, .unset, .unset] [(.int (p5 &&& (2 : Int32)))])) _
        refine XS.ifYes X47.here hx rfl (pc0 := 53) (pc' := 60) rfl (hb hby at_53) rfl ((if0 _ _).trans (teq hc64).1) (by decide) (by decide) ?_
        show Steps p.tables e below (T47.setTop (mkF m 60 #[.val (.long q0), .second, .val (.long q1), .second, .val (.int p2), .val (.int p3), .val (.int p4), .val (.int p5), .val (.ref b1), .val (.ref b5), .val .null, .val (.ref b31), .unset, .unset, .unset, .unset, .unset, .unset, .unset] [])) _
        refine XS.iconst X47.here hx rfl (hb hby at_60) ?_
        show Steps p.tables e below (T47.setTop (mkF m 61 #[.val (.long q0), .second, .val (.long q1), .second, .val (.int p2), .val (.int p3), .val (.int p4), .val (.int p5), .val (.ref b1), .val (.ref b5), .val .null, .val (.ref b31), .unset, .unset, .unset, .unset, .unset, .unset, .unset] [(.int (0 : Int32))])) _
        refine XS.istore X47.here hx rfl (hb hby at_61) rfl (l' := #[.val (.long q0), .second, .val (.long q1), .second, .val (.int p2), .val (.int p3), .val (.int p4), .val (.int p5), .val (.ref b1), .val (.ref b5), .val .null, .val (.ref b31), .val (.int (0 : Int32)), .unset, .unset, .unset, .unset, .unset, .unset]) rfl ?_
        show Steps p.tables e below (T47.setTop (mkF m 63 #[.val (.long q0), .second, .val (.long q1), .second, .val (.int p2), .val (.int p3), .val (.int p4), .val (.int p5), .val (.ref b1), .val (.ref b5), .val .null, .val (.ref b31), .val (.int (0 : Int32)), .unset, .unset, .unset, .unset, .unset, .unset] [])) _
        refine XS.aload X47.here hx rfl (hb hby at_63) rfl rfl ?_
        show Steps p.tables e below (T47.setTop (mkF m 65 #[.val (.long q0), .second, .val (.long q1), .second, .val (.int p2), .val (.int p3), .val (.int p4), .val (.int p5), .val (.ref b1), .val (.ref b5), .val .null, .val (.ref b31), .val (.int (0 : Int32)), .unset, .unset, .unset, .unset, .unset, .unset] [(.ref b5)])) _
        refine XS.aload X47.here hx rfl (hb hby at_65) rfl rfl ?_
        show Steps p.tables e below (T47.setTop (mkF m 67 #[.val (.long q0), .second, .val (.long q1), .second, .val (.int p2), .val (.int p3), .val (.int p4), .val (.int p5), .val (.ref b1), .val (.ref b5), .val .null, .val (.ref b31), .val (.int (0 : Int32)), .unset, .unset, .unset, .unset, .unset, .unset] [.null, (.ref b5)])) _
        refine XS.lloadN X47.here hx rfl (hb hby at_67) rfl ?_
        show Steps p.tables e below (T47.setTop (mkF m 68 #[.val (.long q0), .second, .val (.long q1), .second, .val (.int p2), .val (.int p3), .val (.int p4), .val (.int p5), .val (.ref b1), .val (.ref b5), .val .null, .val (.ref b31), .val (.int (0 : Int32)), .unset, .unset, .unset, .unset, .unset, .unset] [(.long q0), .null, (.ref b5)])) _
        refine XS.lloadN X47.here hx rfl (hb hby at_68) rfl ?_
        show Steps p.tables e below (T47.setTop (mkF m 69 #[.val (.long q0), .second, .val (.long q1), .second, .val (.int p2), .val (.int p3), .val (.int p4), .val (.int p5), .val (.ref b1), .val (.ref b5), .val .null, .val (.ref b31), .val (.int (0 : Int32)), .unset, .unset, .unset, .unset, .unset, .unset] [(.long q1), (.long q0), .null, (.ref b5)])) _
        refine XS.iload X47.here hx rfl (hb hby at_69) rfl ?_
        show Steps p.tables e below (T47.setTop (mkF m 71 #[.val (.long q0), .second, .val (.long q1), .second, .val (.int p2), .val (.int p3), .val (.int p4), .val (.int p5), .val (.ref b1), .val (.ref b5), .val .null, .val (.ref b31), .val (.int (0 : Int32)), .unset, .unset, .unset, .unset, .unset, .unset] [(.int p2), (.long q1), (.long q0), .null, (.ref b5)])) _
        refine st66.trans ?_
        show Steps p.tables e below (T66.setTop (mkF m 74 #[.val (.long q0), .second, .val (.long q1), .second, .val (.int p2), .val (.int p3), .val (.int p4), .val (.int p5), .val (.ref b1), .val (.ref b5), .val .null, .val (.ref b31), .val (.int (0 : Int32)), .unset, .unset, .unset, .unset, .unset, .unset] [])) _
        refine XS.aload X66.here hx rfl (hb hby at_74) rfl rfl ?_
        show Steps p.tables e below (T66.setTop (mkF m 76 #[.val (.long q0), .second, .val (.long q1), .second, .val (.int p2), .val (.int p3), .val (.int p4), .val (.int p5), .val (.ref b1), .val (.ref b5), .val .null, .val (.ref b31), .val (.int (0 : Int32)), .unset, .unset, .unset, .unset, .unset, .unset] [.null])) _
        refine XS.astore X66.here hx rfl (hb hby at_76) rfl rfl (l' := #[.val (.long q0), .second, .val (.long q1), .second, .val (.int p2), .val (.int p3), .val (.int p4), .val (.int p5), .val (.ref b1), .val (.ref b5), .val .null, .val (.ref b31), .val (.int (0 : Int32)), .val .null, .unset, .unset, .unset, .unset, .unset]) rfl ?_
        show Steps p.tables e below (T66.setTop (mkF m 78 #[.val (.long q0), .second, .val (.long q1), .second, .val (.int p2), .val (.int p3), .val (.int p4), .val (.int p5), .val (.ref b1), .val (.ref b5), .val .null, .val (.ref b31), .val (.int (0 : Int32)), .val .null, .unset, .unset, .unset, .unset, .unset] [])) _
        refine XS.lloadN X66.here hx rfl (hb hby at_78) rfl ?_
        exact kt
      have zs77 : n0 ≤ T66.heap.size := Nat.le_trans Z0 k74.1
      obtain ⟨cq79, kq79, q79a, q79b, q79c⟩ := isOf hZ rfl f72
      obtain ⟨_, _, ⟨T78, L78, k78, n78⟩, -, X78, ⟨Lc78, hQ78, l78, y78, z78⟩, st78⟩ := X66.virtualBack hx (y := (⟨"com/example/interleave/interleave/check/Expansion", "fresh", "()Ljava/util/List;"⟩ : MethodName)) (z := (⟨"com/example/interleave/interleave/check/Expansion", "fresh", "()Ljava/util/List;"⟩ : MethodName)) hown (mvT hZ (hw _ (List.mem_of_getElem? (i := 59) rfl))) (mvT hZ (hw _ (List.mem_of_getElem? (i := 60) rfl))) (notFace_of_selects (args := #[]) (mvT hZ (hw _ (List.mem_of_getElem? (i := 62) rfl)))) (mvT hZ (hw _ (List.mem_of_getElem? (i := 62) rfl))) (mvT hZ (hw _ (List.mem_of_getElem? (i := 61) rfl))) (by decide) (backOf (W := 0) (own_rm_gfN l Z a0 hw [] b5 T66.heap n0 zs77 c68_0) hZ (hw _ (List.mem_of_getElem? (i := 63) rfl)) (hw _ (List.mem_of_getElem? (i := 3) rfl)) (by decide) (by decide)) q79a q79c (g := (mkF m 120 #[.val (.long q0), .second, .val (.long q1), .second, .val (.int p2), .val (.int p3), .val (.int p4), .val (.int p5), .val (.ref b1), .val (.ref b5), .val .null, .val (.ref b31), .val (.int (0 : Int32)), .val .null, .val (.long q0), .second, .val (.long q1), .second, .val (.int p2)] [(.ref b5)])) rfl (by rw [hml]; rfl) (Steps.refl _) (argsL := []) (rest := []) (lenOf own_pd3 rfl) rfl (by show 2 * 0 + _ ≤ _; exact Nat.le_of_eq rfl) (hb hby at_120) (fun _ _ => ⟨rfl, rfl, (by decide : 5 + 0 ≤ _), (by decide : 31 + 0 ≤ _)⟩)
      dsimp only [Pt.U, Pt.locs, Pt.cells, Pt.slots] at X78 l78 y78 z78 st78 hQ78
      rw [l78, (y78 : k78 = 5), (z78 : n78 = 31)] at X78
      clear l78 y78 z78
      obtain ⟨rfl, N80, eq80⟩ := hQ78
      have nf81 := Fr.app nf75 N80
      have pre82 : ∀ t, Steps p.tables e below (T78.setTop (mkF m 130 #[.val (.long q0), .second, .val (.long q1), .second, .val (.int p2), .val (.int p3), .val (.int p4), .val (.int p5), .val (.ref b1), .val (.ref b5), .val .null, .val (.ref b31), .val (.int (0 : Int32)), .val .null, .val (.long q0), .second, .val (.long q1), .second, .val (.int p2)] [(.ref b5)])) t → Steps p.tables e below (s₁.setTop (entryFrame m #[(.long q0), (.long q1), (.int p2), (.int p3), (.int p4), (.int p5)] maxLocals)) t := by
        intro t kt
        refine pre76 t ?_
        show Steps p.tables e below (T66.setTop (mkF m 79 #[.val (.long q0), .second, .val (.long q1), .second, .val (.int p2), .val (.int p3), .val (.int p4), .val (.int p5), .val (.ref b1), .val (.ref b5), .val .null, .val (.ref b31), .val (.int (0 : Int32)), .val .null, .unset, .unset, .unset, .unset, .unset] [(.long q0)])) _
        refine XS.lstore X66.here hx rfl (hb hby at_79) rfl (l' := #[.val (.long q0), .second, .val (.long q1), .second, .val (.int p2), .val (.int p3), .val (.int p4), .val (.int p5), .val (.ref b1), .val (.ref b5), .val .null, .val (.ref b31), .val (.int (0 : Int32)), .val .null, .val (.long q0), .second, .unset, .unset, .unset]) rfl ?_
        show Steps p.tables e below (T66.setTop (mkF m 81 #[.val (.long q0), .second, .val (.long q1), .second, .val (.int p2), .val (.int p3), .val (.int p4), .val (.int p5), .val (.ref b1), .val (.ref b5), .val .null, .val (.ref b31), .val (.int (0 : Int32)), .val .null, .val (.long q0), .second, .unset, .unset, .unset] [])) _
        refine XS.lloadN X66.here hx rfl (hb hby at_81) rfl ?_
        show Steps p.tables e below (T66.setTop (mkF m 82 #[.val (.long q0), .second, .val (.long q1), .second, .val (.int p2), .val (.int p3), .val (.int p4), .val (.int p5), .val (.ref b1), .val (.ref b5), .val .null, .val (.ref b31), .val (.int (0 : Int32)), .val .null, .val (.long q0), .second, .unset, .unset, .unset] [(.long q1)])) _
        refine XS.lstore X66.here hx rfl (hb hby at_82) rfl (l' := #[.val (.long q0), .second, .val (.long q1), .second, .val (.int p2), .val (.int p3), .val (.int p4), .val (.int p5), .val (.ref b1), .val (.ref b5), .val .null, .val (.ref b31), .val (.int (0 : Int32)), .val .null, .val (.long q0), .second, .val (.long q1), .second, .unset]) rfl ?_
        show Steps p.tables e below (T66.setTop (mkF m 84 #[.val (.long q0), .second, .val (.long q1), .second, .val (.int p2), .val (.int p3), .val (.int p4), .val (.int p5), .val (.ref b1), .val (.ref b5), .val .null, .val (.ref b31), .val (.int (0 : Int32)), .val .null, .val (.long q0), .second, .val (.long q1), .second, .unset] [])) _
        refine XS.iload X66.here hx rfl (hb hby at_84) rfl ?_
        show Steps p.tables e below (T66.setTop (mkF m 86 #[.val (.long q0), .second, .val (.long q1), .second, .val (.int p2), .val (.int p3), .val (.int p4), .val (.int p5), .val (.ref b1), .val (.ref b5), .val .null, .val (.ref b31), .val (.int (0 : Int32)), .val .null, .val (.long q0), .second, .val (.long q1), .second, .unset] [(.int p2)])) _
        refine XS.istore X66.here hx rfl (hb hby at_86) rfl (l' := #[.val (.long q0), .second, .val (.long q1), .second, .val (.int p2), .val (.int p3), .val (.int p4), .val (.int p5), .val (.ref b1), .val (.ref b5), .val .null, .val (.ref b31), .val (.int (0 : Int32)), .val .null, .val (.long q0), .second, .val (.long q1), .second, .val (.int p2)]) rfl ?_
        show Steps p.tables e below (T66.setTop (mkF m 88 #[.val (.long q0), .second, .val (.long q1), .second, .val (.int p2), .val (.int p3), .val (.int p4), .val (.int p5), .val (.ref b1), .val (.ref b5), .val .null, .val (.ref b31), .val (.int (0 : Int32)), .val .null, .val (.long q0), .second, .val (.long q1), .second, .val (.int p2)] [])) _
        refine XS.iload X66.here hx rfl (hb hby at_88) rfl ?_
        show Steps p.tables e below (T66.setTop (mkF m 90 #[.val (.long q0), .second, .val (.long q1), .second, .val (.int p2), .val (.int p3), .val (.int p4), .val (.int p5), .val (.ref b1), .val (.ref b5), .val .null, .val (.ref b31), .val (.int (0 : Int32)), .val .null, .val (.long q0), .second, .val (.long q1), .second, .val (.int p2)] [(.int (0 : Int32))])) _
        refine XS.ifYes X66.here hx rfl (pc0 := 90) (pc' := 118) rfl (hb hby at_90) rfl ((if0 _ _).trans (teq (rfl : (0 : Int32) = (0 : Int32))).1) (by decide) (by decide) ?_
        show Steps p.tables e below (T66.setTop (mkF m 118 #[.val (.long q0), .second, .val (.long q1), .second, .val (.int p2), .val (.int p3), .val (.int p4), .val (.int p5), .val (.ref b1), .val (.ref b5), .val .null, .val (.ref b31), .val (.int (0 : Int32)), .val .null, .val (.long q0), .second, .val (.long q1), .second, .val (.int p2)] [])) _
        refine XS.aload X66.here hx rfl (hb hby at_118) rfl rfl ?_
        show Steps p.tables e below (T66.setTop (mkF m 120 #[.val (.long q0), .second, .val (.long q1), .second, .val (.int p2), .val (.int p3), .val (.int p4), .val (.int p5), .val (.ref b1), .val (.ref b5), .val .null, .val (.ref b31), .val (.int (0 : Int32)), .val .null, .val (.long q0), .second, .val (.long q1), .second, .val (.int p2)] [(.ref b5)])) _
        refine st78.trans ?_
        show Steps p.tables e below (T78.setTop (mkF m 123 #[.val (.long q0), .second, .val (.long q1), .second, .val (.int p2), .val (.int p3), .val (.int p4), .val (.int p5), .val (.ref b1), .val (.ref b5), .val .null, .val (.ref b31), .val (.int (0 : Int32)), .val .null, .val (.long q0), .second, .val (.long q1), .second, .val (.int p2)] [.null])) _
        refine XS.aload X78.here hx rfl (hb hby at_123) rfl rfl ?_
        show Steps p.tables e below (T78.setTop (mkF m 125 #[.val (.long q0), .second, .val (.long q1), .second, .val (.int p2), .val (.int p3), .val (.int p4), .val (.int p5), .val (.ref b1), .val (.ref b5), .val .null, .val (.ref b31), .val (.int (0 : Int32)), .val .null, .val (.long q0), .second, .val (.long q1), .second, .val (.int p2)] [.null, .null])) _
        refine Jvm.RoadKit.acmp (g := (mkF m 125 #[.val (.long q0), .second, .val (.long q1), .second, .val (.int p2), .val (.int p3), .val (.int p4), .val (.int p5), .val (.ref b1), .val (.ref b5), .val .null, .val (.ref b31), .val (.int (0 : Int32)), .val .null, .val (.long q0), .second, .val (.long q1), .second, .val (.int p2)] [.null, .null])) X78 hx rfl rfl rfl (pc0 := 125) (pc' := 128) (same := true) rfl (hb hby at_125) rfl (decide_eq_true rfl) (by decide) (by decide) ?_
        show Steps p.tables e below (T78.setTop (mkF m 128 #[.val (.long q0), .second, .val (.long q1), .second, .val (.int p2), .val (.int p3), .val (.int p4), .val (.int p5), .val (.ref b1), .val (.ref b5), .val .null, .val (.ref b31), .val (.int (0 : Int32)), .val .null, .val (.long q0), .second, .val (.long q1), .second, .val (.int p2)] [])) _
        refine XS.aload X78.here hx rfl (hb hby at_128) rfl rfl ?_
        exact kt
      have zs83 : n0 ≤ T66.heap.size := Nat.le_trans Z0 k74.1
      obtain ⟨cq85, kq85, q85a, q85b, q85c⟩ := isOf hZ eq80 f72
      obtain ⟨_, _, ⟨T84, L84, k84, n84⟩, -, X84, ⟨Lc84, hQ84, l84, y84, z84⟩, st84⟩ := X78.virtualBack hx (y := (⟨"com/example/interleave/interleave/check/Expansion", "generated", "()J"⟩ : MethodName)) (z := (⟨"com/example/interleave/interleave/check/Expansion", "generated", "()J"⟩ : MethodName)) hown (mvT hZ (hw _ (List.mem_of_getElem? (i := 64) rfl))) (mvT hZ (hw _ (List.mem_of_getElem? (i := 65) rfl))) (notFace_of_selects (args := #[]) (mvT hZ (hw _ (List.mem_of_getElem? (i := 67) rfl)))) (mvT hZ (hw _ (List.mem_of_getElem? (i := 67) rfl))) (mvT hZ (hw _ (List.mem_of_getElem? (i := 66) rfl))) (by decide) (backOf (W := 0) (own_rm_ggn l Z a0 hw [] b5 q0 T66.heap n0 zs83 c68_1) hZ (hw _ (List.mem_of_getElem? (i := 68) rfl)) (hw _ (List.mem_of_getElem? (i := 3) rfl)) (by decide) (by decide)) q85a q85c (g := (mkF m 130 #[.val (.long q0), .second, .val (.long q1), .second, .val (.int p2), .val (.int p3), .val (.int p4), .val (.int p5), .val (.ref b1), .val (.ref b5), .val .null, .val (.ref b31), .val (.int (0 : Int32)), .val .null, .val (.long q0), .second, .val (.long q1), .second, .val (.int p2)] [(.ref b5)])) rfl (by rw [hml]; rfl) (Steps.refl _) (argsL := []) (rest := []) (lenOf own_pd4 rfl) rfl (by show 2 * 0 + _ ≤ _; exact Nat.le_of_eq rfl) (hb hby at_130) (fun _ _ => ⟨rfl, eq80, (by decide : 5 + 0 ≤ _), (by decide : 31 + 0 ≤ _)⟩)
      dsimp only [Pt.U, Pt.locs, Pt.cells, Pt.slots] at X84 l84 y84 z84 st84 hQ84
      rw [l84, (y84 : k84 = 5), (z84 : n84 = 31)] at X84
      clear l84 y84 z84
      obtain ⟨rfl, N86, eq86⟩ := hQ84
      have nf87 := Fr.app nf81 N86
      have zs88 : n0 ≤ T66.heap.size := Nat.le_trans Z0 k74.1
      obtain ⟨cq90, kq90, q90a, q90b, q90c⟩ := isOf hZ eq86 f72
      obtain ⟨_, _, ⟨T89, L89, k89, n89⟩, -, X89, ⟨Lc89, hQ89, l89, y89, z89⟩, st89⟩ := X84.virtualBack hx (y := (⟨"com/example/interleave/interleave/check/Expansion", "distinct", "()J"⟩ : MethodName)) (z := (⟨"com/example/interleave/interleave/check/Expansion", "distinct", "()J"⟩ : MethodName)) hown (mvT hZ (hw _ (List.mem_of_getElem? (i := 69) rfl))) (mvT hZ (hw _ (List.mem_of_getElem? (i := 70) rfl))) (notFace_of_selects (args := #[]) (mvT hZ (hw _ (List.mem_of_getElem? (i := 72) rfl)))) (mvT hZ (hw _ (List.mem_of_getElem? (i := 72) rfl))) (mvT hZ (hw _ (List.mem_of_getElem? (i := 71) rfl))) (by decide) (backOf (W := 0) (own_rm_gdi l Z a0 hw [] b5 q1 T66.heap n0 zs88 c68_2) hZ (hw _ (List.mem_of_getElem? (i := 73) rfl)) (hw _ (List.mem_of_getElem? (i := 3) rfl)) (by decide) (by decide)) q90a q90c (g := (mkF m 141 #[.val (.long q0), .second, .val (.long q1), .second, .val (.int p2), .val (.int p3), .val (.int p4), .val (.int p5), .val (.ref b1), .val (.ref b5), .val .null, .val (.ref b31), .val (.int (0 : Int32)), .val .null, .val (.long q0), .second, .val (.long q1), .second, .val (.int p2)] [(.ref b5)])) rfl (by rw [hml]; rfl) (Steps.refl _) (argsL := []) (rest := []) (lenOf own_pd4 rfl) rfl (by show 2 * 0 + _ ≤ _; exact Nat.le_of_eq rfl) (hb hby at_141) (fun _ _ => ⟨rfl, eq86, (by decide : 5 + 0 ≤ _), (by decide : 31 + 0 ≤ _)⟩)
      dsimp only [Pt.U, Pt.locs, Pt.cells, Pt.slots] at X89 l89 y89 z89 st89 hQ89
      rw [l89, (y89 : k89 = 5), (z89 : n89 = 31)] at X89
      clear l89 y89 z89
      obtain ⟨rfl, N91, eq91⟩ := hQ89
      have nf92 := Fr.app nf87 N91
      have zs93 : n0 ≤ T66.heap.size := Nat.le_trans Z0 k74.1
      obtain ⟨cq95, kq95, q95a, q95b, q95c⟩ := isOf hZ eq91 f72
      obtain ⟨_, _, ⟨T94, L94, k94, n94⟩, -, X94, ⟨Lc94, hQ94, l94, y94, z94⟩, st94⟩ := X89.virtualBack hx (y := (⟨"com/example/interleave/interleave/check/Expansion", "depth", "()I"⟩ : MethodName)) (z := (⟨"com/example/interleave/interleave/check/Expansion", "depth", "()I"⟩ : MethodName)) hown (mvT hZ (hw _ (List.mem_of_getElem? (i := 74) rfl))) (mvT hZ (hw _ (List.mem_of_getElem? (i := 75) rfl))) (notFace_of_selects (args := #[]) (mvT hZ (hw _ (List.mem_of_getElem? (i := 77) rfl)))) (mvT hZ (hw _ (List.mem_of_getElem? (i := 77) rfl))) (mvT hZ (hw _ (List.mem_of_getElem? (i := 76) rfl))) (by decide) (backOf (W := 0) (own_rm_gde l Z a0 hw [] b5 p2 T66.heap n0 zs93 c68_3) hZ (hw _ (List.mem_of_getElem? (i := 78) rfl)) (hw _ (List.mem_of_getElem? (i := 3) rfl)) (by decide) (by decide)) q95a q95c (g := (mkF m 152 #[.val (.long q0), .second, .val (.long q1), .second, .val (.int p2), .val (.int p3), .val (.int p4), .val (.int p5), .val (.ref b1), .val (.ref b5), .val .null, .val (.ref b31), .val (.int (0 : Int32)), .val .null, .val (.long q0), .second, .val (.long q1), .second, .val (.int p2)] [(.ref b5)])) rfl (by rw [hml]; rfl) (Steps.refl _) (argsL := []) (rest := []) (lenOf own_pd5 rfl) rfl (by show 2 * 0 + _ ≤ _; exact Nat.le_of_eq rfl) (hb hby at_152) (fun _ _ => ⟨rfl, eq91, (by decide : 5 + 0 ≤ _), (by decide : 31 + 0 ≤ _)⟩)
      dsimp only [Pt.U, Pt.locs, Pt.cells, Pt.slots] at X94 l94 y94 z94 st94 hQ94
      rw [l94, (y94 : k94 = 5), (z94 : n94 = 31)] at X94
      clear l94 y94 z94
      obtain ⟨rfl, N96, eq96⟩ := hQ94
      have nf97 := Fr.app nf92 N96
      have pre98 : ∀ t, Steps p.tables e below (T94.setTop (mkF m 157 #[.val (.long q0), .second, .val (.long q1), .second, .val (.int p2), .val (.int p3), .val (.int p4), .val (.int p5), .val (.ref b1), .val (.ref b5), .val .null, .val (.ref b31), .val (.int (0 : Int32)), .val .null, .val (.long q0), .second, .val (.long q1), .second, .val (.int p2)] [(.int p2), (.int p2)])) t → Steps p.tables e below (s₁.setTop (entryFrame m #[(.long q0), (.long q1), (.int p2), (.int p3), (.int p4), (.int p5)] maxLocals)) t := by
        intro t kt
        refine pre82 t ?_
        show Steps p.tables e below (T78.setTop (mkF m 130 #[.val (.long q0), .second, .val (.long q1), .second, .val (.int p2), .val (.int p3), .val (.int p4), .val (.int p5), .val (.ref b1), .val (.ref b5), .val .null, .val (.ref b31), .val (.int (0 : Int32)), .val .null, .val (.long q0), .second, .val (.long q1), .second, .val (.int p2)] [(.ref b5)])) _
        refine st84.trans ?_
        show Steps p.tables e below (T84.setTop (mkF m 133 #[.val (.long q0), .second, .val (.long q1), .second, .val (.int p2), .val (.int p3), .val (.int p4), .val (.int p5), .val (.ref b1), .val (.ref b5), .val .null, .val (.ref b31), .val (.int (0 : Int32)), .val .null, .val (.long q0), .second, .val (.long q1), .second, .val (.int p2)] [(.long q0)])) _
        refine XS.lload X84.here hx rfl (hb hby at_133) rfl ?_
        show Steps p.tables e below (T84.setTop (mkF m 135 #[.val (.long q0), .second, .val (.long q1), .second, .val (.int p2), .val (.int p3), .val (.int p4), .val (.int p5), .val (.ref b1), .val (.ref b5), .val .null, .val (.ref b31), .val (.int (0 : Int32)), .val .null, .val (.long q0), .second, .val (.long q1), .second, .val (.int p2)] [(.long q0), (.long q0)])) _
        refine XS.lcmp X84.here hx rfl (hb hby at_135) rfl ?_
        show Steps p.tables e below (T84.setTop (mkF m 136 #[.val (.long q0), .second, .val (.long q1), .second, .val (.int p2), .val (.int p3), .val (.int p4), .val (.int p5), .val (.ref b1), .val (.ref b5), .val .null, .val (.ref b31), .val (.int (0 : Int32)), .val .null, .val (.long q0), .second, .val (.long q1), .second, .val (.int p2)] [(.int (lcmpW q0 q0))])) _
        refine XS.ifNo X84.here hx rfl (hb hby at_136) rfl ((if0 _ _).trans (teq (own_lc _)).2) ?_
        show Steps p.tables e below (T84.setTop (mkF m 139 #[.val (.long q0), .second, .val (.long q1), .second, .val (.int p2), .val (.int p3), .val (.int p4), .val (.int p5), .val (.ref b1), .val (.ref b5), .val .null, .val (.ref b31), .val (.int (0 : Int32)), .val .null, .val (.long q0), .second, .val (.long q1), .second, .val (.int p2)] [])) _
        refine XS.aload X84.here hx rfl (hb hby at_139) rfl rfl ?_
        show Steps p.tables e below (T84.setTop (mkF m 141 #[.val (.long q0), .second, .val (.long q1), .second, .val (.int p2), .val (.int p3), .val (.int p4), .val (.int p5), .val (.ref b1), .val (.ref b5), .val .null, .val (.ref b31), .val (.int (0 : Int32)), .val .null, .val (.long q0), .second, .val (.long q1), .second, .val (.int p2)] [(.ref b5)])) _
        refine st89.trans ?_
        show Steps p.tables e below (T89.setTop (mkF m 144 #[.val (.long q0), .second, .val (.long q1), .second, .val (.int p2), .val (.int p3), .val (.int p4), .val (.int p5), .val (.ref b1), .val (.ref b5), .val .null, .val (.ref b31), .val (.int (0 : Int32)), .val .null, .val (.long q0), .second, .val (.long q1), .second, .val (.int p2)] [(.long q1)])) _
        refine XS.lload X89.here hx rfl (hb hby at_144) rfl ?_
        show Steps p.tables e below (T89.setTop (mkF m 146 #[.val (.long q0), .second, .val (.long q1), .second, .val (.int p2), .val (.int p3), .val (.int p4), .val (.int p5), .val (.ref b1), .val (.ref b5), .val .null, .val (.ref b31), .val (.int (0 : Int32)), .val .null, .val (.long q0), .second, .val (.long q1), .second, .val (.int p2)] [(.long q1), (.long q1)])) _
        refine XS.lcmp X89.here hx rfl (hb hby at_146) rfl ?_
        show Steps p.tables e below (T89.setTop (mkF m 147 #[.val (.long q0), .second, .val (.long q1), .second, .val (.int p2), .val (.int p3), .val (.int p4), .val (.int p5), .val (.ref b1), .val (.ref b5), .val .null, .val (.ref b31), .val (.int (0 : Int32)), .val .null, .val (.long q0), .second, .val (.long q1), .second, .val (.int p2)] [(.int (lcmpW q1 q1))])) _
        refine XS.ifNo X89.here hx rfl (hb hby at_147) rfl ((if0 _ _).trans (teq (own_lc _)).2) ?_
        show Steps p.tables e below (T89.setTop (mkF m 150 #[.val (.long q0), .second, .val (.long q1), .second, .val (.int p2), .val (.int p3), .val (.int p4), .val (.int p5), .val (.ref b1), .val (.ref b5), .val .null, .val (.ref b31), .val (.int (0 : Int32)), .val .null, .val (.long q0), .second, .val (.long q1), .second, .val (.int p2)] [])) _
        refine XS.aload X89.here hx rfl (hb hby at_150) rfl rfl ?_
        show Steps p.tables e below (T89.setTop (mkF m 152 #[.val (.long q0), .second, .val (.long q1), .second, .val (.int p2), .val (.int p3), .val (.int p4), .val (.int p5), .val (.ref b1), .val (.ref b5), .val .null, .val (.ref b31), .val (.int (0 : Int32)), .val .null, .val (.long q0), .second, .val (.long q1), .second, .val (.int p2)] [(.ref b5)])) _
        refine st94.trans ?_
        show Steps p.tables e below (T94.setTop (mkF m 155 #[.val (.long q0), .second, .val (.long q1), .second, .val (.int p2), .val (.int p3), .val (.int p4), .val (.int p5), .val (.ref b1), .val (.ref b5), .val .null, .val (.ref b31), .val (.int (0 : Int32)), .val .null, .val (.long q0), .second, .val (.long q1), .second, .val (.int p2)] [(.int p2)])) _
        refine XS.iload X94.here hx rfl (hb hby at_155) rfl ?_
        exact kt
      have zs99 : n0 ≤ T66.heap.size := Nat.le_trans Z0 k74.1
      obtain ⟨cq101, kq101, q101a, q101b, q101c⟩ := isOf hZ eq96 f72
      obtain ⟨_, _, ⟨T100, L100, k100, n100⟩, -, X100, ⟨Lc100, hQ100, l100, y100, z100⟩, st100⟩ := X94.virtualBack hx (y := (⟨"com/example/interleave/interleave/check/Expansion", "sourceId", "()I"⟩ : MethodName)) (z := (⟨"com/example/interleave/interleave/check/Expansion", "sourceId", "()I"⟩ : MethodName)) hown (mvT hZ (hw _ (List.mem_of_getElem? (i := 79) rfl))) (mvT hZ (hw _ (List.mem_of_getElem? (i := 80) rfl))) (notFace_of_selects (args := #[]) (mvT hZ (hw _ (List.mem_of_getElem? (i := 82) rfl)))) (mvT hZ (hw _ (List.mem_of_getElem? (i := 82) rfl))) (mvT hZ (hw _ (List.mem_of_getElem? (i := 81) rfl))) (by decide) (backOf (W := 0) (own_rm_gsi l Z a0 hw [] b5 p3 T66.heap n0 zs99 c68_4) hZ (hw _ (List.mem_of_getElem? (i := 83) rfl)) (hw _ (List.mem_of_getElem? (i := 3) rfl)) (by decide) (by decide)) q101a q101c (g := (mkF m 162 #[.val (.long q0), .second, .val (.long q1), .second, .val (.int p2), .val (.int p3), .val (.int p4), .val (.int p5), .val (.ref b1), .val (.ref b5), .val .null, .val (.ref b31), .val (.int (0 : Int32)), .val .null, .val (.long q0), .second, .val (.long q1), .second, .val (.int p2)] [(.ref b5)])) rfl (by rw [hml]; rfl) (Steps.refl _) (argsL := []) (rest := []) (lenOf own_pd5 rfl) rfl (by show 2 * 0 + _ ≤ _; exact Nat.le_of_eq rfl) (hb hby at_162) (fun _ _ => ⟨rfl, eq96, (by decide : 5 + 0 ≤ _), (by decide : 31 + 0 ≤ _)⟩)
      dsimp only [Pt.U, Pt.locs, Pt.cells, Pt.slots] at X100 l100 y100 z100 st100 hQ100
      rw [l100, (y100 : k100 = 5), (z100 : n100 = 31)] at X100
      clear l100 y100 z100
      obtain ⟨rfl, N102, eq102⟩ := hQ100
      have nf103 := Fr.app nf97 N102
      have zs104 : n0 ≤ T66.heap.size := Nat.le_trans Z0 k74.1
      obtain ⟨cq106, kq106, q106a, q106b, q106c⟩ := isOf hZ eq102 f72
      obtain ⟨_, _, ⟨T105, L105, k105, n105⟩, -, X105, ⟨Lc105, hQ105, l105, y105, z105⟩, st105⟩ := X100.virtualBack hx (y := (⟨"com/example/interleave/interleave/check/Expansion", "sourceParent", "()I"⟩ : MethodName)) (z := (⟨"com/example/interleave/interleave/check/Expansion", "sourceParent", "()I"⟩ : MethodName)) hown (mvT hZ (hw _ (List.mem_of_getElem? (i := 84) rfl))) (mvT hZ (hw _ (List.mem_of_getElem? (i := 85) rfl))) (notFace_of_selects (args := #[]) (mvT hZ (hw _ (List.mem_of_getElem? (i := 87) rfl)))) (mvT hZ (hw _ (List.mem_of_getElem? (i := 87) rfl))) (mvT hZ (hw _ (List.mem_of_getElem? (i := 86) rfl))) (by decide) (backOf (W := 0) (own_rm_gsp l Z a0 hw [] b5 p4 T66.heap n0 zs104 c68_5) hZ (hw _ (List.mem_of_getElem? (i := 88) rfl)) (hw _ (List.mem_of_getElem? (i := 3) rfl)) (by decide) (by decide)) q106a q106c (g := (mkF m 172 #[.val (.long q0), .second, .val (.long q1), .second, .val (.int p2), .val (.int p3), .val (.int p4), .val (.int p5), .val (.ref b1), .val (.ref b5), .val .null, .val (.ref b31), .val (.int (0 : Int32)), .val .null, .val (.long q0), .second, .val (.long q1), .second, .val (.int p2)] [(.ref b5)])) rfl (by rw [hml]; rfl) (Steps.refl _) (argsL := []) (rest := []) (lenOf own_pd5 rfl) rfl (by show 2 * 0 + _ ≤ _; exact Nat.le_of_eq rfl) (hb hby at_172) (fun _ _ => ⟨rfl, eq102, (by decide : 5 + 0 ≤ _), (by decide : 31 + 0 ≤ _)⟩)
      dsimp only [Pt.U, Pt.locs, Pt.cells, Pt.slots] at X105 l105 y105 z105 st105 hQ105
      rw [l105, (y105 : k105 = 5), (z105 : n105 = 31)] at X105
      clear l105 y105 z105
      obtain ⟨rfl, N107, eq107⟩ := hQ105
      have nf108 := Fr.app nf103 N107
      have zs109 : n0 ≤ T66.heap.size := Nat.le_trans Z0 k74.1
      obtain ⟨cq111, kq111, q111a, q111b, q111c⟩ := isOf hZ eq107 f72
      obtain ⟨_, _, ⟨T110, L110, k110, n110⟩, -, X110, ⟨Lc110, hQ110, l110, y110, z110⟩, st110⟩ := X105.virtualBack hx (y := (⟨"com/example/interleave/interleave/check/Expansion", "sourceBytes", "()[B"⟩ : MethodName)) (z := (⟨"com/example/interleave/interleave/check/Expansion", "sourceBytes", "()[B"⟩ : MethodName)) hown (mvT hZ (hw _ (List.mem_of_getElem? (i := 89) rfl))) (mvT hZ (hw _ (List.mem_of_getElem? (i := 90) rfl))) (notFace_of_selects (args := #[]) (mvT hZ (hw _ (List.mem_of_getElem? (i := 92) rfl)))) (mvT hZ (hw _ (List.mem_of_getElem? (i := 92) rfl))) (mvT hZ (hw _ (List.mem_of_getElem? (i := 91) rfl))) (by decide) (backOf (W := 0) (own_rm_gsb l Z a0 hw [] b5 b1 T66.heap n0 zs109 c68_6) hZ (hw _ (List.mem_of_getElem? (i := 93) rfl)) (hw _ (List.mem_of_getElem? (i := 3) rfl)) (by decide) (by decide)) q111a q111c (g := (mkF m 182 #[.val (.long q0), .second, .val (.long q1), .second, .val (.int p2), .val (.int p3), .val (.int p4), .val (.int p5), .val (.ref b1), .val (.ref b5), .val .null, .val (.ref b31), .val (.int (0 : Int32)), .val .null, .val (.long q0), .second, .val (.long q1), .second, .val (.int p2)] [(.ref b5)])) rfl (by rw [hml]; rfl) (Steps.refl _) (argsL := []) (rest := []) (lenOf own_pd6 rfl) rfl (by show 2 * 0 + _ ≤ _; exact Nat.le_of_eq rfl) (hb hby at_182) (fun _ _ => ⟨rfl, eq107, (by decide : 5 + 0 ≤ _), (by decide : 31 + 0 ≤ _)⟩)
      dsimp only [Pt.U, Pt.locs, Pt.cells, Pt.slots] at X110 l110 y110 z110 st110 hQ110
      rw [l110, (y110 : k110 = 5), (z110 : n110 = 31)] at X110
      clear l110 y110 z110
      obtain ⟨rfl, N112, eq112⟩ := hQ110
      have nf113 := Fr.app nf108 N112
      have pre114 : ∀ t, Steps p.tables e below (T110.setTop (mkF m 187 #[.val (.long q0), .second, .val (.long q1), .second, .val (.int p2), .val (.int p3), .val (.int p4), .val (.int p5), .val (.ref b1), .val (.ref b5), .val .null, .val (.ref b31), .val (.int (0 : Int32)), .val .null, .val (.long q0), .second, .val (.long q1), .second, .val (.int p2)] [(.ref b1), (.ref b1)])) t → Steps p.tables e below (s₁.setTop (entryFrame m #[(.long q0), (.long q1), (.int p2), (.int p3), (.int p4), (.int p5)] maxLocals)) t := by
        intro t kt
        refine pre98 t ?_
        show Steps p.tables e below (T94.setTop (mkF m 157 #[.val (.long q0), .second, .val (.long q1), .second, .val (.int p2), .val (.int p3), .val (.int p4), .val (.int p5), .val (.ref b1), .val (.ref b5), .val .null, .val (.ref b31), .val (.int (0 : Int32)), .val .null, .val (.long q0), .second, .val (.long q1), .second, .val (.int p2)] [(.int p2), (.int p2)])) _
        refine XS.icmpNo X94.here hx rfl (hb hby at_157) rfl (teq (rfl : p2 = p2)).2 ?_
        show Steps p.tables e below (T94.setTop (mkF m 160 #[.val (.long q0), .second, .val (.long q1), .second, .val (.int p2), .val (.int p3), .val (.int p4), .val (.int p5), .val (.ref b1), .val (.ref b5), .val .null, .val (.ref b31), .val (.int (0 : Int32)), .val .null, .val (.long q0), .second, .val (.long q1), .second, .val (.int p2)] [])) _
        refine XS.aload X94.here hx rfl (hb hby at_160) rfl rfl ?_
        show Steps p.tables e below (T94.setTop (mkF m 162 #[.val (.long q0), .second, .val (.long q1), .second, .val (.int p2), .val (.int p3), .val (.int p4), .val (.int p5), .val (.ref b1), .val (.ref b5), .val .null, .val (.ref b31), .val (.int (0 : Int32)), .val .null, .val (.long q0), .second, .val (.long q1), .second, .val (.int p2)] [(.ref b5)])) _
        refine st100.trans ?_
        show Steps p.tables e below (T100.setTop (mkF m 165 #[.val (.long q0), .second, .val (.long q1), .second, .val (.int p2), .val (.int p3), .val (.int p4), .val (.int p5), .val (.ref b1), .val (.ref b5), .val .null, .val (.ref b31), .val (.int (0 : Int32)), .val .null, .val (.long q0), .second, .val (.long q1), .second, .val (.int p2)] [(.int p3)])) _
        refine XS.iload X100.here hx rfl (hb hby at_165) rfl ?_
        show Steps p.tables e below (T100.setTop (mkF m 167 #[.val (.long q0), .second, .val (.long q1), .second, .val (.int p2), .val (.int p3), .val (.int p4), .val (.int p5), .val (.ref b1), .val (.ref b5), .val .null, .val (.ref b31), .val (.int (0 : Int32)), .val .null, .val (.long q0), .second, .val (.long q1), .second, .val (.int p2)] [(.int p3), (.int p3)])) _
        refine XS.icmpNo X100.here hx rfl (hb hby at_167) rfl (teq (rfl : p3 = p3)).2 ?_
        show Steps p.tables e below (T100.setTop (mkF m 170 #[.val (.long q0), .second, .val (.long q1), .second, .val (.int p2), .val (.int p3), .val (.int p4), .val (.int p5), .val (.ref b1), .val (.ref b5), .val .null, .val (.ref b31), .val (.int (0 : Int32)), .val .null, .val (.long q0), .second, .val (.long q1), .second, .val (.int p2)] [])) _
        refine XS.aload X100.here hx rfl (hb hby at_170) rfl rfl ?_
        show Steps p.tables e below (T100.setTop (mkF m 172 #[.val (.long q0), .second, .val (.long q1), .second, .val (.int p2), .val (.int p3), .val (.int p4), .val (.int p5), .val (.ref b1), .val (.ref b5), .val .null, .val (.ref b31), .val (.int (0 : Int32)), .val .null, .val (.long q0), .second, .val (.long q1), .second, .val (.int p2)] [(.ref b5)])) _
        refine st105.trans ?_
        show Steps p.tables e below (T105.setTop (mkF m 175 #[.val (.long q0), .second, .val (.long q1), .second, .val (.int p2), .val (.int p3), .val (.int p4), .val (.int p5), .val (.ref b1), .val (.ref b5), .val .null, .val (.ref b31), .val (.int (0 : Int32)), .val .null, .val (.long q0), .second, .val (.long q1), .second, .val (.int p2)] [(.int p4)])) _
        refine XS.iload X105.here hx rfl (hb hby at_175) rfl ?_
        show Steps p.tables e below (T105.setTop (mkF m 177 #[.val (.long q0), .second, .val (.long q1), .second, .val (.int p2), .val (.int p3), .val (.int p4), .val (.int p5), .val (.ref b1), .val (.ref b5), .val .null, .val (.ref b31), .val (.int (0 : Int32)), .val .null, .val (.long q0), .second, .val (.long q1), .second, .val (.int p2)] [(.int p4), (.int p4)])) _
        refine XS.icmpNo X105.here hx rfl (hb hby at_177) rfl (teq (rfl : p4 = p4)).2 ?_
        show Steps p.tables e below (T105.setTop (mkF m 180 #[.val (.long q0), .second, .val (.long q1), .second, .val (.int p2), .val (.int p3), .val (.int p4), .val (.int p5), .val (.ref b1), .val (.ref b5), .val .null, .val (.ref b31), .val (.int (0 : Int32)), .val .null, .val (.long q0), .second, .val (.long q1), .second, .val (.int p2)] [])) _
        refine XS.aload X105.here hx rfl (hb hby at_180) rfl rfl ?_
        show Steps p.tables e below (T105.setTop (mkF m 182 #[.val (.long q0), .second, .val (.long q1), .second, .val (.int p2), .val (.int p3), .val (.int p4), .val (.int p5), .val (.ref b1), .val (.ref b5), .val .null, .val (.ref b31), .val (.int (0 : Int32)), .val .null, .val (.long q0), .second, .val (.long q1), .second, .val (.int p2)] [(.ref b5)])) _
        refine st110.trans ?_
        show Steps p.tables e below (T110.setTop (mkF m 185 #[.val (.long q0), .second, .val (.long q1), .second, .val (.int p2), .val (.int p3), .val (.int p4), .val (.int p5), .val (.ref b1), .val (.ref b5), .val .null, .val (.ref b31), .val (.int (0 : Int32)), .val .null, .val (.long q0), .second, .val (.long q1), .second, .val (.int p2)] [(.ref b1)])) _
        refine XS.aload X110.here hx rfl (hb hby at_185) rfl rfl ?_
        exact kt
      have pre115 : ∀ t, Steps p.tables e below (T110.setTop (mkF m 195 #[.val (.long q0), .second, .val (.long q1), .second, .val (.int p2), .val (.int p3), .val (.int p4), .val (.int p5), .val (.ref b1), .val (.ref b5), .val .null, .val (.ref b31), .val (.int (0 : Int32)), .val .null, .val (.long q0), .second, .val (.long q1), .second, .val (.int p2)] [(.int (1 : Int32))])) t → Steps p.tables e below (s₁.setTop (entryFrame m #[(.long q0), (.long q1), (.int p2), (.int p3), (.int p4), (.int p5)] maxLocals)) t := by
        intro t kt
        refine pre114 t ?_
        show Steps p.tables e below (T110.setTop (mkF m 187 #[.val (.long q0), .second, .val (.long q1), .second, .val (.int p2), .val (.int p3), .val (.int p4), .val (.int p5), .val (.ref b1), .val (.ref b5), .val .null, .val (.ref b31), .val (.int (0 : Int32)), .val .null, .val (.long q0), .second, .val (.long q1), .second, .val (.int p2)] [(.ref b1), (.ref b1)])) _
        refine Jvm.RoadKit.acmp (g := (mkF m 187 #[.val (.long q0), .second, .val (.long q1), .second, .val (.int p2), .val (.int p3), .val (.int p4), .val (.int p5), .val (.ref b1), .val (.ref b5), .val .null, .val (.ref b31), .val (.int (0 : Int32)), .val .null, .val (.long q0), .second, .val (.long q1), .second, .val (.int p2)] [(.ref b1), (.ref b1)])) X110 hx rfl rfl rfl (pc0 := 187) (pc' := 190) (same := true) rfl (hb hby at_187) rfl (decide_eq_true rfl) (by decide) (by decide) ?_
        show Steps p.tables e below (T110.setTop (mkF m 190 #[.val (.long q0), .second, .val (.long q1), .second, .val (.int p2), .val (.int p3), .val (.int p4), .val (.int p5), .val (.ref b1), .val (.ref b5), .val .null, .val (.ref b31), .val (.int (0 : Int32)), .val .null, .val (.long q0), .second, .val (.long q1), .second, .val (.int p2)] [])) _
        refine XS.iconst X110.here hx rfl (hb hby at_190) ?_
        show Steps p.tables e below (T110.setTop (mkF m 191 #[.val (.long q0), .second, .val (.long q1), .second, .val (.int p2), .val (.int p3), .val (.int p4), .val (.int p5), .val (.ref b1), .val (.ref b5), .val .null, .val (.ref b31), .val (.int (0 : Int32)), .val .null, .val (.long q0), .second, .val (.long q1), .second, .val (.int p2)] [(.int (1 : Int32))])) _
        refine XS.goto X110.here hx rfl (pc0 := 191) (pc' := 195) rfl (hb hby at_191) (by decide) (by decide) ?_
        exact kt
      obtain ⟨fs, hr, hrun, hended, hW, hsame⟩ := X110.leave (v := some (.int (1 : Int32))) (fun h => by rw [Bd.returns] at h; cases h)
      refine ⟨_, _, pre115 _ ?_, hrun, hended, _, _, rfl, ?_, ⟨_, rfl⟩, hW, hsame.mono (by decide) (by decide)⟩
      · show Steps p.tables e below (T110.setTop (mkF m 195 #[.val (.long q0), .second, .val (.long q1), .second, .val (.int p2), .val (.int p3), .val (.int p4), .val (.int p5), .val (.ref b1), .val (.ref b5), .val .null, .val (.ref b31), .val (.int (0 : Int32)), .val .null, .val (.long q0), .second, .val (.long q1), .second, .val (.int p2)] [(.int (1 : Int32))])) _
        exact retN X110 hx (t := .boolean) Bd.returns (by simp) (hb hby at_195) hr
      · show own_Q_law Z q0 q1 p2 p3 p4 p5 aS h0 n0 (some (.int (1 : Int32))) T110.heap _
        rw [eq112]
        exact ⟨rfl, nf113⟩
    · have zs116 : n0 ≤ T47.heap.size := Nat.le_trans Z0 k61.1
      obtain ⟨cq118, kq118, q118a, q118b, q118c⟩ := isOf hZ rfl f52
      obtain ⟨_, _, ⟨T117, L117, k117, n117⟩, -, X117, ⟨Lc117, hQ117, l117, y117, z117⟩, st117⟩ := X47.virtualBack hx (y := (⟨"com/example/interleave/interleave/check/Expansion", "tookIn", "(Ljava/util/List;JJI)V"⟩ : MethodName)) (z := (⟨"com/example/interleave/interleave/check/Expansion", "tookIn", "(Ljava/util/List;JJI)V"⟩ : MethodName)) hown (mvT hZ (hw _ (List.mem_of_getElem? (i := 46) rfl))) (mvT hZ (hw _ (List.mem_of_getElem? (i := 47) rfl))) (notFace_of_selects (args := #[]) (mvT hZ (hw _ (List.mem_of_getElem? (i := 49) rfl)))) (mvT hZ (hw _ (List.mem_of_getElem? (i := 49) rfl))) (mvT hZ (hw _ (List.mem_of_getElem? (i := 48) rfl))) (by decide) (backOf (W := 0) (own_rm_tkN l Z a0 hw [] b5 q0 q1 p2 .null (.long (0 : Int64)) (.long (0 : Int64)) (.int (0 : Int32)) p3 p4 b1 T47.heap n0 zs116 f52 f56 f57 f58 f59 f53 f54 f55 gn_b5) hZ (hw _ (List.mem_of_getElem? (i := 50) rfl)) (hw _ (List.mem_of_getElem? (i := 3) rfl)) (by decide) (by decide)) q118a q118c (g := (mkF m 71 #[.val (.long q0), .second, .val (.long q1), .second, .val (.int p2), .val (.int p3), .val (.int p4), .val (.int p5), .val (.ref b1), .val (.ref b5), .val .null, .val (.ref b31), .val (.int (1 : Int32)), .unset, .unset, .unset, .unset, .unset, .unset] [(.int p2), (.long q1), (.long q0), .null, (.ref b5)])) rfl (by rw [hml]; rfl) (Steps.refl _) (argsL := [.null, (.long q0), (.long q1), (.int p2)]) (rest := []) (lenOf own_pd2 rfl) rfl (by show 2 * 0 + _ ≤ _; exact Nat.le_of_eq rfl) (hb hby at_71) (fun _ _ => ⟨rfl, rfl, (by decide : 5 + 0 ≤ _), (by decide : 31 + 0 ≤ _)⟩)
      dsimp only [Pt.U, Pt.locs, Pt.cells, Pt.slots] at X117 l117 y117 z117 st117 hQ117
      rw [l117, (y117 : k117 = 5), (z117 : n117 = 31)] at X117
      clear l117 y117 z117
      obtain ⟨rfl, N119, K119, c119_0, c119_1, c119_2, c119_3, c119_4, c119_5, c119_6⟩ := hQ117
      have f120 := own_sta_keep f49 K119 (own_pl_cons f52 all0)
      have f121 := f50.keep K119
      have f122 := f51.keep K119 (ninS ne_b1_b5 nin0)
      have f123 := f52.keep K119
      have f124 := f60.keep K119
      have k125 := k61.trans K119 (allS (Or.inr sz_b5) all0)
      have nf126 := Fr.app nf62 N119
      have pre127 : ∀ t, Steps p.tables e below (T117.setTop (mkF m 78 #[.val (.long q0), .second, .val (.long q1), .second, .val (.int p2), .val (.int p3), .val (.int p4), .val (.int p5), .val (.ref b1), .val (.ref b5), .val .null, .val (.ref b31), .val (.int (1 : Int32)), .val .null, .unset, .unset, .unset, .unset, .unset] [])) t → Steps p.tables e below (s₁.setTop (entryFrame m #[(.long q0), (.long q1), (.int p2), (.int p3), (.int p4), (.int p5)] maxLocals)) t := by
        intro t kt
        refine pre63 t ?_
        show Steps p.tables e below (T47.setTop (mkF m 53 #[.val (.long q0), .second, .val (.long q1), .second, .val (.int p2), .val (.int p3), .val (.int p4), .val (.int p5), .val (.ref b1), .val (.ref b5), .val .null, .val (.ref b31), .unset, .unset, .unset, .unset, .unset, .unset, .unset] [(.int (p5 &&& (2 : Int32)))])) _
        refine XS.ifNo X47.here hx rfl (hb hby at_53) rfl ((if0 _ _).trans (feq hc64).1) ?_
        show Steps p.tables e below (T47.setTop (mkF m 56 #[.val (.long q0), .second, .val (.long q1), .second, .val (.int p2), .val (.int p3), .val (.int p4), .val (.int p5), .val (.ref b1), .val (.ref b5), .val .null, .val (.ref b31), .unset, .unset, .unset, .unset, .unset, .unset, .unset] [])) _
        refine XS.iconst X47.here hx rfl (hb hby at_56) ?_
        show Steps p.tables e below (T47.setTop (mkF m 57 #[.val (.long q0), .second, .val (.long q1), .second, .val (.int p2), .val (.int p3), .val (.int p4), .val (.int p5), .val (.ref b1), .val (.ref b5), .val .null, .val (.ref b31), .unset, .unset, .unset, .unset, .unset, .unset, .unset] [(.int (1 : Int32))])) _
        refine XS.goto X47.here hx rfl (pc0 := 57) (pc' := 61) rfl (hb hby at_57) (by decide) (by decide) ?_
        show Steps p.tables e below (T47.setTop (mkF m 61 #[.val (.long q0), .second, .val (.long q1), .second, .val (.int p2), .val (.int p3), .val (.int p4), .val (.int p5), .val (.ref b1), .val (.ref b5), .val .null, .val (.ref b31), .unset, .unset, .unset, .unset, .unset, .unset, .unset] [(.int (1 : Int32))])) _
        refine XS.istore X47.here hx rfl (hb hby at_61) rfl (l' := #[.val (.long q0), .second, .val (.long q1), .second, .val (.int p2), .val (.int p3), .val (.int p4), .val (.int p5), .val (.ref b1), .val (.ref b5), .val .null, .val (.ref b31), .val (.int (1 : Int32)), .unset, .unset, .unset, .unset, .unset, .unset]) rfl ?_
        show Steps p.tables e below (T47.setTop (mkF m 63 #[.val (.long q0), .second, .val (.long q1), .second, .val (.int p2), .val (.int p3), .val (.int p4), .val (.int p5), .val (.ref b1), .val (.ref b5), .val .null, .val (.ref b31), .val (.int (1 : Int32)), .unset, .unset, .unset, .unset, .unset, .unset] [])) _
        refine XS.aload X47.here hx rfl (hb hby at_63) rfl rfl ?_
        show Steps p.tables e below (T47.setTop (mkF m 65 #[.val (.long q0), .second, .val (.long q1), .second, .val (.int p2), .val (.int p3), .val (.int p4), .val (.int p5), .val (.ref b1), .val (.ref b5), .val .null, .val (.ref b31), .val (.int (1 : Int32)), .unset, .unset, .unset, .unset, .unset, .unset] [(.ref b5)])) _
        refine XS.aload X47.here hx rfl (hb hby at_65) rfl rfl ?_
        show Steps p.tables e below (T47.setTop (mkF m 67 #[.val (.long q0), .second, .val (.long q1), .second, .val (.int p2), .val (.int p3), .val (.int p4), .val (.int p5), .val (.ref b1), .val (.ref b5), .val .null, .val (.ref b31), .val (.int (1 : Int32)), .unset, .unset, .unset, .unset, .unset, .unset] [.null, (.ref b5)])) _
        refine XS.lloadN X47.here hx rfl (hb hby at_67) rfl ?_
        show Steps p.tables e below (T47.setTop (mkF m 68 #[.val (.long q0), .second, .val (.long q1), .second, .val (.int p2), .val (.int p3), .val (.int p4), .val (.int p5), .val (.ref b1), .val (.ref b5), .val .null, .val (.ref b31), .val (.int (1 : Int32)), .unset, .unset, .unset, .unset, .unset, .unset] [(.long q0), .null, (.ref b5)])) _
        refine XS.lloadN X47.here hx rfl (hb hby at_68) rfl ?_
        show Steps p.tables e below (T47.setTop (mkF m 69 #[.val (.long q0), .second, .val (.long q1), .second, .val (.int p2), .val (.int p3), .val (.int p4), .val (.int p5), .val (.ref b1), .val (.ref b5), .val .null, .val (.ref b31), .val (.int (1 : Int32)), .unset, .unset, .unset, .unset, .unset, .unset] [(.long q1), (.long q0), .null, (.ref b5)])) _
        refine XS.iload X47.here hx rfl (hb hby at_69) rfl ?_
        show Steps p.tables e below (T47.setTop (mkF m 71 #[.val (.long q0), .second, .val (.long q1), .second, .val (.int p2), .val (.int p3), .val (.int p4), .val (.int p5), .val (.ref b1), .val (.ref b5), .val .null, .val (.ref b31), .val (.int (1 : Int32)), .unset, .unset, .unset, .unset, .unset, .unset] [(.int p2), (.long q1), (.long q0), .null, (.ref b5)])) _
        refine st117.trans ?_
        show Steps p.tables e below (T117.setTop (mkF m 74 #[.val (.long q0), .second, .val (.long q1), .second, .val (.int p2), .val (.int p3), .val (.int p4), .val (.int p5), .val (.ref b1), .val (.ref b5), .val .null, .val (.ref b31), .val (.int (1 : Int32)), .unset, .unset, .unset, .unset, .unset, .unset] [])) _
        refine XS.aload X117.here hx rfl (hb hby at_74) rfl rfl ?_
        show Steps p.tables e below (T117.setTop (mkF m 76 #[.val (.long q0), .second, .val (.long q1), .second, .val (.int p2), .val (.int p3), .val (.int p4), .val (.int p5), .val (.ref b1), .val (.ref b5), .val .null, .val (.ref b31), .val (.int (1 : Int32)), .unset, .unset, .unset, .unset, .unset, .unset] [.null])) _
        refine XS.astore X117.here hx rfl (hb hby at_76) rfl rfl (l' := #[.val (.long q0), .second, .val (.long q1), .second, .val (.int p2), .val (.int p3), .val (.int p4), .val (.int p5), .val (.ref b1), .val (.ref b5), .val .null, .val (.ref b31), .val (.int (1 : Int32)), .val .null, .unset, .unset, .unset, .unset, .unset]) rfl ?_
        exact kt
      have pre128 : ∀ t, Steps p.tables e below (T117.setTop (mkF m 99 #[.val (.long q0), .second, .val (.long q1), .second, .val (.int p2), .val (.int p3), .val (.int p4), .val (.int p5), .val (.ref b1), .val (.ref b5), .val .null, .val (.ref b31), .val (.int (1 : Int32)), .val .null, .val (.long q0), .second, .val (.long q1), .second, .val (.int p2)] [(.long q0), (.long q1), (.ref b31), (.ref b5)])) t → Steps p.tables e below (s₁.setTop (entryFrame m #[(.long q0), (.long q1), (.int p2), (.int p3), (.int p4), (.int p5)] maxLocals)) t := by
        intro t kt
        refine pre127 t ?_
        show Steps p.tables e below (T117.setTop (mkF m 78 #[.val (.long q0), .second, .val (.long q1), .second, .val (.int p2), .val (.int p3), .val (.int p4), .val (.int p5), .val (.ref b1), .val (.ref b5), .val .null, .val (.ref b31), .val (.int (1 : Int32)), .val .null, .unset, .unset, .unset, .unset, .unset] [])) _
        refine XS.lloadN X117.here hx rfl (hb hby at_78) rfl ?_
        show Steps p.tables e below (T117.setTop (mkF m 79 #[.val (.long q0), .second, .val (.long q1), .second, .val (.int p2), .val (.int p3), .val (.int p4), .val (.int p5), .val (.ref b1), .val (.ref b5), .val .null, .val (.ref b31), .val (.int (1 : Int32)), .val .null, .unset, .unset, .unset, .unset, .unset] [(.long q0)])) _
        refine XS.lstore X117.here hx rfl (hb hby at_79) rfl (l' := #[.val (.long q0), .second, .val (.long q1), .second, .val (.int p2), .val (.int p3), .val (.int p4), .val (.int p5), .val (.ref b1), .val (.ref b5), .val .null, .val (.ref b31), .val (.int (1 : Int32)), .val .null, .val (.long q0), .second, .unset, .unset, .unset]) rfl ?_
        show Steps p.tables e below (T117.setTop (mkF m 81 #[.val (.long q0), .second, .val (.long q1), .second, .val (.int p2), .val (.int p3), .val (.int p4), .val (.int p5), .val (.ref b1), .val (.ref b5), .val .null, .val (.ref b31), .val (.int (1 : Int32)), .val .null, .val (.long q0), .second, .unset, .unset, .unset] [])) _
        refine XS.lloadN X117.here hx rfl (hb hby at_81) rfl ?_
        show Steps p.tables e below (T117.setTop (mkF m 82 #[.val (.long q0), .second, .val (.long q1), .second, .val (.int p2), .val (.int p3), .val (.int p4), .val (.int p5), .val (.ref b1), .val (.ref b5), .val .null, .val (.ref b31), .val (.int (1 : Int32)), .val .null, .val (.long q0), .second, .unset, .unset, .unset] [(.long q1)])) _
        refine XS.lstore X117.here hx rfl (hb hby at_82) rfl (l' := #[.val (.long q0), .second, .val (.long q1), .second, .val (.int p2), .val (.int p3), .val (.int p4), .val (.int p5), .val (.ref b1), .val (.ref b5), .val .null, .val (.ref b31), .val (.int (1 : Int32)), .val .null, .val (.long q0), .second, .val (.long q1), .second, .unset]) rfl ?_
        show Steps p.tables e below (T117.setTop (mkF m 84 #[.val (.long q0), .second, .val (.long q1), .second, .val (.int p2), .val (.int p3), .val (.int p4), .val (.int p5), .val (.ref b1), .val (.ref b5), .val .null, .val (.ref b31), .val (.int (1 : Int32)), .val .null, .val (.long q0), .second, .val (.long q1), .second, .unset] [])) _
        refine XS.iload X117.here hx rfl (hb hby at_84) rfl ?_
        show Steps p.tables e below (T117.setTop (mkF m 86 #[.val (.long q0), .second, .val (.long q1), .second, .val (.int p2), .val (.int p3), .val (.int p4), .val (.int p5), .val (.ref b1), .val (.ref b5), .val .null, .val (.ref b31), .val (.int (1 : Int32)), .val .null, .val (.long q0), .second, .val (.long q1), .second, .unset] [(.int p2)])) _
        refine XS.istore X117.here hx rfl (hb hby at_86) rfl (l' := #[.val (.long q0), .second, .val (.long q1), .second, .val (.int p2), .val (.int p3), .val (.int p4), .val (.int p5), .val (.ref b1), .val (.ref b5), .val .null, .val (.ref b31), .val (.int (1 : Int32)), .val .null, .val (.long q0), .second, .val (.long q1), .second, .val (.int p2)]) rfl ?_
        show Steps p.tables e below (T117.setTop (mkF m 88 #[.val (.long q0), .second, .val (.long q1), .second, .val (.int p2), .val (.int p3), .val (.int p4), .val (.int p5), .val (.ref b1), .val (.ref b5), .val .null, .val (.ref b31), .val (.int (1 : Int32)), .val .null, .val (.long q0), .second, .val (.long q1), .second, .val (.int p2)] [])) _
        refine XS.iload X117.here hx rfl (hb hby at_88) rfl ?_
        show Steps p.tables e below (T117.setTop (mkF m 90 #[.val (.long q0), .second, .val (.long q1), .second, .val (.int p2), .val (.int p3), .val (.int p4), .val (.int p5), .val (.ref b1), .val (.ref b5), .val .null, .val (.ref b31), .val (.int (1 : Int32)), .val .null, .val (.long q0), .second, .val (.long q1), .second, .val (.int p2)] [(.int (1 : Int32))])) _
        refine XS.ifNo X117.here hx rfl (hb hby at_90) rfl ((if0 _ _).trans (feq (by decide : ¬ ((1 : Int32) = (0 : Int32)))).1) ?_
        show Steps p.tables e below (T117.setTop (mkF m 93 #[.val (.long q0), .second, .val (.long q1), .second, .val (.int p2), .val (.int p3), .val (.int p4), .val (.int p5), .val (.ref b1), .val (.ref b5), .val .null, .val (.ref b31), .val (.int (1 : Int32)), .val .null, .val (.long q0), .second, .val (.long q1), .second, .val (.int p2)] [])) _
        refine XS.aload X117.here hx rfl (hb hby at_93) rfl rfl ?_
        show Steps p.tables e below (T117.setTop (mkF m 95 #[.val (.long q0), .second, .val (.long q1), .second, .val (.int p2), .val (.int p3), .val (.int p4), .val (.int p5), .val (.ref b1), .val (.ref b5), .val .null, .val (.ref b31), .val (.int (1 : Int32)), .val .null, .val (.long q0), .second, .val (.long q1), .second, .val (.int p2)] [(.ref b5)])) _
        refine XS.aload X117.here hx rfl (hb hby at_95) rfl rfl ?_
        show Steps p.tables e below (T117.setTop (mkF m 97 #[.val (.long q0), .second, .val (.long q1), .second, .val (.int p2), .val (.int p3), .val (.int p4), .val (.int p5), .val (.ref b1), .val (.ref b5), .val .null, .val (.ref b31), .val (.int (1 : Int32)), .val .null, .val (.long q0), .second, .val (.long q1), .second, .val (.int p2)] [(.ref b31), (.ref b5)])) _
        refine XS.lloadN X117.here hx rfl (hb hby at_97) rfl ?_
        show Steps p.tables e below (T117.setTop (mkF m 98 #[.val (.long q0), .second, .val (.long q1), .second, .val (.int p2), .val (.int p3), .val (.int p4), .val (.int p5), .val (.ref b1), .val (.ref b5), .val .null, .val (.ref b31), .val (.int (1 : Int32)), .val .null, .val (.long q0), .second, .val (.long q1), .second, .val (.int p2)] [(.long q1), (.ref b31), (.ref b5)])) _
        refine XS.lloadN X117.here hx rfl (hb hby at_98) rfl ?_
        exact kt
      have zs129 : n0 ≤ T117.heap.size := Nat.le_trans Z0 k125.1
      obtain ⟨cq131, kq131, q131a, q131b, q131c⟩ := isOf hZ rfl f123
      obtain ⟨_, _, ⟨T130, L130, k130, n130⟩, -, X130, ⟨Lc130, hQ130, l130, y130, z130⟩, st130⟩ := X117.virtualBack hx (y := (⟨"com/example/interleave/interleave/check/Expansion", "tookIn", "(Ljava/util/List;JJI)V"⟩ : MethodName)) (z := (⟨"com/example/interleave/interleave/check/Expansion", "tookIn", "(Ljava/util/List;JJI)V"⟩ : MethodName)) hown (mvT hZ (hw _ (List.mem_of_getElem? (i := 46) rfl))) (mvT hZ (hw _ (List.mem_of_getElem? (i := 47) rfl))) (notFace_of_selects (args := #[]) (mvT hZ (hw _ (List.mem_of_getElem? (i := 49) rfl)))) (mvT hZ (hw _ (List.mem_of_getElem? (i := 49) rfl))) (mvT hZ (hw _ (List.mem_of_getElem? (i := 48) rfl))) (by decide) (backOf (W := 0) (own_rm_tkR l Z a0 hw [] b5 b31 q1 q0 p4 .null (.long q0) (.long q1) (.int p2) p3 p4 b1 T117.heap n0 zs129 f123 c119_0 c119_1 c119_2 c119_3 c119_4 c119_5 c119_6 gn_b5) hZ (hw _ (List.mem_of_getElem? (i := 50) rfl)) (hw _ (List.mem_of_getElem? (i := 3) rfl)) (by decide) (by decide)) q131a q131c (g := (mkF m 101 #[.val (.long q0), .second, .val (.long q1), .second, .val (.int p2), .val (.int p3), .val (.int p4), .val (.int p5), .val (.ref b1), .val (.ref b5), .val .null, .val (.ref b31), .val (.int (1 : Int32)), .val .null, .val (.long q0), .second, .val (.long q1), .second, .val (.int p2)] [(.int p4), (.long q0), (.long q1), (.ref b31), (.ref b5)])) rfl (by rw [hml]; rfl) (Steps.refl _) (argsL := [(.ref b31), (.long q1), (.long q0), (.int p4)]) (rest := []) (lenOf own_pd2 rfl) rfl (by show 2 * 0 + _ ≤ _; exact Nat.le_of_eq rfl) (hb hby at_101) (fun _ _ => ⟨rfl, rfl, (by decide : 5 + 0 ≤ _), (by decide : 31 + 0 ≤ _)⟩)
      dsimp only [Pt.U, Pt.locs, Pt.cells, Pt.slots] at X130 l130 y130 z130 st130 hQ130
      rw [l130, (y130 : k130 = 5), (z130 : n130 = 31)] at X130
      clear l130 y130 z130
      obtain ⟨rfl, N132, K132, c132_0, c132_1, c132_2, c132_3, c132_4, c132_5, c132_6⟩ := hQ130
      have f133 := own_sta_keep f120 K132 (own_pl_cons f123 all0)
      have f134 := f121.keep K132
      have f135 := f122.keep K132 (ninS ne_b1_b5 nin0)
      have f136 := f123.keep K132
      have f137 := f124.keep K132
      have k138 := k125.trans K132 (allS (Or.inr sz_b5) all0)
      have nf139 := Fr.app nf126 N132
      have zs140 : n0 ≤ T130.heap.size := Nat.le_trans Z0 k138.1
      obtain ⟨cq142, kq142, q142a, q142b, q142c⟩ := isOf hZ rfl f136
      obtain ⟨_, _, ⟨T141, L141, k141, n141⟩, -, X141, ⟨Lc141, hQ141, l141, y141, z141⟩, st141⟩ := X130.virtualBack hx (y := (⟨"com/example/interleave/interleave/check/Expansion", "fresh", "()Ljava/util/List;"⟩ : MethodName)) (z := (⟨"com/example/interleave/interleave/check/Expansion", "fresh", "()Ljava/util/List;"⟩ : MethodName)) hown (mvT hZ (hw _ (List.mem_of_getElem? (i := 59) rfl))) (mvT hZ (hw _ (List.mem_of_getElem? (i := 60) rfl))) (notFace_of_selects (args := #[]) (mvT hZ (hw _ (List.mem_of_getElem? (i := 62) rfl)))) (mvT hZ (hw _ (List.mem_of_getElem? (i := 62) rfl))) (mvT hZ (hw _ (List.mem_of_getElem? (i := 61) rfl))) (by decide) (backOf (W := 0) (own_rm_gfR l Z a0 hw [] b5 b31 T130.heap n0 zs140 c132_0) hZ (hw _ (List.mem_of_getElem? (i := 63) rfl)) (hw _ (List.mem_of_getElem? (i := 3) rfl)) (by decide) (by decide)) q142a q142c (g := (mkF m 120 #[.val (.long q0), .second, .val (.long q1), .second, .val (.int p2), .val (.int p3), .val (.int p4), .val (.int p5), .val (.ref b1), .val (.ref b5), .val .null, .val (.ref b31), .val (.int (1 : Int32)), .val (.ref b31), .val (.long q1), .second, .val (.long q0), .second, .val (.int p4)] [(.ref b5)])) rfl (by rw [hml]; rfl) (Steps.refl _) (argsL := []) (rest := []) (lenOf own_pd3 rfl) rfl (by show 2 * 0 + _ ≤ _; exact Nat.le_of_eq rfl) (hb hby at_120) (fun _ _ => ⟨rfl, rfl, (by decide : 5 + 0 ≤ _), (by decide : 31 + 0 ≤ _)⟩)
      dsimp only [Pt.U, Pt.locs, Pt.cells, Pt.slots] at X141 l141 y141 z141 st141 hQ141
      rw [l141, (y141 : k141 = 5), (z141 : n141 = 31)] at X141
      clear l141 y141 z141
      obtain ⟨rfl, N143, eq143⟩ := hQ141
      have nf144 := Fr.app nf139 N143
      have pre145 : ∀ t, Steps p.tables e below (T141.setTop (mkF m 123 #[.val (.long q0), .second, .val (.long q1), .second, .val (.int p2), .val (.int p3), .val (.int p4), .val (.int p5), .val (.ref b1), .val (.ref b5), .val .null, .val (.ref b31), .val (.int (1 : Int32)), .val (.ref b31), .val (.long q1), .second, .val (.long q0), .second, .val (.int p4)] [(.ref b31)])) t → Steps p.tables e below (s₁.setTop (entryFrame m #[(.long q0), (.long q1), (.int p2), (.int p3), (.int p4), (.int p5)] maxLocals)) t := by
        intro t kt
        refine pre128 t ?_
        show Steps p.tables e below (T117.setTop (mkF m 99 #[.val (.long q0), .second, .val (.long q1), .second, .val (.int p2), .val (.int p3), .val (.int p4), .val (.int p5), .val (.ref b1), .val (.ref b5), .val .null, .val (.ref b31), .val (.int (1 : Int32)), .val .null, .val (.long q0), .second, .val (.long q1), .second, .val (.int p2)] [(.long q0), (.long q1), (.ref b31), (.ref b5)])) _
        refine XS.iload X117.here hx rfl (hb hby at_99) rfl ?_
        show Steps p.tables e below (T117.setTop (mkF m 101 #[.val (.long q0), .second, .val (.long q1), .second, .val (.int p2), .val (.int p3), .val (.int p4), .val (.int p5), .val (.ref b1), .val (.ref b5), .val .null, .val (.ref b31), .val (.int (1 : Int32)), .val .null, .val (.long q0), .second, .val (.long q1), .second, .val (.int p2)] [(.int p4), (.long q0), (.long q1), (.ref b31), (.ref b5)])) _
        refine st130.trans ?_
        show Steps p.tables e below (T130.setTop (mkF m 104 #[.val (.long q0), .second, .val (.long q1), .second, .val (.int p2), .val (.int p3), .val (.int p4), .val (.int p5), .val (.ref b1), .val (.ref b5), .val .null, .val (.ref b31), .val (.int (1 : Int32)), .val .null, .val (.long q0), .second, .val (.long q1), .second, .val (.int p2)] [])) _
        refine XS.aload X130.here hx rfl (hb hby at_104) rfl rfl ?_
        show Steps p.tables e below (T130.setTop (mkF m 106 #[.val (.long q0), .second, .val (.long q1), .second, .val (.int p2), .val (.int p3), .val (.int p4), .val (.int p5), .val (.ref b1), .val (.ref b5), .val .null, .val (.ref b31), .val (.int (1 : Int32)), .val .null, .val (.long q0), .second, .val (.long q1), .second, .val (.int p2)] [(.ref b31)])) _
        refine XS.astore X130.here hx rfl (hb hby at_106) rfl rfl (l' := #[.val (.long q0), .second, .val (.long q1), .second, .val (.int p2), .val (.int p3), .val (.int p4), .val (.int p5), .val (.ref b1), .val (.ref b5), .val .null, .val (.ref b31), .val (.int (1 : Int32)), .val (.ref b31), .val (.long q0), .second, .val (.long q1), .second, .val (.int p2)]) rfl ?_
        show Steps p.tables e below (T130.setTop (mkF m 108 #[.val (.long q0), .second, .val (.long q1), .second, .val (.int p2), .val (.int p3), .val (.int p4), .val (.int p5), .val (.ref b1), .val (.ref b5), .val .null, .val (.ref b31), .val (.int (1 : Int32)), .val (.ref b31), .val (.long q0), .second, .val (.long q1), .second, .val (.int p2)] [])) _
        refine XS.lloadN X130.here hx rfl (hb hby at_108) rfl ?_
        show Steps p.tables e below (T130.setTop (mkF m 109 #[.val (.long q0), .second, .val (.long q1), .second, .val (.int p2), .val (.int p3), .val (.int p4), .val (.int p5), .val (.ref b1), .val (.ref b5), .val .null, .val (.ref b31), .val (.int (1 : Int32)), .val (.ref b31), .val (.long q0), .second, .val (.long q1), .second, .val (.int p2)] [(.long q1)])) _
        refine XS.lstore X130.here hx rfl (hb hby at_109) rfl (l' := #[.val (.long q0), .second, .val (.long q1), .second, .val (.int p2), .val (.int p3), .val (.int p4), .val (.int p5), .val (.ref b1), .val (.ref b5), .val .null, .val (.ref b31), .val (.int (1 : Int32)), .val (.ref b31), .val (.long q1), .second, .val (.long q1), .second, .val (.int p2)]) rfl ?_
        show Steps p.tables e below (T130.setTop (mkF m 111 #[.val (.long q0), .second, .val (.long q1), .second, .val (.int p2), .val (.int p3), .val (.int p4), .val (.int p5), .val (.ref b1), .val (.ref b5), .val .null, .val (.ref b31), .val (.int (1 : Int32)), .val (.ref b31), .val (.long q1), .second, .val (.long q1), .second, .val (.int p2)] [])) _
        refine XS.lloadN X130.here hx rfl (hb hby at_111) rfl ?_
        show Steps p.tables e below (T130.setTop (mkF m 112 #[.val (.long q0), .second, .val (.long q1), .second, .val (.int p2), .val (.int p3), .val (.int p4), .val (.int p5), .val (.ref b1), .val (.ref b5), .val .null, .val (.ref b31), .val (.int (1 : Int32)), .val (.ref b31), .val (.long q1), .second, .val (.long q1), .second, .val (.int p2)] [(.long q0)])) _
        refine XS.lstore X130.here hx rfl (hb hby at_112) rfl (l' := #[.val (.long q0), .second, .val (.long q1), .second, .val (.int p2), .val (.int p3), .val (.int p4), .val (.int p5), .val (.ref b1), .val (.ref b5), .val .null, .val (.ref b31), .val (.int (1 : Int32)), .val (.ref b31), .val (.long q1), .second, .val (.long q0), .second, .val (.int p2)]) rfl ?_
        show Steps p.tables e below (T130.setTop (mkF m 114 #[.val (.long q0), .second, .val (.long q1), .second, .val (.int p2), .val (.int p3), .val (.int p4), .val (.int p5), .val (.ref b1), .val (.ref b5), .val .null, .val (.ref b31), .val (.int (1 : Int32)), .val (.ref b31), .val (.long q1), .second, .val (.long q0), .second, .val (.int p2)] [])) _
        refine XS.iload X130.here hx rfl (hb hby at_114) rfl ?_
        show Steps p.tables e below (T130.setTop (mkF m 116 #[.val (.long q0), .second, .val (.long q1), .second, .val (.int p2), .val (.int p3), .val (.int p4), .val (.int p5), .val (.ref b1), .val (.ref b5), .val .null, .val (.ref b31), .val (.int (1 : Int32)), .val (.ref b31), .val (.long q1), .second, .val (.long q0), .second, .val (.int p2)] [(.int p4)])) _
        refine XS.istore X130.here hx rfl (hb hby at_116) rfl (l' := #[.val (.long q0), .second, .val (.long q1), .second, .val (.int p2), .val (.int p3), .val (.int p4), .val (.int p5), .val (.ref b1), .val (.ref b5), .val .null, .val (.ref b31), .val (.int (1 : Int32)), .val (.ref b31), .val (.long q1), .second, .val (.long q0), .second, .val (.int p4)]) rfl ?_
        show Steps p.tables e below (T130.setTop (mkF m 118 #[.val (.long q0), .second, .val (.long q1), .second, .val (.int p2), .val (.int p3), .val (.int p4), .val (.int p5), .val (.ref b1), .val (.ref b5), .val .null, .val (.ref b31), .val (.int (1 : Int32)), .val (.ref b31), .val (.long q1), .second, .val (.long q0), .second, .val (.int p4)] [])) _
        refine XS.aload X130.here hx rfl (hb hby at_118) rfl rfl ?_
        show Steps p.tables e below (T130.setTop (mkF m 120 #[.val (.long q0), .second, .val (.long q1), .second, .val (.int p2), .val (.int p3), .val (.int p4), .val (.int p5), .val (.ref b1), .val (.ref b5), .val .null, .val (.ref b31), .val (.int (1 : Int32)), .val (.ref b31), .val (.long q1), .second, .val (.long q0), .second, .val (.int p4)] [(.ref b5)])) _
        refine st141.trans ?_
        exact kt
      have zs146 : n0 ≤ T130.heap.size := Nat.le_trans Z0 k138.1
      obtain ⟨cq148, kq148, q148a, q148b, q148c⟩ := isOf hZ eq143 f136
      obtain ⟨_, _, ⟨T147, L147, k147, n147⟩, -, X147, ⟨Lc147, hQ147, l147, y147, z147⟩, st147⟩ := X141.virtualBack hx (y := (⟨"com/example/interleave/interleave/check/Expansion", "generated", "()J"⟩ : MethodName)) (z := (⟨"com/example/interleave/interleave/check/Expansion", "generated", "()J"⟩ : MethodName)) hown (mvT hZ (hw _ (List.mem_of_getElem? (i := 64) rfl))) (mvT hZ (hw _ (List.mem_of_getElem? (i := 65) rfl))) (notFace_of_selects (args := #[]) (mvT hZ (hw _ (List.mem_of_getElem? (i := 67) rfl)))) (mvT hZ (hw _ (List.mem_of_getElem? (i := 67) rfl))) (mvT hZ (hw _ (List.mem_of_getElem? (i := 66) rfl))) (by decide) (backOf (W := 0) (own_rm_ggn l Z a0 hw [] b5 q1 T130.heap n0 zs146 c132_1) hZ (hw _ (List.mem_of_getElem? (i := 68) rfl)) (hw _ (List.mem_of_getElem? (i := 3) rfl)) (by decide) (by decide)) q148a q148c (g := (mkF m 130 #[.val (.long q0), .second, .val (.long q1), .second, .val (.int p2), .val (.int p3), .val (.int p4), .val (.int p5), .val (.ref b1), .val (.ref b5), .val .null, .val (.ref b31), .val (.int (1 : Int32)), .val (.ref b31), .val (.long q1), .second, .val (.long q0), .second, .val (.int p4)] [(.ref b5)])) rfl (by rw [hml]; rfl) (Steps.refl _) (argsL := []) (rest := []) (lenOf own_pd4 rfl) rfl (by show 2 * 0 + _ ≤ _; exact Nat.le_of_eq rfl) (hb hby at_130) (fun _ _ => ⟨rfl, eq143, (by decide : 5 + 0 ≤ _), (by decide : 31 + 0 ≤ _)⟩)
      dsimp only [Pt.U, Pt.locs, Pt.cells, Pt.slots] at X147 l147 y147 z147 st147 hQ147
      rw [l147, (y147 : k147 = 5), (z147 : n147 = 31)] at X147
      clear l147 y147 z147
      obtain ⟨rfl, N149, eq149⟩ := hQ147
      have nf150 := Fr.app nf144 N149
      have zs151 : n0 ≤ T130.heap.size := Nat.le_trans Z0 k138.1
      obtain ⟨cq153, kq153, q153a, q153b, q153c⟩ := isOf hZ eq149 f136
      obtain ⟨_, _, ⟨T152, L152, k152, n152⟩, -, X152, ⟨Lc152, hQ152, l152, y152, z152⟩, st152⟩ := X147.virtualBack hx (y := (⟨"com/example/interleave/interleave/check/Expansion", "distinct", "()J"⟩ : MethodName)) (z := (⟨"com/example/interleave/interleave/check/Expansion", "distinct", "()J"⟩ : MethodName)) hown (mvT hZ (hw _ (List.mem_of_getElem? (i := 69) rfl))) (mvT hZ (hw _ (List.mem_of_getElem? (i := 70) rfl))) (notFace_of_selects (args := #[]) (mvT hZ (hw _ (List.mem_of_getElem? (i := 72) rfl)))) (mvT hZ (hw _ (List.mem_of_getElem? (i := 72) rfl))) (mvT hZ (hw _ (List.mem_of_getElem? (i := 71) rfl))) (by decide) (backOf (W := 0) (own_rm_gdi l Z a0 hw [] b5 q0 T130.heap n0 zs151 c132_2) hZ (hw _ (List.mem_of_getElem? (i := 73) rfl)) (hw _ (List.mem_of_getElem? (i := 3) rfl)) (by decide) (by decide)) q153a q153c (g := (mkF m 141 #[.val (.long q0), .second, .val (.long q1), .second, .val (.int p2), .val (.int p3), .val (.int p4), .val (.int p5), .val (.ref b1), .val (.ref b5), .val .null, .val (.ref b31), .val (.int (1 : Int32)), .val (.ref b31), .val (.long q1), .second, .val (.long q0), .second, .val (.int p4)] [(.ref b5)])) rfl (by rw [hml]; rfl) (Steps.refl _) (argsL := []) (rest := []) (lenOf own_pd4 rfl) rfl (by show 2 * 0 + _ ≤ _; exact Nat.le_of_eq rfl) (hb hby at_141) (fun _ _ => ⟨rfl, eq149, (by decide : 5 + 0 ≤ _), (by decide : 31 + 0 ≤ _)⟩)
      dsimp only [Pt.U, Pt.locs, Pt.cells, Pt.slots] at X152 l152 y152 z152 st152 hQ152
      rw [l152, (y152 : k152 = 5), (z152 : n152 = 31)] at X152
      clear l152 y152 z152
      obtain ⟨rfl, N154, eq154⟩ := hQ152
      have nf155 := Fr.app nf150 N154
      have pre156 : ∀ t, Steps p.tables e below (T152.setTop (mkF m 150 #[.val (.long q0), .second, .val (.long q1), .second, .val (.int p2), .val (.int p3), .val (.int p4), .val (.int p5), .val (.ref b1), .val (.ref b5), .val .null, .val (.ref b31), .val (.int (1 : Int32)), .val (.ref b31), .val (.long q1), .second, .val (.long q0), .second, .val (.int p4)] [])) t → Steps p.tables e below (s₁.setTop (entryFrame m #[(.long q0), (.long q1), (.int p2), (.int p3), (.int p4), (.int p5)] maxLocals)) t := by
        intro t kt
        refine pre145 t ?_
        show Steps p.tables e below (T141.setTop (mkF m 123 #[.val (.long q0), .second, .val (.long q1), .second, .val (.int p2), .val (.int p3), .val (.int p4), .val (.int p5), .val (.ref b1), .val (.ref b5), .val .null, .val (.ref b31), .val (.int (1 : Int32)), .val (.ref b31), .val (.long q1), .second, .val (.long q0), .second, .val (.int p4)] [(.ref b31)])) _
        refine XS.aload X141.here hx rfl (hb hby at_123) rfl rfl ?_
        show Steps p.tables e below (T141.setTop (mkF m 125 #[.val (.long q0), .second, .val (.long q1), .second, .val (.int p2), .val (.int p3), .val (.int p4), .val (.int p5), .val (.ref b1), .val (.ref b5), .val .null, .val (.ref b31), .val (.int (1 : Int32)), .val (.ref b31), .val (.long q1), .second, .val (.long q0), .second, .val (.int p4)] [(.ref b31), (.ref b31)])) _
        refine Jvm.RoadKit.acmp (g := (mkF m 125 #[.val (.long q0), .second, .val (.long q1), .second, .val (.int p2), .val (.int p3), .val (.int p4), .val (.int p5), .val (.ref b1), .val (.ref b5), .val .null, .val (.ref b31), .val (.int (1 : Int32)), .val (.ref b31), .val (.long q1), .second, .val (.long q0), .second, .val (.int p4)] [(.ref b31), (.ref b31)])) X141 hx rfl rfl rfl (pc0 := 125) (pc' := 128) (same := true) rfl (hb hby at_125) rfl (decide_eq_true rfl) (by decide) (by decide) ?_
        show Steps p.tables e below (T141.setTop (mkF m 128 #[.val (.long q0), .second, .val (.long q1), .second, .val (.int p2), .val (.int p3), .val (.int p4), .val (.int p5), .val (.ref b1), .val (.ref b5), .val .null, .val (.ref b31), .val (.int (1 : Int32)), .val (.ref b31), .val (.long q1), .second, .val (.long q0), .second, .val (.int p4)] [])) _
        refine XS.aload X141.here hx rfl (hb hby at_128) rfl rfl ?_
        show Steps p.tables e below (T141.setTop (mkF m 130 #[.val (.long q0), .second, .val (.long q1), .second, .val (.int p2), .val (.int p3), .val (.int p4), .val (.int p5), .val (.ref b1), .val (.ref b5), .val .null, .val (.ref b31), .val (.int (1 : Int32)), .val (.ref b31), .val (.long q1), .second, .val (.long q0), .second, .val (.int p4)] [(.ref b5)])) _
        refine st147.trans ?_
        show Steps p.tables e below (T147.setTop (mkF m 133 #[.val (.long q0), .second, .val (.long q1), .second, .val (.int p2), .val (.int p3), .val (.int p4), .val (.int p5), .val (.ref b1), .val (.ref b5), .val .null, .val (.ref b31), .val (.int (1 : Int32)), .val (.ref b31), .val (.long q1), .second, .val (.long q0), .second, .val (.int p4)] [(.long q1)])) _
        refine XS.lload X147.here hx rfl (hb hby at_133) rfl ?_
        show Steps p.tables e below (T147.setTop (mkF m 135 #[.val (.long q0), .second, .val (.long q1), .second, .val (.int p2), .val (.int p3), .val (.int p4), .val (.int p5), .val (.ref b1), .val (.ref b5), .val .null, .val (.ref b31), .val (.int (1 : Int32)), .val (.ref b31), .val (.long q1), .second, .val (.long q0), .second, .val (.int p4)] [(.long q1), (.long q1)])) _
        refine XS.lcmp X147.here hx rfl (hb hby at_135) rfl ?_
        show Steps p.tables e below (T147.setTop (mkF m 136 #[.val (.long q0), .second, .val (.long q1), .second, .val (.int p2), .val (.int p3), .val (.int p4), .val (.int p5), .val (.ref b1), .val (.ref b5), .val .null, .val (.ref b31), .val (.int (1 : Int32)), .val (.ref b31), .val (.long q1), .second, .val (.long q0), .second, .val (.int p4)] [(.int (lcmpW q1 q1))])) _
        refine XS.ifNo X147.here hx rfl (hb hby at_136) rfl ((if0 _ _).trans (teq (own_lc _)).2) ?_
        show Steps p.tables e below (T147.setTop (mkF m 139 #[.val (.long q0), .second, .val (.long q1), .second, .val (.int p2), .val (.int p3), .val (.int p4), .val (.int p5), .val (.ref b1), .val (.ref b5), .val .null, .val (.ref b31), .val (.int (1 : Int32)), .val (.ref b31), .val (.long q1), .second, .val (.long q0), .second, .val (.int p4)] [])) _
        refine XS.aload X147.here hx rfl (hb hby at_139) rfl rfl ?_
        show Steps p.tables e below (T147.setTop (mkF m 141 #[.val (.long q0), .second, .val (.long q1), .second, .val (.int p2), .val (.int p3), .val (.int p4), .val (.int p5), .val (.ref b1), .val (.ref b5), .val .null, .val (.ref b31), .val (.int (1 : Int32)), .val (.ref b31), .val (.long q1), .second, .val (.long q0), .second, .val (.int p4)] [(.ref b5)])) _
        refine st152.trans ?_
        show Steps p.tables e below (T152.setTop (mkF m 144 #[.val (.long q0), .second, .val (.long q1), .second, .val (.int p2), .val (.int p3), .val (.int p4), .val (.int p5), .val (.ref b1), .val (.ref b5), .val .null, .val (.ref b31), .val (.int (1 : Int32)), .val (.ref b31), .val (.long q1), .second, .val (.long q0), .second, .val (.int p4)] [(.long q0)])) _
        refine XS.lload X152.here hx rfl (hb hby at_144) rfl ?_
        show Steps p.tables e below (T152.setTop (mkF m 146 #[.val (.long q0), .second, .val (.long q1), .second, .val (.int p2), .val (.int p3), .val (.int p4), .val (.int p5), .val (.ref b1), .val (.ref b5), .val .null, .val (.ref b31), .val (.int (1 : Int32)), .val (.ref b31), .val (.long q1), .second, .val (.long q0), .second, .val (.int p4)] [(.long q0), (.long q0)])) _
        refine XS.lcmp X152.here hx rfl (hb hby at_146) rfl ?_
        show Steps p.tables e below (T152.setTop (mkF m 147 #[.val (.long q0), .second, .val (.long q1), .second, .val (.int p2), .val (.int p3), .val (.int p4), .val (.int p5), .val (.ref b1), .val (.ref b5), .val .null, .val (.ref b31), .val (.int (1 : Int32)), .val (.ref b31), .val (.long q1), .second, .val (.long q0), .second, .val (.int p4)] [(.int (lcmpW q0 q0))])) _
        refine XS.ifNo X152.here hx rfl (hb hby at_147) rfl ((if0 _ _).trans (teq (own_lc _)).2) ?_
        exact kt
      have zs157 : n0 ≤ T130.heap.size := Nat.le_trans Z0 k138.1
      obtain ⟨cq159, kq159, q159a, q159b, q159c⟩ := isOf hZ eq154 f136
      obtain ⟨_, _, ⟨T158, L158, k158, n158⟩, -, X158, ⟨Lc158, hQ158, l158, y158, z158⟩, st158⟩ := X152.virtualBack hx (y := (⟨"com/example/interleave/interleave/check/Expansion", "depth", "()I"⟩ : MethodName)) (z := (⟨"com/example/interleave/interleave/check/Expansion", "depth", "()I"⟩ : MethodName)) hown (mvT hZ (hw _ (List.mem_of_getElem? (i := 74) rfl))) (mvT hZ (hw _ (List.mem_of_getElem? (i := 75) rfl))) (notFace_of_selects (args := #[]) (mvT hZ (hw _ (List.mem_of_getElem? (i := 77) rfl)))) (mvT hZ (hw _ (List.mem_of_getElem? (i := 77) rfl))) (mvT hZ (hw _ (List.mem_of_getElem? (i := 76) rfl))) (by decide) (backOf (W := 0) (own_rm_gde l Z a0 hw [] b5 p4 T130.heap n0 zs157 c132_3) hZ (hw _ (List.mem_of_getElem? (i := 78) rfl)) (hw _ (List.mem_of_getElem? (i := 3) rfl)) (by decide) (by decide)) q159a q159c (g := (mkF m 152 #[.val (.long q0), .second, .val (.long q1), .second, .val (.int p2), .val (.int p3), .val (.int p4), .val (.int p5), .val (.ref b1), .val (.ref b5), .val .null, .val (.ref b31), .val (.int (1 : Int32)), .val (.ref b31), .val (.long q1), .second, .val (.long q0), .second, .val (.int p4)] [(.ref b5)])) rfl (by rw [hml]; rfl) (Steps.refl _) (argsL := []) (rest := []) (lenOf own_pd5 rfl) rfl (by show 2 * 0 + _ ≤ _; exact Nat.le_of_eq rfl) (hb hby at_152) (fun _ _ => ⟨rfl, eq154, (by decide : 5 + 0 ≤ _), (by decide : 31 + 0 ≤ _)⟩)
      dsimp only [Pt.U, Pt.locs, Pt.cells, Pt.slots] at X158 l158 y158 z158 st158 hQ158
      rw [l158, (y158 : k158 = 5), (z158 : n158 = 31)] at X158
      clear l158 y158 z158
      obtain ⟨rfl, N160, eq160⟩ := hQ158
      have nf161 := Fr.app nf155 N160
      have zs162 : n0 ≤ T130.heap.size := Nat.le_trans Z0 k138.1
      obtain ⟨cq164, kq164, q164a, q164b, q164c⟩ := isOf hZ eq160 f136
      obtain ⟨_, _, ⟨T163, L163, k163, n163⟩, -, X163, ⟨Lc163, hQ163, l163, y163, z163⟩, st163⟩ := X158.virtualBack hx (y := (⟨"com/example/interleave/interleave/check/Expansion", "sourceId", "()I"⟩ : MethodName)) (z := (⟨"com/example/interleave/interleave/check/Expansion", "sourceId", "()I"⟩ : MethodName)) hown (mvT hZ (hw _ (List.mem_of_getElem? (i := 79) rfl))) (mvT hZ (hw _ (List.mem_of_getElem? (i := 80) rfl))) (notFace_of_selects (args := #[]) (mvT hZ (hw _ (List.mem_of_getElem? (i := 82) rfl)))) (mvT hZ (hw _ (List.mem_of_getElem? (i := 82) rfl))) (mvT hZ (hw _ (List.mem_of_getElem? (i := 81) rfl))) (by decide) (backOf (W := 0) (own_rm_gsi l Z a0 hw [] b5 p3 T130.heap n0 zs162 c132_4) hZ (hw _ (List.mem_of_getElem? (i := 83) rfl)) (hw _ (List.mem_of_getElem? (i := 3) rfl)) (by decide) (by decide)) q164a q164c (g := (mkF m 162 #[.val (.long q0), .second, .val (.long q1), .second, .val (.int p2), .val (.int p3), .val (.int p4), .val (.int p5), .val (.ref b1), .val (.ref b5), .val .null, .val (.ref b31), .val (.int (1 : Int32)), .val (.ref b31), .val (.long q1), .second, .val (.long q0), .second, .val (.int p4)] [(.ref b5)])) rfl (by rw [hml]; rfl) (Steps.refl _) (argsL := []) (rest := []) (lenOf own_pd5 rfl) rfl (by show 2 * 0 + _ ≤ _; exact Nat.le_of_eq rfl) (hb hby at_162) (fun _ _ => ⟨rfl, eq160, (by decide : 5 + 0 ≤ _), (by decide : 31 + 0 ≤ _)⟩)
      dsimp only [Pt.U, Pt.locs, Pt.cells, Pt.slots] at X163 l163 y163 z163 st163 hQ163
      rw [l163, (y163 : k163 = 5), (z163 : n163 = 31)] at X163
      clear l163 y163 z163
      obtain ⟨rfl, N165, eq165⟩ := hQ163
      have nf166 := Fr.app nf161 N165
      have zs167 : n0 ≤ T130.heap.size := Nat.le_trans Z0 k138.1
      obtain ⟨cq169, kq169, q169a, q169b, q169c⟩ := isOf hZ eq165 f136
      obtain ⟨_, _, ⟨T168, L168, k168, n168⟩, -, X168, ⟨Lc168, hQ168, l168, y168, z168⟩, st168⟩ := X163.virtualBack hx (y := (⟨"com/example/interleave/interleave/check/Expansion", "sourceParent", "()I"⟩ : MethodName)) (z := (⟨"com/example/interleave/interleave/check/Expansion", "sourceParent", "()I"⟩ : MethodName)) hown (mvT hZ (hw _ (List.mem_of_getElem? (i := 84) rfl))) (mvT hZ (hw _ (List.mem_of_getElem? (i := 85) rfl))) (notFace_of_selects (args := #[]) (mvT hZ (hw _ (List.mem_of_getElem? (i := 87) rfl)))) (mvT hZ (hw _ (List.mem_of_getElem? (i := 87) rfl))) (mvT hZ (hw _ (List.mem_of_getElem? (i := 86) rfl))) (by decide) (backOf (W := 0) (own_rm_gsp l Z a0 hw [] b5 p4 T130.heap n0 zs167 c132_5) hZ (hw _ (List.mem_of_getElem? (i := 88) rfl)) (hw _ (List.mem_of_getElem? (i := 3) rfl)) (by decide) (by decide)) q169a q169c (g := (mkF m 172 #[.val (.long q0), .second, .val (.long q1), .second, .val (.int p2), .val (.int p3), .val (.int p4), .val (.int p5), .val (.ref b1), .val (.ref b5), .val .null, .val (.ref b31), .val (.int (1 : Int32)), .val (.ref b31), .val (.long q1), .second, .val (.long q0), .second, .val (.int p4)] [(.ref b5)])) rfl (by rw [hml]; rfl) (Steps.refl _) (argsL := []) (rest := []) (lenOf own_pd5 rfl) rfl (by show 2 * 0 + _ ≤ _; exact Nat.le_of_eq rfl) (hb hby at_172) (fun _ _ => ⟨rfl, eq165, (by decide : 5 + 0 ≤ _), (by decide : 31 + 0 ≤ _)⟩)
      dsimp only [Pt.U, Pt.locs, Pt.cells, Pt.slots] at X168 l168 y168 z168 st168 hQ168
      rw [l168, (y168 : k168 = 5), (z168 : n168 = 31)] at X168
      clear l168 y168 z168
      obtain ⟨rfl, N170, eq170⟩ := hQ168
      have nf171 := Fr.app nf166 N170
      have pre172 : ∀ t, Steps p.tables e below (T168.setTop (mkF m 180 #[.val (.long q0), .second, .val (.long q1), .second, .val (.int p2), .val (.int p3), .val (.int p4), .val (.int p5), .val (.ref b1), .val (.ref b5), .val .null, .val (.ref b31), .val (.int (1 : Int32)), .val (.ref b31), .val (.long q1), .second, .val (.long q0), .second, .val (.int p4)] [])) t → Steps p.tables e below (s₁.setTop (entryFrame m #[(.long q0), (.long q1), (.int p2), (.int p3), (.int p4), (.int p5)] maxLocals)) t := by
        intro t kt
        refine pre156 t ?_
        show Steps p.tables e below (T152.setTop (mkF m 150 #[.val (.long q0), .second, .val (.long q1), .second, .val (.int p2), .val (.int p3), .val (.int p4), .val (.int p5), .val (.ref b1), .val (.ref b5), .val .null, .val (.ref b31), .val (.int (1 : Int32)), .val (.ref b31), .val (.long q1), .second, .val (.long q0), .second, .val (.int p4)] [])) _
        refine XS.aload X152.here hx rfl (hb hby at_150) rfl rfl ?_
        show Steps p.tables e below (T152.setTop (mkF m 152 #[.val (.long q0), .second, .val (.long q1), .second, .val (.int p2), .val (.int p3), .val (.int p4), .val (.int p5), .val (.ref b1), .val (.ref b5), .val .null, .val (.ref b31), .val (.int (1 : Int32)), .val (.ref b31), .val (.long q1), .second, .val (.long q0), .second, .val (.int p4)] [(.ref b5)])) _
        refine st158.trans ?_
        show Steps p.tables e below (T158.setTop (mkF m 155 #[.val (.long q0), .second, .val (.long q1), .second, .val (.int p2), .val (.int p3), .val (.int p4), .val (.int p5), .val (.ref b1), .val (.ref b5), .val .null, .val (.ref b31), .val (.int (1 : Int32)), .val (.ref b31), .val (.long q1), .second, .val (.long q0), .second, .val (.int p4)] [(.int p4)])) _
        refine XS.iload X158.here hx rfl (hb hby at_155) rfl ?_
        show Steps p.tables e below (T158.setTop (mkF m 157 #[.val (.long q0), .second, .val (.long q1), .second, .val (.int p2), .val (.int p3), .val (.int p4), .val (.int p5), .val (.ref b1), .val (.ref b5), .val .null, .val (.ref b31), .val (.int (1 : Int32)), .val (.ref b31), .val (.long q1), .second, .val (.long q0), .second, .val (.int p4)] [(.int p4), (.int p4)])) _
        refine XS.icmpNo X158.here hx rfl (hb hby at_157) rfl (teq (rfl : p4 = p4)).2 ?_
        show Steps p.tables e below (T158.setTop (mkF m 160 #[.val (.long q0), .second, .val (.long q1), .second, .val (.int p2), .val (.int p3), .val (.int p4), .val (.int p5), .val (.ref b1), .val (.ref b5), .val .null, .val (.ref b31), .val (.int (1 : Int32)), .val (.ref b31), .val (.long q1), .second, .val (.long q0), .second, .val (.int p4)] [])) _
        refine XS.aload X158.here hx rfl (hb hby at_160) rfl rfl ?_
        show Steps p.tables e below (T158.setTop (mkF m 162 #[.val (.long q0), .second, .val (.long q1), .second, .val (.int p2), .val (.int p3), .val (.int p4), .val (.int p5), .val (.ref b1), .val (.ref b5), .val .null, .val (.ref b31), .val (.int (1 : Int32)), .val (.ref b31), .val (.long q1), .second, .val (.long q0), .second, .val (.int p4)] [(.ref b5)])) _
        refine st163.trans ?_
        show Steps p.tables e below (T163.setTop (mkF m 165 #[.val (.long q0), .second, .val (.long q1), .second, .val (.int p2), .val (.int p3), .val (.int p4), .val (.int p5), .val (.ref b1), .val (.ref b5), .val .null, .val (.ref b31), .val (.int (1 : Int32)), .val (.ref b31), .val (.long q1), .second, .val (.long q0), .second, .val (.int p4)] [(.int p3)])) _
        refine XS.iload X163.here hx rfl (hb hby at_165) rfl ?_
        show Steps p.tables e below (T163.setTop (mkF m 167 #[.val (.long q0), .second, .val (.long q1), .second, .val (.int p2), .val (.int p3), .val (.int p4), .val (.int p5), .val (.ref b1), .val (.ref b5), .val .null, .val (.ref b31), .val (.int (1 : Int32)), .val (.ref b31), .val (.long q1), .second, .val (.long q0), .second, .val (.int p4)] [(.int p3), (.int p3)])) _
        refine XS.icmpNo X163.here hx rfl (hb hby at_167) rfl (teq (rfl : p3 = p3)).2 ?_
        show Steps p.tables e below (T163.setTop (mkF m 170 #[.val (.long q0), .second, .val (.long q1), .second, .val (.int p2), .val (.int p3), .val (.int p4), .val (.int p5), .val (.ref b1), .val (.ref b5), .val .null, .val (.ref b31), .val (.int (1 : Int32)), .val (.ref b31), .val (.long q1), .second, .val (.long q0), .second, .val (.int p4)] [])) _
        refine XS.aload X163.here hx rfl (hb hby at_170) rfl rfl ?_
        show Steps p.tables e below (T163.setTop (mkF m 172 #[.val (.long q0), .second, .val (.long q1), .second, .val (.int p2), .val (.int p3), .val (.int p4), .val (.int p5), .val (.ref b1), .val (.ref b5), .val .null, .val (.ref b31), .val (.int (1 : Int32)), .val (.ref b31), .val (.long q1), .second, .val (.long q0), .second, .val (.int p4)] [(.ref b5)])) _
        refine st168.trans ?_
        show Steps p.tables e below (T168.setTop (mkF m 175 #[.val (.long q0), .second, .val (.long q1), .second, .val (.int p2), .val (.int p3), .val (.int p4), .val (.int p5), .val (.ref b1), .val (.ref b5), .val .null, .val (.ref b31), .val (.int (1 : Int32)), .val (.ref b31), .val (.long q1), .second, .val (.long q0), .second, .val (.int p4)] [(.int p4)])) _
        refine XS.iload X168.here hx rfl (hb hby at_175) rfl ?_
        show Steps p.tables e below (T168.setTop (mkF m 177 #[.val (.long q0), .second, .val (.long q1), .second, .val (.int p2), .val (.int p3), .val (.int p4), .val (.int p5), .val (.ref b1), .val (.ref b5), .val .null, .val (.ref b31), .val (.int (1 : Int32)), .val (.ref b31), .val (.long q1), .second, .val (.long q0), .second, .val (.int p4)] [(.int p4), (.int p4)])) _
        refine XS.icmpNo X168.here hx rfl (hb hby at_177) rfl (teq (rfl : p4 = p4)).2 ?_
        exact kt
      have zs173 : n0 ≤ T130.heap.size := Nat.le_trans Z0 k138.1
      obtain ⟨cq175, kq175, q175a, q175b, q175c⟩ := isOf hZ eq170 f136
      obtain ⟨_, _, ⟨T174, L174, k174, n174⟩, -, X174, ⟨Lc174, hQ174, l174, y174, z174⟩, st174⟩ := X168.virtualBack hx (y := (⟨"com/example/interleave/interleave/check/Expansion", "sourceBytes", "()[B"⟩ : MethodName)) (z := (⟨"com/example/interleave/interleave/check/Expansion", "sourceBytes", "()[B"⟩ : MethodName)) hown (mvT hZ (hw _ (List.mem_of_getElem? (i := 89) rfl))) (mvT hZ (hw _ (List.mem_of_getElem? (i := 90) rfl))) (notFace_of_selects (args := #[]) (mvT hZ (hw _ (List.mem_of_getElem? (i := 92) rfl)))) (mvT hZ (hw _ (List.mem_of_getElem? (i := 92) rfl))) (mvT hZ (hw _ (List.mem_of_getElem? (i := 91) rfl))) (by decide) (backOf (W := 0) (own_rm_gsb l Z a0 hw [] b5 b1 T130.heap n0 zs173 c132_6) hZ (hw _ (List.mem_of_getElem? (i := 93) rfl)) (hw _ (List.mem_of_getElem? (i := 3) rfl)) (by decide) (by decide)) q175a q175c (g := (mkF m 182 #[.val (.long q0), .second, .val (.long q1), .second, .val (.int p2), .val (.int p3), .val (.int p4), .val (.int p5), .val (.ref b1), .val (.ref b5), .val .null, .val (.ref b31), .val (.int (1 : Int32)), .val (.ref b31), .val (.long q1), .second, .val (.long q0), .second, .val (.int p4)] [(.ref b5)])) rfl (by rw [hml]; rfl) (Steps.refl _) (argsL := []) (rest := []) (lenOf own_pd6 rfl) rfl (by show 2 * 0 + _ ≤ _; exact Nat.le_of_eq rfl) (hb hby at_182) (fun _ _ => ⟨rfl, eq170, (by decide : 5 + 0 ≤ _), (by decide : 31 + 0 ≤ _)⟩)
      dsimp only [Pt.U, Pt.locs, Pt.cells, Pt.slots] at X174 l174 y174 z174 st174 hQ174
      rw [l174, (y174 : k174 = 5), (z174 : n174 = 31)] at X174
      clear l174 y174 z174
      obtain ⟨rfl, N176, eq176⟩ := hQ174
      have nf177 := Fr.app nf171 N176
      have pre178 : ∀ t, Steps p.tables e below (T174.setTop (mkF m 195 #[.val (.long q0), .second, .val (.long q1), .second, .val (.int p2), .val (.int p3), .val (.int p4), .val (.int p5), .val (.ref b1), .val (.ref b5), .val .null, .val (.ref b31), .val (.int (1 : Int32)), .val (.ref b31), .val (.long q1), .second, .val (.long q0), .second, .val (.int p4)] [(.int (1 : Int32))])) t → Steps p.tables e below (s₁.setTop (entryFrame m #[(.long q0), (.long q1), (.int p2), (.int p3), (.int p4), (.int p5)] maxLocals)) t := by
        intro t kt
        refine pre172 t ?_
        show Steps p.tables e below (T168.setTop (mkF m 180 #[.val (.long q0), .second, .val (.long q1), .second, .val (.int p2), .val (.int p3), .val (.int p4), .val (.int p5), .val (.ref b1), .val (.ref b5), .val .null, .val (.ref b31), .val (.int (1 : Int32)), .val (.ref b31), .val (.long q1), .second, .val (.long q0), .second, .val (.int p4)] [])) _
        refine XS.aload X168.here hx rfl (hb hby at_180) rfl rfl ?_
        show Steps p.tables e below (T168.setTop (mkF m 182 #[.val (.long q0), .second, .val (.long q1), .second, .val (.int p2), .val (.int p3), .val (.int p4), .val (.int p5), .val (.ref b1), .val (.ref b5), .val .null, .val (.ref b31), .val (.int (1 : Int32)), .val (.ref b31), .val (.long q1), .second, .val (.long q0), .second, .val (.int p4)] [(.ref b5)])) _
        refine st174.trans ?_
        show Steps p.tables e below (T174.setTop (mkF m 185 #[.val (.long q0), .second, .val (.long q1), .second, .val (.int p2), .val (.int p3), .val (.int p4), .val (.int p5), .val (.ref b1), .val (.ref b5), .val .null, .val (.ref b31), .val (.int (1 : Int32)), .val (.ref b31), .val (.long q1), .second, .val (.long q0), .second, .val (.int p4)] [(.ref b1)])) _
        refine XS.aload X174.here hx rfl (hb hby at_185) rfl rfl ?_
        show Steps p.tables e below (T174.setTop (mkF m 187 #[.val (.long q0), .second, .val (.long q1), .second, .val (.int p2), .val (.int p3), .val (.int p4), .val (.int p5), .val (.ref b1), .val (.ref b5), .val .null, .val (.ref b31), .val (.int (1 : Int32)), .val (.ref b31), .val (.long q1), .second, .val (.long q0), .second, .val (.int p4)] [(.ref b1), (.ref b1)])) _
        refine Jvm.RoadKit.acmp (g := (mkF m 187 #[.val (.long q0), .second, .val (.long q1), .second, .val (.int p2), .val (.int p3), .val (.int p4), .val (.int p5), .val (.ref b1), .val (.ref b5), .val .null, .val (.ref b31), .val (.int (1 : Int32)), .val (.ref b31), .val (.long q1), .second, .val (.long q0), .second, .val (.int p4)] [(.ref b1), (.ref b1)])) X174 hx rfl rfl rfl (pc0 := 187) (pc' := 190) (same := true) rfl (hb hby at_187) rfl (decide_eq_true rfl) (by decide) (by decide) ?_
        show Steps p.tables e below (T174.setTop (mkF m 190 #[.val (.long q0), .second, .val (.long q1), .second, .val (.int p2), .val (.int p3), .val (.int p4), .val (.int p5), .val (.ref b1), .val (.ref b5), .val .null, .val (.ref b31), .val (.int (1 : Int32)), .val (.ref b31), .val (.long q1), .second, .val (.long q0), .second, .val (.int p4)] [])) _
        refine XS.iconst X174.here hx rfl (hb hby at_190) ?_
        show Steps p.tables e below (T174.setTop (mkF m 191 #[.val (.long q0), .second, .val (.long q1), .second, .val (.int p2), .val (.int p3), .val (.int p4), .val (.int p5), .val (.ref b1), .val (.ref b5), .val .null, .val (.ref b31), .val (.int (1 : Int32)), .val (.ref b31), .val (.long q1), .second, .val (.long q0), .second, .val (.int p4)] [(.int (1 : Int32))])) _
        refine XS.goto X174.here hx rfl (pc0 := 191) (pc' := 195) rfl (hb hby at_191) (by decide) (by decide) ?_
        exact kt
      obtain ⟨fs, hr, hrun, hended, hW, hsame⟩ := X174.leave (v := some (.int (1 : Int32))) (fun h => by rw [Bd.returns] at h; cases h)
      refine ⟨_, _, pre178 _ ?_, hrun, hended, _, _, rfl, ?_, ⟨_, rfl⟩, hW, hsame.mono (by decide) (by decide)⟩
      · show Steps p.tables e below (T174.setTop (mkF m 195 #[.val (.long q0), .second, .val (.long q1), .second, .val (.int p2), .val (.int p3), .val (.int p4), .val (.int p5), .val (.ref b1), .val (.ref b5), .val .null, .val (.ref b31), .val (.int (1 : Int32)), .val (.ref b31), .val (.long q1), .second, .val (.long q0), .second, .val (.int p4)] [(.int (1 : Int32))])) _
        exact retN X174 hx (t := .boolean) Bd.returns (by simp) (hb hby at_195) hr
      · show own_Q_law Z q0 q1 p2 p3 p4 p5 aS h0 n0 (some (.int (1 : Int32))) T174.heap _
        rw [eq176]
        exact ⟨rfl, nf177⟩
  · obtain ⟨T179, h179, X179, e179, E179, A179, D179, -, st179⟩ := newO X20 hx hZ hown (hw _ (List.mem_of_getElem? (i := 44) rfl)) (hw _ (List.mem_of_getElem? (i := 11) rfl)) (hw _ (List.mem_of_getElem? (i := 12) rfl)) rfl (g := (mkF m 27 #[.val (.long q0), .second, .val (.long q1), .second, .val (.int p2), .val (.int p3), .val (.int p4), .val (.int p5), .val (.ref b1), .val (.ref b5), .unset, .unset, .unset, .unset, .unset, .unset, .unset, .unset, .unset] [])) rfl (hb hby at_27) (by decide) (by decide)
    obtain ⟨b179, g179⟩ : ∃ z, z = T20.heap.size := ⟨_, rfl⟩
    rw [← g179] at A179 D179 st179
    have sz_b179 : h0.size ≤ b179 := Nat.le_trans k26.1 (Nat.le_of_eq g179.symm)
    have gn_b179 : n0 ≤ b179 := Nat.le_trans Z0 sz_b179
    have ne_b1_b179 : b1 ≠ b179 := Nat.ne_of_lt (Nat.lt_of_lt_of_le f24.lt (Nat.le_of_eq g179.symm))
    have ne_b5_b179 : b5 ≠ b179 := Nat.ne_of_lt (Nat.lt_of_lt_of_le c21_6.lt (Nat.le_of_eq g179.symm))
    have f180 := f22.ext E179
    have f181 := f23.ext E179
    have f182 := f24.ext E179
    have f183 := f25.ext E179
    have f184 := c21_0.ext E179
    have f185 := c21_1.ext E179
    have f186 := c21_2.ext E179
    have f187 := c21_3.ext E179
    have f188 := c21_4.ext E179
    have f189 := c21_5.ext E179
    have f190 := c21_6.ext E179
    have k191 := k26.ext E179
    have f192 : Fld Z h179 b179 "java/util/AbstractList" "modCount" "I" (.int (0 : Int32)) := D179 (Or.inl (hw _ (List.mem_of_getElem? (i := 30) rfl))) (ty := .int) (by decide)
    have f193 : Fld Z h179 b179 "java/util/ArrayList" "elementData" "[Ljava/lang/Object;" .null := D179 (Or.inl (hw _ (List.mem_of_getElem? (i := 33) rfl))) (ty := (.array (.object "java/lang/Object"))) (by decide)
    have zs194 : n0 ≤ h179.size := Nat.le_trans Z0 k191.1
    obtain ⟨_, _, ⟨T195, L195, k195, n195⟩, -, X195, ⟨Lc195, hQ195, l195, y195, z195⟩, st195⟩ := X179.specialBack hx (y := (⟨"java/util/ArrayList", "<init>", "()V"⟩ : MethodName)) rfl hown (mvT hZ (hw _ (List.mem_of_getElem? (i := 45) rfl))) (mvT hZ (hw _ (List.mem_of_getElem? (i := 14) rfl))) (mvT hZ (hw _ (List.mem_of_getElem? (i := 15) rfl))) (by decide) (backOf (W := 1) (own_rm_al l Z a0 hw [] b179 aS h179 n0 zs194 f180 A179 f192 f193 gn_b179) hZ (hw _ (List.mem_of_getElem? (i := 15) rfl)) (hw _ (List.mem_of_getElem? (i := 12) rfl)) (by decide) (by decide)) (g := (mkF m 31 #[.val (.long q0), .second, .val (.long q1), .second, .val (.int p2), .val (.int p3), .val (.int p4), .val (.int p5), .val (.ref b1), .val (.ref b5), .unset, .unset, .unset, .unset, .unset, .unset, .unset, .unset, .unset] [(.ref b179), (.ref b179)])) rfl (by rw [hml]; rfl) (Steps.refl _) (a := b179) (argsL := []) (rest := [(.ref b179)]) (lenOf own_pd0 rfl) rfl (by show 2 * 0 + _ ≤ _; exact Nat.le_of_eq rfl) (hb hby at_31) (fun _ _ => ⟨rfl, e179, (by decide : 5 + 0 ≤ _), (by decide : 31 + 0 ≤ _)⟩)
    dsimp only [Pt.U, Pt.locs, Pt.cells, Pt.slots] at X195 l195 y195 z195 st195 hQ195
    rw [l195, (y195 : k195 = 5), (z195 : n195 = 31)] at X195
    clear l195 y195 z195
    obtain ⟨rfl, N196, K196⟩ := hQ195
    have f197 := own_sta_keep f180 K196 (own_pl_cons A179 all0)
    have f198 := f181.keep K196
    have f199 := f182.keep K196 (ninS ne_b1_b179 nin0)
    have f200 := f183.keep K196
    have f201 := f184.keep K196 (ninS ne_b5_b179 nin0)
    have f202 := f185.keep K196 (ninS ne_b5_b179 nin0)
    have f203 := f186.keep K196 (ninS ne_b5_b179 nin0)
    have f204 := f187.keep K196 (ninS ne_b5_b179 nin0)
    have f205 := f188.keep K196 (ninS ne_b5_b179 nin0)
    have f206 := f189.keep K196 (ninS ne_b5_b179 nin0)
    have f207 := f190.keep K196 (ninS ne_b5_b179 nin0)
    have f208 := A179.keep K196
    have k209 := k191.trans K196 (allS (Or.inr sz_b179) all0)
    have nf210 := Fr.app nf27 N196
    obtain ⟨T211, h211, X211, e211, E211, A211, D211, -, st211⟩ := newO X195 hx hZ hown (hw _ (List.mem_of_getElem? (i := 44) rfl)) (hw _ (List.mem_of_getElem? (i := 11) rfl)) (hw _ (List.mem_of_getElem? (i := 12) rfl)) rfl (g := (mkF m 40 #[.val (.long q0), .second, .val (.long q1), .second, .val (.int p2), .val (.int p3), .val (.int p4), .val (.int p5), .val (.ref b1), .val (.ref b5), .val (.ref b179), .unset, .unset, .unset, .unset, .unset, .unset, .unset, .unset] [])) rfl (hb hby at_40) (by decide) (by decide)
    obtain ⟨b211, g211⟩ : ∃ z, z = T195.heap.size := ⟨_, rfl⟩
    rw [← g211] at A211 D211 st211
    have sz_b211 : h0.size ≤ b211 := Nat.le_trans k209.1 (Nat.le_of_eq g211.symm)
    have gn_b211 : n0 ≤ b211 := Nat.le_trans Z0 sz_b211
    have ne_b1_b211 : b1 ≠ b211 := Nat.ne_of_lt (Nat.lt_of_lt_of_le f199.lt (Nat.le_of_eq g211.symm))
    have ne_b5_b211 : b5 ≠ b211 := Nat.ne_of_lt (Nat.lt_of_lt_of_le f207.lt (Nat.le_of_eq g211.symm))
    have ne_b179_b211 : b179 ≠ b211 := Nat.ne_of_lt (Nat.lt_of_lt_of_le f208.lt (Nat.le_of_eq g211.symm))
    have f212 := f197.ext E211
    have f213 := f198.ext E211
    have f214 := f199.ext E211
    have f215 := f200.ext E211
    have f216 := f201.ext E211
    have f217 := f202.ext E211
    have f218 := f203.ext E211
    have f219 := f204.ext E211
    have f220 := f205.ext E211
    have f221 := f206.ext E211
    have f222 := f207.ext E211
    have f223 := f208.ext E211
    have k224 := k209.ext E211
    have f225 : Fld Z h211 b211 "java/util/AbstractList" "modCount" "I" (.int (0 : Int32)) := D211 (Or.inl (hw _ (List.mem_of_getElem? (i := 30) rfl))) (ty := .int) (by decide)
    have f226 : Fld Z h211 b211 "java/util/ArrayList" "elementData" "[Ljava/lang/Object;" .null := D211 (Or.inl (hw _ (List.mem_of_getElem? (i := 33) rfl))) (ty := (.array (.object "java/lang/Object"))) (by decide)
    have zs227 : n0 ≤ h211.size := Nat.le_trans Z0 k224.1
    obtain ⟨_, _, ⟨T228, L228, k228, n228⟩, -, X228, ⟨Lc228, hQ228, l228, y228, z228⟩, st228⟩ := X211.specialBack hx (y := (⟨"java/util/ArrayList", "<init>", "()V"⟩ : MethodName)) rfl hown (mvT hZ (hw _ (List.mem_of_getElem? (i := 45) rfl))) (mvT hZ (hw _ (List.mem_of_getElem? (i := 14) rfl))) (mvT hZ (hw _ (List.mem_of_getElem? (i := 15) rfl))) (by decide) (backOf (W := 1) (own_rm_al l Z a0 hw [] b211 aS h211 n0 zs227 f212 A211 f225 f226 gn_b211) hZ (hw _ (List.mem_of_getElem? (i := 15) rfl)) (hw _ (List.mem_of_getElem? (i := 12) rfl)) (by decide) (by decide)) (g := (mkF m 44 #[.val (.long q0), .second, .val (.long q1), .second, .val (.int p2), .val (.int p3), .val (.int p4), .val (.int p5), .val (.ref b1), .val (.ref b5), .val (.ref b179), .unset, .unset, .unset, .unset, .unset, .unset, .unset, .unset] [(.ref b211), (.ref b211)])) rfl (by rw [hml]; rfl) (Steps.refl _) (a := b211) (argsL := []) (rest := [(.ref b211)]) (lenOf own_pd0 rfl) rfl (by show 2 * 0 + _ ≤ _; exact Nat.le_of_eq rfl) (hb hby at_44) (fun _ _ => ⟨rfl, e211, (by decide : 6 + 0 ≤ _), (by decide : 34 + 0 ≤ _)⟩)
    dsimp only [Pt.U, Pt.locs, Pt.cells, Pt.slots] at X228 l228 y228 z228 st228 hQ228
    rw [l228, (y228 : k228 = 6), (z228 : n228 = 34)] at X228
    clear l228 y228 z228
    obtain ⟨rfl, N229, K229⟩ := hQ228
    have f230 := own_sta_keep f212 K229 (own_pl_cons A211 all0)
    have f231 := f213.keep K229
    have f232 := f214.keep K229 (ninS ne_b1_b211 nin0)
    have f233 := f215.keep K229
    have f234 := f216.keep K229 (ninS ne_b5_b211 nin0)
    have f235 := f217.keep K229 (ninS ne_b5_b211 nin0)
    have f236 := f218.keep K229 (ninS ne_b5_b211 nin0)
    have f237 := f219.keep K229 (ninS ne_b5_b211 nin0)
    have f238 := f220.keep K229 (ninS ne_b5_b211 nin0)
    have f239 := f221.keep K229 (ninS ne_b5_b211 nin0)
    have f240 := f222.keep K229 (ninS ne_b5_b211 nin0)
    have f241 := f223.keep K229
    have f242 := A211.keep K229
    have k243 := k224.trans K229 (allS (Or.inr sz_b211) all0)
    have nf244 := Fr.app nf210 N229
    have pre245 : ∀ t, Steps p.tables e below (T228.setTop (mkF m 52 #[.val (.long q0), .second, .val (.long q1), .second, .val (.int p2), .val (.int p3), .val (.int p4), .val (.int p5), .val (.ref b1), .val (.ref b5), .val (.ref b179), .val (.ref b211), .unset, .unset, .unset, .unset, .unset, .unset, .unset] [(.int (2 : Int32)), (.int p5)])) t → Steps p.tables e below (s₁.setTop (entryFrame m #[(.long q0), (.long q1), (.int p2), (.int p3), (.int p4), (.int p5)] maxLocals)) t := by
      intro t kt
      refine pre29 t ?_
      show Steps p.tables e below (T20.setTop (mkF m 24 #[.val (.long q0), .second, .val (.long q1), .second, .val (.int p2), .val (.int p3), .val (.int p4), .val (.int p5), .val (.ref b1), .val (.ref b5), .unset, .unset, .unset, .unset, .unset, .unset, .unset, .unset, .unset] [(.int (p5 &&& (1 : Int32)))])) _
      refine XS.ifNo X20.here hx rfl (hb hby at_24) rfl ((if0 _ _).trans (feq hc30).1) ?_
      show Steps p.tables e below (T20.setTop (mkF m 27 #[.val (.long q0), .second, .val (.long q1), .second, .val (.int p2), .val (.int p3), .val (.int p4), .val (.int p5), .val (.ref b1), .val (.ref b5), .unset, .unset, .unset, .unset, .unset, .unset, .unset, .unset, .unset] [])) _
      refine st179 _ ?_
      show Steps p.tables e below (T179.setTop (mkF m 30 #[.val (.long q0), .second, .val (.long q1), .second, .val (.int p2), .val (.int p3), .val (.int p4), .val (.int p5), .val (.ref b1), .val (.ref b5), .unset, .unset, .unset, .unset, .unset, .unset, .unset, .unset, .unset] [(.ref b179)])) _
      refine XS.dup X179.here hx rfl (hb hby at_30) rfl rfl ?_
      show Steps p.tables e below (T179.setTop (mkF m 31 #[.val (.long q0), .second, .val (.long q1), .second, .val (.int p2), .val (.int p3), .val (.int p4), .val (.int p5), .val (.ref b1), .val (.ref b5), .unset, .unset, .unset, .unset, .unset, .unset, .unset, .unset, .unset] [(.ref b179), (.ref b179)])) _
      refine st195.trans ?_
      show Steps p.tables e below (T195.setTop (mkF m 34 #[.val (.long q0), .second, .val (.long q1), .second, .val (.int p2), .val (.int p3), .val (.int p4), .val (.int p5), .val (.ref b1), .val (.ref b5), .unset, .unset, .unset, .unset, .unset, .unset, .unset, .unset, .unset] [(.ref b179)])) _
      refine XS.goto X195.here hx rfl (pc0 := 34) (pc' := 38) rfl (hb hby at_34) (by decide) (by decide) ?_
      show Steps p.tables e below (T195.setTop (mkF m 38 #[.val (.long q0), .second, .val (.long q1), .second, .val (.int p2), .val (.int p3), .val (.int p4), .val (.int p5), .val (.ref b1), .val (.ref b5), .unset, .unset, .unset, .unset, .unset, .unset, .unset, .unset, .unset] [(.ref b179)])) _
      refine XS.astore X195.here hx rfl (hb hby at_38) rfl rfl (l' := #[.val (.long q0), .second, .val (.long q1), .second, .val (.int p2), .val (.int p3), .val (.int p4), .val (.int p5), .val (.ref b1), .val (.ref b5), .val (.ref b179), .unset, .unset, .unset, .unset, .unset, .unset, .unset, .unset]) rfl ?_
      show Steps p.tables e below (T195.setTop (mkF m 40 #[.val (.long q0), .second, .val (.long q1), .second, .val (.int p2), .val (.int p3), .val (.int p4), .val (.int p5), .val (.ref b1), .val (.ref b5), .val (.ref b179), .unset, .unset, .unset, .unset, .unset, .unset, .unset, .unset] [])) _
      refine st211 _ ?_
      show Steps p.tables e below (T211.setTop (mkF m 43 #[.val (.long q0), .second, .val (.long q1), .second, .val (.int p2), .val (.int p3), .val (.int p4), .val (.int p5), .val (.ref b1), .val (.ref b5), .val (.ref b179), .unset, .unset, .unset, .unset, .unset, .unset, .unset, .unset] [(.ref b211)])) _
      refine XS.dup X211.here hx rfl (hb hby at_43) rfl rfl ?_
      show Steps p.tables e below (T211.setTop (mkF m 44 #[.val (.long q0), .second, .val (.long q1), .second, .val (.int p2), .val (.int p3), .val (.int p4), .val (.int p5), .val (.ref b1), .val (.ref b5), .val (.ref b179), .unset, .unset, .unset, .unset, .unset, .unset, .unset, .unset] [(.ref b211), (.ref b211)])) _
      refine st228.trans ?_
      show Steps p.tables e below (T228.setTop (mkF m 47 #[.val (.long q0), .second, .val (.long q1), .second, .val (.int p2), .val (.int p3), .val (.int p4), .val (.int p5), .val (.ref b1), .val (.ref b5), .val (.ref b179), .unset, .unset, .unset, .unset, .unset, .unset, .unset, .unset] [(.ref b211)])) _
      refine XS.astore X228.here hx rfl (hb hby at_47) rfl rfl (l' := #[.val (.long q0), .second, .val (.long q1), .second, .val (.int p2), .val (.int p3), .val (.int p4), .val (.int p5), .val (.ref b1), .val (.ref b5), .val (.ref b179), .val (.ref b211), .unset, .unset, .unset, .unset, .unset, .unset, .unset]) rfl ?_
      show Steps p.tables e below (T228.setTop (mkF m 49 #[.val (.long q0), .second, .val (.long q1), .second, .val (.int p2), .val (.int p3), .val (.int p4), .val (.int p5), .val (.ref b1), .val (.ref b5), .val (.ref b179), .val (.ref b211), .unset, .unset, .unset, .unset, .unset, .unset, .unset] [])) _
      refine XS.iload X228.here hx rfl (hb hby at_49) rfl ?_
      show Steps p.tables e below (T228.setTop (mkF m 51 #[.val (.long q0), .second, .val (.long q1), .second, .val (.int p2), .val (.int p3), .val (.int p4), .val (.int p5), .val (.ref b1), .val (.ref b5), .val (.ref b179), .val (.ref b211), .unset, .unset, .unset, .unset, .unset, .unset, .unset] [(.int p5)])) _
      refine XS.iconst X228.here hx rfl (hb hby at_51) ?_
      exact kt
    have pre246 : ∀ t, Steps p.tables e below (T228.setTop (mkF m 53 #[.val (.long q0), .second, .val (.long q1), .second, .val (.int p2), .val (.int p3), .val (.int p4), .val (.int p5), .val (.ref b1), .val (.ref b5), .val (.ref b179), .val (.ref b211), .unset, .unset, .unset, .unset, .unset, .unset, .unset] [(.int (p5 &&& (2 : Int32)))])) t → Steps p.tables e below (s₁.setTop (entryFrame m #[(.long q0), (.long q1), (.int p2), (.int p3), (.int p4), (.int p5)] maxLocals)) t := by
      intro t kt
      refine pre245 t ?_
      show Steps p.tables e below (T228.setTop (mkF m 52 #[.val (.long q0), .second, .val (.long q1), .second, .val (.int p2), .val (.int p3), .val (.int p4), .val (.int p5), .val (.ref b1), .val (.ref b5), .val (.ref b179), .val (.ref b211), .unset, .unset, .unset, .unset, .unset, .unset, .unset] [(.int (2 : Int32)), (.int p5)])) _
      refine XS.iand X228.here hx rfl (hb hby at_52) rfl ?_
      exact kt
    by_cases hc247 : (p5 &&& (2 : Int32)) = (0 : Int32)
    · have zs248 : n0 ≤ T228.heap.size := Nat.le_trans Z0 k243.1
      obtain ⟨cq250, kq250, q250a, q250b, q250c⟩ := isOf hZ rfl f233
      obtain ⟨_, _, ⟨T249, L249, k249, n249⟩, -, X249, ⟨Lc249, hQ249, l249, y249, z249⟩, st249⟩ := X228.virtualBack hx (y := (⟨"com/example/interleave/interleave/check/Expansion", "tookIn", "(Ljava/util/List;JJI)V"⟩ : MethodName)) (z := (⟨"com/example/interleave/interleave/check/Expansion", "tookIn", "(Ljava/util/List;JJI)V"⟩ : MethodName)) hown (mvT hZ (hw _ (List.mem_of_getElem? (i := 46) rfl))) (mvT hZ (hw _ (List.mem_of_getElem? (i := 47) rfl))) (notFace_of_selects (args := #[]) (mvT hZ (hw _ (List.mem_of_getElem? (i := 49) rfl)))) (mvT hZ (hw _ (List.mem_of_getElem? (i := 49) rfl))) (mvT hZ (hw _ (List.mem_of_getElem? (i := 48) rfl))) (by decide) (backOf (W := 0) (own_rm_tkR l Z a0 hw [] b5 b179 q0 q1 p2 .null (.long (0 : Int64)) (.long (0 : Int64)) (.int (0 : Int32)) p3 p4 b1 T228.heap n0 zs248 f233 f237 f238 f239 f240 f234 f235 f236 gn_b5) hZ (hw _ (List.mem_of_getElem? (i := 50) rfl)) (hw _ (List.mem_of_getElem? (i := 3) rfl)) (by decide) (by decide)) q250a q250c (g := (mkF m 71 #[.val (.long q0), .second, .val (.long q1), .second, .val (.int p2), .val (.int p3), .val (.int p4), .val (.int p5), .val (.ref b1), .val (.ref b5), .val (.ref b179), .val (.ref b211), .val (.int (0 : Int32)), .unset, .unset, .unset, .unset, .unset, .unset] [(.int p2), (.long q1), (.long q0), (.ref b179), (.ref b5)])) rfl (by rw [hml]; rfl) (Steps.refl _) (argsL := [(.ref b179), (.long q0), (.long q1), (.int p2)]) (rest := []) (lenOf own_pd2 rfl) rfl (by show 2 * 0 + _ ≤ _; exact Nat.le_of_eq rfl) (hb hby at_71) (fun _ _ => ⟨rfl, rfl, (by decide : 6 + 0 ≤ _), (by decide : 34 + 0 ≤ _)⟩)
      dsimp only [Pt.U, Pt.locs, Pt.cells, Pt.slots] at X249 l249 y249 z249 st249 hQ249
      rw [l249, (y249 : k249 = 6), (z249 : n249 = 34)] at X249
      clear l249 y249 z249
      obtain ⟨rfl, N251, K251, c251_0, c251_1, c251_2, c251_3, c251_4, c251_5, c251_6⟩ := hQ249
      have f252 := own_sta_keep f230 K251 (own_pl_cons f233 all0)
      have f253 := f231.keep K251
      have f254 := f232.keep K251 (ninS ne_b1_b5 nin0)
      have f255 := f233.keep K251
      have f256 := f241.keep K251
      have f257 := f242.keep K251
      have k258 := k243.trans K251 (allS (Or.inr sz_b5) all0)
      have nf259 := Fr.app nf244 N251
      have pre260 : ∀ t, Steps p.tables e below (T249.setTop (mkF m 79 #[.val (.long q0), .second, .val (.long q1), .second, .val (.int p2), .val (.int p3), .val (.int p4), .val (.int p5), .val (.ref b1), .val (.ref b5), .val (.ref b179), .val (.ref b211), .val (.int (0 : Int32)), .val (.ref b179), .unset, .unset, .unset, .unset, .unset] [(.long q0)])) t → Steps p.tables e below (s₁.setTop (entryFrame m #[(.long q0), (.long q1), (.int p2), (.int p3), (.int p4), (.int p5)] maxLocals)) t := by
        intro t kt
        refine pre246 t ?_
        show Steps p.tables e below (T228.setTop (mkF m 53 #[.val (.long q0), .second, .val (.long q1), .second, .val (.int p2), .val (.int p3), .val (.int p4), .val (.int p5), .val (.ref b1), .val (.ref b5), .val (.ref b179), .val (.ref b211), .unset, .unset, .unset, .unset, .unset, .unset, .unset] [(.int (p5 &&& (2 : Int32)))])) _
        refine XS.ifYes X228.here hx rfl (pc0 := 53) (pc' := 60) rfl (hb hby at_53) rfl ((if0 _ _).trans (teq hc247).1) (by decide) (by decide) ?_
        show Steps p.tables e below (T228.setTop (mkF m 60 #[.val (.long q0), .second, .val (.long q1), .second, .val (.int p2), .val (.int p3), .val (.int p4), .val (.int p5), .val (.ref b1), .val (.ref b5), .val (.ref b179), .val (.ref b211), .unset, .unset, .unset, .unset, .unset, .unset, .unset] [])) _
        refine XS.iconst X228.here hx rfl (hb hby at_60) ?_
        show Steps p.tables e below (T228.setTop (mkF m 61 #[.val (.long q0), .second, .val (.long q1), .second, .val (.int p2), .val (.int p3), .val (.int p4), .val (.int p5), .val (.ref b1), .val (.ref b5), .val (.ref b179), .val (.ref b211), .unset, .unset, .unset, .unset, .unset, .unset, .unset] [(.int (0 : Int32))])) _
        refine XS.istore X228.here hx rfl (hb hby at_61) rfl (l' := #[.val (.long q0), .second, .val (.long q1), .second, .val (.int p2), .val (.int p3), .val (.int p4), .val (.int p5), .val (.ref b1), .val (.ref b5), .val (.ref b179), .val (.ref b211), .val (.int (0 : Int32)), .unset, .unset, .unset, .unset, .unset, .unset]) rfl ?_
        show Steps p.tables e below (T228.setTop (mkF m 63 #[.val (.long q0), .second, .val (.long q1), .second, .val (.int p2), .val (.int p3), .val (.int p4), .val (.int p5), .val (.ref b1), .val (.ref b5), .val (.ref b179), .val (.ref b211), .val (.int (0 : Int32)), .unset, .unset, .unset, .unset, .unset, .unset] [])) _
        refine XS.aload X228.here hx rfl (hb hby at_63) rfl rfl ?_
        show Steps p.tables e below (T228.setTop (mkF m 65 #[.val (.long q0), .second, .val (.long q1), .second, .val (.int p2), .val (.int p3), .val (.int p4), .val (.int p5), .val (.ref b1), .val (.ref b5), .val (.ref b179), .val (.ref b211), .val (.int (0 : Int32)), .unset, .unset, .unset, .unset, .unset, .unset] [(.ref b5)])) _
        refine XS.aload X228.here hx rfl (hb hby at_65) rfl rfl ?_
        show Steps p.tables e below (T228.setTop (mkF m 67 #[.val (.long q0), .second, .val (.long q1), .second, .val (.int p2), .val (.int p3), .val (.int p4), .val (.int p5), .val (.ref b1), .val (.ref b5), .val (.ref b179), .val (.ref b211), .val (.int (0 : Int32)), .unset, .unset, .unset, .unset, .unset, .unset] [(.ref b179), (.ref b5)])) _
        refine XS.lloadN X228.here hx rfl (hb hby at_67) rfl ?_
        show Steps p.tables e below (T228.setTop (mkF m 68 #[.val (.long q0), .second, .val (.long q1), .second, .val (.int p2), .val (.int p3), .val (.int p4), .val (.int p5), .val (.ref b1), .val (.ref b5), .val (.ref b179), .val (.ref b211), .val (.int (0 : Int32)), .unset, .unset, .unset, .unset, .unset, .unset] [(.long q0), (.ref b179), (.ref b5)])) _
        refine XS.lloadN X228.here hx rfl (hb hby at_68) rfl ?_
        show Steps p.tables e below (T228.setTop (mkF m 69 #[.val (.long q0), .second, .val (.long q1), .second, .val (.int p2), .val (.int p3), .val (.int p4), .val (.int p5), .val (.ref b1), .val (.ref b5), .val (.ref b179), .val (.ref b211), .val (.int (0 : Int32)), .unset, .unset, .unset, .unset, .unset, .unset] [(.long q1), (.long q0), (.ref b179), (.ref b5)])) _
        refine XS.iload X228.here hx rfl (hb hby at_69) rfl ?_
        show Steps p.tables e below (T228.setTop (mkF m 71 #[.val (.long q0), .second, .val (.long q1), .second, .val (.int p2), .val (.int p3), .val (.int p4), .val (.int p5), .val (.ref b1), .val (.ref b5), .val (.ref b179), .val (.ref b211), .val (.int (0 : Int32)), .unset, .unset, .unset, .unset, .unset, .unset] [(.int p2), (.long q1), (.long q0), (.ref b179), (.ref b5)])) _
        refine st249.trans ?_
        show Steps p.tables e below (T249.setTop (mkF m 74 #[.val (.long q0), .second, .val (.long q1), .second, .val (.int p2), .val (.int p3), .val (.int p4), .val (.int p5), .val (.ref b1), .val (.ref b5), .val (.ref b179), .val (.ref b211), .val (.int (0 : Int32)), .unset, .unset, .unset, .unset, .unset, .unset] [])) _
        refine XS.aload X249.here hx rfl (hb hby at_74) rfl rfl ?_
        show Steps p.tables e below (T249.setTop (mkF m 76 #[.val (.long q0), .second, .val (.long q1), .second, .val (.int p2), .val (.int p3), .val (.int p4), .val (.int p5), .val (.ref b1), .val (.ref b5), .val (.ref b179), .val (.ref b211), .val (.int (0 : Int32)), .unset, .unset, .unset, .unset, .unset, .unset] [(.ref b179)])) _
        refine XS.astore X249.here hx rfl (hb hby at_76) rfl rfl (l' := #[.val (.long q0), .second, .val (.long q1), .second, .val (.int p2), .val (.int p3), .val (.int p4), .val (.int p5), .val (.ref b1), .val (.ref b5), .val (.ref b179), .val (.ref b211), .val (.int (0 : Int32)), .val (.ref b179), .unset, .unset, .unset, .unset, .unset]) rfl ?_
        show Steps p.tables e below (T249.setTop (mkF m 78 #[.val (.long q0), .second, .val (.long q1), .second, .val (.int p2), .val (.int p3), .val (.int p4), .val (.int p5), .val (.ref b1), .val (.ref b5), .val (.ref b179), .val (.ref b211), .val (.int (0 : Int32)), .val (.ref b179), .unset, .unset, .unset, .unset, .unset] [])) _
        refine XS.lloadN X249.here hx rfl (hb hby at_78) rfl ?_
        exact kt
      have zs261 : n0 ≤ T249.heap.size := Nat.le_trans Z0 k258.1
      obtain ⟨cq263, kq263, q263a, q263b, q263c⟩ := isOf hZ rfl f255
      obtain ⟨_, _, ⟨T262, L262, k262, n262⟩, -, X262, ⟨Lc262, hQ262, l262, y262, z262⟩, st262⟩ := X249.virtualBack hx (y := (⟨"com/example/interleave/interleave/check/Expansion", "fresh", "()Ljava/util/List;"⟩ : MethodName)) (z := (⟨"com/example/interleave/interleave/check/Expansion", "fresh", "()Ljava/util/List;"⟩ : MethodName)) hown (mvT hZ (hw _ (List.mem_of_getElem? (i := 59) rfl))) (mvT hZ (hw _ (List.mem_of_getElem? (i := 60) rfl))) (notFace_of_selects (args := #[]) (mvT hZ (hw _ (List.mem_of_getElem? (i := 62) rfl)))) (mvT hZ (hw _ (List.mem_of_getElem? (i := 62) rfl))) (mvT hZ (hw _ (List.mem_of_getElem? (i := 61) rfl))) (by decide) (backOf (W := 0) (own_rm_gfR l Z a0 hw [] b5 b179 T249.heap n0 zs261 c251_0) hZ (hw _ (List.mem_of_getElem? (i := 63) rfl)) (hw _ (List.mem_of_getElem? (i := 3) rfl)) (by decide) (by decide)) q263a q263c (g := (mkF m 120 #[.val (.long q0), .second, .val (.long q1), .second, .val (.int p2), .val (.int p3), .val (.int p4), .val (.int p5), .val (.ref b1), .val (.ref b5), .val (.ref b179), .val (.ref b211), .val (.int (0 : Int32)), .val (.ref b179), .val (.long q0), .second, .val (.long q1), .second, .val (.int p2)] [(.ref b5)])) rfl (by rw [hml]; rfl) (Steps.refl _) (argsL := []) (rest := []) (lenOf own_pd3 rfl) rfl (by show 2 * 0 + _ ≤ _; exact Nat.le_of_eq rfl) (hb hby at_120) (fun _ _ => ⟨rfl, rfl, (by decide : 6 + 0 ≤ _), (by decide : 34 + 0 ≤ _)⟩)
      dsimp only [Pt.U, Pt.locs, Pt.cells, Pt.slots] at X262 l262 y262 z262 st262 hQ262
      rw [l262, (y262 : k262 = 6), (z262 : n262 = 34)] at X262
      clear l262 y262 z262
      obtain ⟨rfl, N264, eq264⟩ := hQ262
      have nf265 := Fr.app nf259 N264
      have pre266 : ∀ t, Steps p.tables e below (T262.setTop (mkF m 130 #[.val (.long q0), .second, .val (.long q1), .second, .val (.int p2), .val (.int p3), .val (.int p4), .val (.int p5), .val (.ref b1), .val (.ref b5), .val (.ref b179), .val (.ref b211), .val (.int (0 : Int32)), .val (.ref b179), .val (.long q0), .second, .val (.long q1), .second, .val (.int p2)] [(.ref b5)])) t → Steps p.tables e below (s₁.setTop (entryFrame m #[(.long q0), (.long q1), (.int p2), (.int p3), (.int p4), (.int p5)] maxLocals)) t := by
        intro t kt
        refine pre260 t ?_
        show Steps p.tables e below (T249.setTop (mkF m 79 #[.val (.long q0), .second, .val (.long q1), .second, .val (.int p2), .val (.int p3), .val (.int p4), .val (.int p5), .val (.ref b1), .val (.ref b5), .val (.ref b179), .val (.ref b211), .val (.int (0 : Int32)), .val (.ref b179), .unset, .unset, .unset, .unset, .unset] [(.long q0)])) _
        refine XS.lstore X249.here hx rfl (hb hby at_79) rfl (l' := #[.val (.long q0), .second, .val (.long q1), .second, .val (.int p2), .val (.int p3), .val (.int p4), .val (.int p5), .val (.ref b1), .val (.ref b5), .val (.ref b179), .val (.ref b211), .val (.int (0 : Int32)), .val (.ref b179), .val (.long q0), .second, .unset, .unset, .unset]) rfl ?_
        show Steps p.tables e below (T249.setTop (mkF m 81 #[.val (.long q0), .second, .val (.long q1), .second, .val (.int p2), .val (.int p3), .val (.int p4), .val (.int p5), .val (.ref b1), .val (.ref b5), .val (.ref b179), .val (.ref b211), .val (.int (0 : Int32)), .val (.ref b179), .val (.long q0), .second, .unset, .unset, .unset] [])) _
        refine XS.lloadN X249.here hx rfl (hb hby at_81) rfl ?_
        show Steps p.tables e below (T249.setTop (mkF m 82 #[.val (.long q0), .second, .val (.long q1), .second, .val (.int p2), .val (.int p3), .val (.int p4), .val (.int p5), .val (.ref b1), .val (.ref b5), .val (.ref b179), .val (.ref b211), .val (.int (0 : Int32)), .val (.ref b179), .val (.long q0), .second, .unset, .unset, .unset] [(.long q1)])) _
        refine XS.lstore X249.here hx rfl (hb hby at_82) rfl (l' := #[.val (.long q0), .second, .val (.long q1), .second, .val (.int p2), .val (.int p3), .val (.int p4), .val (.int p5), .val (.ref b1), .val (.ref b5), .val (.ref b179), .val (.ref b211), .val (.int (0 : Int32)), .val (.ref b179), .val (.long q0), .second, .val (.long q1), .second, .unset]) rfl ?_
        show Steps p.tables e below (T249.setTop (mkF m 84 #[.val (.long q0), .second, .val (.long q1), .second, .val (.int p2), .val (.int p3), .val (.int p4), .val (.int p5), .val (.ref b1), .val (.ref b5), .val (.ref b179), .val (.ref b211), .val (.int (0 : Int32)), .val (.ref b179), .val (.long q0), .second, .val (.long q1), .second, .unset] [])) _
        refine XS.iload X249.here hx rfl (hb hby at_84) rfl ?_
        show Steps p.tables e below (T249.setTop (mkF m 86 #[.val (.long q0), .second, .val (.long q1), .second, .val (.int p2), .val (.int p3), .val (.int p4), .val (.int p5), .val (.ref b1), .val (.ref b5), .val (.ref b179), .val (.ref b211), .val (.int (0 : Int32)), .val (.ref b179), .val (.long q0), .second, .val (.long q1), .second, .unset] [(.int p2)])) _
        refine XS.istore X249.here hx rfl (hb hby at_86) rfl (l' := #[.val (.long q0), .second, .val (.long q1), .second, .val (.int p2), .val (.int p3), .val (.int p4), .val (.int p5), .val (.ref b1), .val (.ref b5), .val (.ref b179), .val (.ref b211), .val (.int (0 : Int32)), .val (.ref b179), .val (.long q0), .second, .val (.long q1), .second, .val (.int p2)]) rfl ?_
        show Steps p.tables e below (T249.setTop (mkF m 88 #[.val (.long q0), .second, .val (.long q1), .second, .val (.int p2), .val (.int p3), .val (.int p4), .val (.int p5), .val (.ref b1), .val (.ref b5), .val (.ref b179), .val (.ref b211), .val (.int (0 : Int32)), .val (.ref b179), .val (.long q0), .second, .val (.long q1), .second, .val (.int p2)] [])) _
        refine XS.iload X249.here hx rfl (hb hby at_88) rfl ?_
        show Steps p.tables e below (T249.setTop (mkF m 90 #[.val (.long q0), .second, .val (.long q1), .second, .val (.int p2), .val (.int p3), .val (.int p4), .val (.int p5), .val (.ref b1), .val (.ref b5), .val (.ref b179), .val (.ref b211), .val (.int (0 : Int32)), .val (.ref b179), .val (.long q0), .second, .val (.long q1), .second, .val (.int p2)] [(.int (0 : Int32))])) _
        refine XS.ifYes X249.here hx rfl (pc0 := 90) (pc' := 118) rfl (hb hby at_90) rfl ((if0 _ _).trans (teq (rfl : (0 : Int32) = (0 : Int32))).1) (by decide) (by decide) ?_
        show Steps p.tables e below (T249.setTop (mkF m 118 #[.val (.long q0), .second, .val (.long q1), .second, .val (.int p2), .val (.int p3), .val (.int p4), .val (.int p5), .val (.ref b1), .val (.ref b5), .val (.ref b179), .val (.ref b211), .val (.int (0 : Int32)), .val (.ref b179), .val (.long q0), .second, .val (.long q1), .second, .val (.int p2)] [])) _
        refine XS.aload X249.here hx rfl (hb hby at_118) rfl rfl ?_
        show Steps p.tables e below (T249.setTop (mkF m 120 #[.val (.long q0), .second, .val (.long q1), .second, .val (.int p2), .val (.int p3), .val (.int p4), .val (.int p5), .val (.ref b1), .val (.ref b5), .val (.ref b179), .val (.ref b211), .val (.int (0 : Int32)), .val (.ref b179), .val (.long q0), .second, .val (.long q1), .second, .val (.int p2)] [(.ref b5)])) _
        refine st262.trans ?_
        show Steps p.tables e below (T262.setTop (mkF m 123 #[.val (.long q0), .second, .val (.long q1), .second, .val (.int p2), .val (.int p3), .val (.int p4), .val (.int p5), .val (.ref b1), .val (.ref b5), .val (.ref b179), .val (.ref b211), .val (.int (0 : Int32)), .val (.ref b179), .val (.long q0), .second, .val (.long q1), .second, .val (.int p2)] [(.ref b179)])) _
        refine XS.aload X262.here hx rfl (hb hby at_123) rfl rfl ?_
        show Steps p.tables e below (T262.setTop (mkF m 125 #[.val (.long q0), .second, .val (.long q1), .second, .val (.int p2), .val (.int p3), .val (.int p4), .val (.int p5), .val (.ref b1), .val (.ref b5), .val (.ref b179), .val (.ref b211), .val (.int (0 : Int32)), .val (.ref b179), .val (.long q0), .second, .val (.long q1), .second, .val (.int p2)] [(.ref b179), (.ref b179)])) _
        refine Jvm.RoadKit.acmp (g := (mkF m 125 #[.val (.long q0), .second, .val (.long q1), .second, .val (.int p2), .val (.int p3), .val (.int p4), .val (.int p5), .val (.ref b1), .val (.ref b5), .val (.ref b179), .val (.ref b211), .val (.int (0 : Int32)), .val (.ref b179), .val (.long q0), .second, .val (.long q1), .second, .val (.int p2)] [(.ref b179), (.ref b179)])) X262 hx rfl rfl rfl (pc0 := 125) (pc' := 128) (same := true) rfl (hb hby at_125) rfl (decide_eq_true rfl) (by decide) (by decide) ?_
        show Steps p.tables e below (T262.setTop (mkF m 128 #[.val (.long q0), .second, .val (.long q1), .second, .val (.int p2), .val (.int p3), .val (.int p4), .val (.int p5), .val (.ref b1), .val (.ref b5), .val (.ref b179), .val (.ref b211), .val (.int (0 : Int32)), .val (.ref b179), .val (.long q0), .second, .val (.long q1), .second, .val (.int p2)] [])) _
        refine XS.aload X262.here hx rfl (hb hby at_128) rfl rfl ?_
        exact kt
      have zs267 : n0 ≤ T249.heap.size := Nat.le_trans Z0 k258.1
      obtain ⟨cq269, kq269, q269a, q269b, q269c⟩ := isOf hZ eq264 f255
      obtain ⟨_, _, ⟨T268, L268, k268, n268⟩, -, X268, ⟨Lc268, hQ268, l268, y268, z268⟩, st268⟩ := X262.virtualBack hx (y := (⟨"com/example/interleave/interleave/check/Expansion", "generated", "()J"⟩ : MethodName)) (z := (⟨"com/example/interleave/interleave/check/Expansion", "generated", "()J"⟩ : MethodName)) hown (mvT hZ (hw _ (List.mem_of_getElem? (i := 64) rfl))) (mvT hZ (hw _ (List.mem_of_getElem? (i := 65) rfl))) (notFace_of_selects (args := #[]) (mvT hZ (hw _ (List.mem_of_getElem? (i := 67) rfl)))) (mvT hZ (hw _ (List.mem_of_getElem? (i := 67) rfl))) (mvT hZ (hw _ (List.mem_of_getElem? (i := 66) rfl))) (by decide) (backOf (W := 0) (own_rm_ggn l Z a0 hw [] b5 q0 T249.heap n0 zs267 c251_1) hZ (hw _ (List.mem_of_getElem? (i := 68) rfl)) (hw _ (List.mem_of_getElem? (i := 3) rfl)) (by decide) (by decide)) q269a q269c (g := (mkF m 130 #[.val (.long q0), .second, .val (.long q1), .second, .val (.int p2), .val (.int p3), .val (.int p4), .val (.int p5), .val (.ref b1), .val (.ref b5), .val (.ref b179), .val (.ref b211), .val (.int (0 : Int32)), .val (.ref b179), .val (.long q0), .second, .val (.long q1), .second, .val (.int p2)] [(.ref b5)])) rfl (by rw [hml]; rfl) (Steps.refl _) (argsL := []) (rest := []) (lenOf own_pd4 rfl) rfl (by show 2 * 0 + _ ≤ _; exact Nat.le_of_eq rfl) (hb hby at_130) (fun _ _ => ⟨rfl, eq264, (by decide : 6 + 0 ≤ _), (by decide : 34 + 0 ≤ _)⟩)
      dsimp only [Pt.U, Pt.locs, Pt.cells, Pt.slots] at X268 l268 y268 z268 st268 hQ268
      rw [l268, (y268 : k268 = 6), (z268 : n268 = 34)] at X268
      clear l268 y268 z268
      obtain ⟨rfl, N270, eq270⟩ := hQ268
      have nf271 := Fr.app nf265 N270
      have zs272 : n0 ≤ T249.heap.size := Nat.le_trans Z0 k258.1
      obtain ⟨cq274, kq274, q274a, q274b, q274c⟩ := isOf hZ eq270 f255
      obtain ⟨_, _, ⟨T273, L273, k273, n273⟩, -, X273, ⟨Lc273, hQ273, l273, y273, z273⟩, st273⟩ := X268.virtualBack hx (y := (⟨"com/example/interleave/interleave/check/Expansion", "distinct", "()J"⟩ : MethodName)) (z := (⟨"com/example/interleave/interleave/check/Expansion", "distinct", "()J"⟩ : MethodName)) hown (mvT hZ (hw _ (List.mem_of_getElem? (i := 69) rfl))) (mvT hZ (hw _ (List.mem_of_getElem? (i := 70) rfl))) (notFace_of_selects (args := #[]) (mvT hZ (hw _ (List.mem_of_getElem? (i := 72) rfl)))) (mvT hZ (hw _ (List.mem_of_getElem? (i := 72) rfl))) (mvT hZ (hw _ (List.mem_of_getElem? (i := 71) rfl))) (by decide) (backOf (W := 0) (own_rm_gdi l Z a0 hw [] b5 q1 T249.heap n0 zs272 c251_2) hZ (hw _ (List.mem_of_getElem? (i := 73) rfl)) (hw _ (List.mem_of_getElem? (i := 3) rfl)) (by decide) (by decide)) q274a q274c (g := (mkF m 141 #[.val (.long q0), .second, .val (.long q1), .second, .val (.int p2), .val (.int p3), .val (.int p4), .val (.int p5), .val (.ref b1), .val (.ref b5), .val (.ref b179), .val (.ref b211), .val (.int (0 : Int32)), .val (.ref b179), .val (.long q0), .second, .val (.long q1), .second, .val (.int p2)] [(.ref b5)])) rfl (by rw [hml]; rfl) (Steps.refl _) (argsL := []) (rest := []) (lenOf own_pd4 rfl) rfl (by show 2 * 0 + _ ≤ _; exact Nat.le_of_eq rfl) (hb hby at_141) (fun _ _ => ⟨rfl, eq270, (by decide : 6 + 0 ≤ _), (by decide : 34 + 0 ≤ _)⟩)
      dsimp only [Pt.U, Pt.locs, Pt.cells, Pt.slots] at X273 l273 y273 z273 st273 hQ273
      rw [l273, (y273 : k273 = 6), (z273 : n273 = 34)] at X273
      clear l273 y273 z273
      obtain ⟨rfl, N275, eq275⟩ := hQ273
      have nf276 := Fr.app nf271 N275
      have zs277 : n0 ≤ T249.heap.size := Nat.le_trans Z0 k258.1
      obtain ⟨cq279, kq279, q279a, q279b, q279c⟩ := isOf hZ eq275 f255
      obtain ⟨_, _, ⟨T278, L278, k278, n278⟩, -, X278, ⟨Lc278, hQ278, l278, y278, z278⟩, st278⟩ := X273.virtualBack hx (y := (⟨"com/example/interleave/interleave/check/Expansion", "depth", "()I"⟩ : MethodName)) (z := (⟨"com/example/interleave/interleave/check/Expansion", "depth", "()I"⟩ : MethodName)) hown (mvT hZ (hw _ (List.mem_of_getElem? (i := 74) rfl))) (mvT hZ (hw _ (List.mem_of_getElem? (i := 75) rfl))) (notFace_of_selects (args := #[]) (mvT hZ (hw _ (List.mem_of_getElem? (i := 77) rfl)))) (mvT hZ (hw _ (List.mem_of_getElem? (i := 77) rfl))) (mvT hZ (hw _ (List.mem_of_getElem? (i := 76) rfl))) (by decide) (backOf (W := 0) (own_rm_gde l Z a0 hw [] b5 p2 T249.heap n0 zs277 c251_3) hZ (hw _ (List.mem_of_getElem? (i := 78) rfl)) (hw _ (List.mem_of_getElem? (i := 3) rfl)) (by decide) (by decide)) q279a q279c (g := (mkF m 152 #[.val (.long q0), .second, .val (.long q1), .second, .val (.int p2), .val (.int p3), .val (.int p4), .val (.int p5), .val (.ref b1), .val (.ref b5), .val (.ref b179), .val (.ref b211), .val (.int (0 : Int32)), .val (.ref b179), .val (.long q0), .second, .val (.long q1), .second, .val (.int p2)] [(.ref b5)])) rfl (by rw [hml]; rfl) (Steps.refl _) (argsL := []) (rest := []) (lenOf own_pd5 rfl) rfl (by show 2 * 0 + _ ≤ _; exact Nat.le_of_eq rfl) (hb hby at_152) (fun _ _ => ⟨rfl, eq275, (by decide : 6 + 0 ≤ _), (by decide : 34 + 0 ≤ _)⟩)
      dsimp only [Pt.U, Pt.locs, Pt.cells, Pt.slots] at X278 l278 y278 z278 st278 hQ278
      rw [l278, (y278 : k278 = 6), (z278 : n278 = 34)] at X278
      clear l278 y278 z278
      obtain ⟨rfl, N280, eq280⟩ := hQ278
      have nf281 := Fr.app nf276 N280
      have pre282 : ∀ t, Steps p.tables e below (T278.setTop (mkF m 157 #[.val (.long q0), .second, .val (.long q1), .second, .val (.int p2), .val (.int p3), .val (.int p4), .val (.int p5), .val (.ref b1), .val (.ref b5), .val (.ref b179), .val (.ref b211), .val (.int (0 : Int32)), .val (.ref b179), .val (.long q0), .second, .val (.long q1), .second, .val (.int p2)] [(.int p2), (.int p2)])) t → Steps p.tables e below (s₁.setTop (entryFrame m #[(.long q0), (.long q1), (.int p2), (.int p3), (.int p4), (.int p5)] maxLocals)) t := by
        intro t kt
        refine pre266 t ?_
        show Steps p.tables e below (T262.setTop (mkF m 130 #[.val (.long q0), .second, .val (.long q1), .second, .val (.int p2), .val (.int p3), .val (.int p4), .val (.int p5), .val (.ref b1), .val (.ref b5), .val (.ref b179), .val (.ref b211), .val (.int (0 : Int32)), .val (.ref b179), .val (.long q0), .second, .val (.long q1), .second, .val (.int p2)] [(.ref b5)])) _
        refine st268.trans ?_
        show Steps p.tables e below (T268.setTop (mkF m 133 #[.val (.long q0), .second, .val (.long q1), .second, .val (.int p2), .val (.int p3), .val (.int p4), .val (.int p5), .val (.ref b1), .val (.ref b5), .val (.ref b179), .val (.ref b211), .val (.int (0 : Int32)), .val (.ref b179), .val (.long q0), .second, .val (.long q1), .second, .val (.int p2)] [(.long q0)])) _
        refine XS.lload X268.here hx rfl (hb hby at_133) rfl ?_
        show Steps p.tables e below (T268.setTop (mkF m 135 #[.val (.long q0), .second, .val (.long q1), .second, .val (.int p2), .val (.int p3), .val (.int p4), .val (.int p5), .val (.ref b1), .val (.ref b5), .val (.ref b179), .val (.ref b211), .val (.int (0 : Int32)), .val (.ref b179), .val (.long q0), .second, .val (.long q1), .second, .val (.int p2)] [(.long q0), (.long q0)])) _
        refine XS.lcmp X268.here hx rfl (hb hby at_135) rfl ?_
        show Steps p.tables e below (T268.setTop (mkF m 136 #[.val (.long q0), .second, .val (.long q1), .second, .val (.int p2), .val (.int p3), .val (.int p4), .val (.int p5), .val (.ref b1), .val (.ref b5), .val (.ref b179), .val (.ref b211), .val (.int (0 : Int32)), .val (.ref b179), .val (.long q0), .second, .val (.long q1), .second, .val (.int p2)] [(.int (lcmpW q0 q0))])) _
        refine XS.ifNo X268.here hx rfl (hb hby at_136) rfl ((if0 _ _).trans (teq (own_lc _)).2) ?_
        show Steps p.tables e below (T268.setTop (mkF m 139 #[.val (.long q0), .second, .val (.long q1), .second, .val (.int p2), .val (.int p3), .val (.int p4), .val (.int p5), .val (.ref b1), .val (.ref b5), .val (.ref b179), .val (.ref b211), .val (.int (0 : Int32)), .val (.ref b179), .val (.long q0), .second, .val (.long q1), .second, .val (.int p2)] [])) _
        refine XS.aload X268.here hx rfl (hb hby at_139) rfl rfl ?_
        show Steps p.tables e below (T268.setTop (mkF m 141 #[.val (.long q0), .second, .val (.long q1), .second, .val (.int p2), .val (.int p3), .val (.int p4), .val (.int p5), .val (.ref b1), .val (.ref b5), .val (.ref b179), .val (.ref b211), .val (.int (0 : Int32)), .val (.ref b179), .val (.long q0), .second, .val (.long q1), .second, .val (.int p2)] [(.ref b5)])) _
        refine st273.trans ?_
        show Steps p.tables e below (T273.setTop (mkF m 144 #[.val (.long q0), .second, .val (.long q1), .second, .val (.int p2), .val (.int p3), .val (.int p4), .val (.int p5), .val (.ref b1), .val (.ref b5), .val (.ref b179), .val (.ref b211), .val (.int (0 : Int32)), .val (.ref b179), .val (.long q0), .second, .val (.long q1), .second, .val (.int p2)] [(.long q1)])) _
        refine XS.lload X273.here hx rfl (hb hby at_144) rfl ?_
        show Steps p.tables e below (T273.setTop (mkF m 146 #[.val (.long q0), .second, .val (.long q1), .second, .val (.int p2), .val (.int p3), .val (.int p4), .val (.int p5), .val (.ref b1), .val (.ref b5), .val (.ref b179), .val (.ref b211), .val (.int (0 : Int32)), .val (.ref b179), .val (.long q0), .second, .val (.long q1), .second, .val (.int p2)] [(.long q1), (.long q1)])) _
        refine XS.lcmp X273.here hx rfl (hb hby at_146) rfl ?_
        show Steps p.tables e below (T273.setTop (mkF m 147 #[.val (.long q0), .second, .val (.long q1), .second, .val (.int p2), .val (.int p3), .val (.int p4), .val (.int p5), .val (.ref b1), .val (.ref b5), .val (.ref b179), .val (.ref b211), .val (.int (0 : Int32)), .val (.ref b179), .val (.long q0), .second, .val (.long q1), .second, .val (.int p2)] [(.int (lcmpW q1 q1))])) _
        refine XS.ifNo X273.here hx rfl (hb hby at_147) rfl ((if0 _ _).trans (teq (own_lc _)).2) ?_
        show Steps p.tables e below (T273.setTop (mkF m 150 #[.val (.long q0), .second, .val (.long q1), .second, .val (.int p2), .val (.int p3), .val (.int p4), .val (.int p5), .val (.ref b1), .val (.ref b5), .val (.ref b179), .val (.ref b211), .val (.int (0 : Int32)), .val (.ref b179), .val (.long q0), .second, .val (.long q1), .second, .val (.int p2)] [])) _
        refine XS.aload X273.here hx rfl (hb hby at_150) rfl rfl ?_
        show Steps p.tables e below (T273.setTop (mkF m 152 #[.val (.long q0), .second, .val (.long q1), .second, .val (.int p2), .val (.int p3), .val (.int p4), .val (.int p5), .val (.ref b1), .val (.ref b5), .val (.ref b179), .val (.ref b211), .val (.int (0 : Int32)), .val (.ref b179), .val (.long q0), .second, .val (.long q1), .second, .val (.int p2)] [(.ref b5)])) _
        refine st278.trans ?_
        show Steps p.tables e below (T278.setTop (mkF m 155 #[.val (.long q0), .second, .val (.long q1), .second, .val (.int p2), .val (.int p3), .val (.int p4), .val (.int p5), .val (.ref b1), .val (.ref b5), .val (.ref b179), .val (.ref b211), .val (.int (0 : Int32)), .val (.ref b179), .val (.long q0), .second, .val (.long q1), .second, .val (.int p2)] [(.int p2)])) _
        refine XS.iload X278.here hx rfl (hb hby at_155) rfl ?_
        exact kt
      have zs283 : n0 ≤ T249.heap.size := Nat.le_trans Z0 k258.1
      obtain ⟨cq285, kq285, q285a, q285b, q285c⟩ := isOf hZ eq280 f255
      obtain ⟨_, _, ⟨T284, L284, k284, n284⟩, -, X284, ⟨Lc284, hQ284, l284, y284, z284⟩, st284⟩ := X278.virtualBack hx (y := (⟨"com/example/interleave/interleave/check/Expansion", "sourceId", "()I"⟩ : MethodName)) (z := (⟨"com/example/interleave/interleave/check/Expansion", "sourceId", "()I"⟩ : MethodName)) hown (mvT hZ (hw _ (List.mem_of_getElem? (i := 79) rfl))) (mvT hZ (hw _ (List.mem_of_getElem? (i := 80) rfl))) (notFace_of_selects (args := #[]) (mvT hZ (hw _ (List.mem_of_getElem? (i := 82) rfl)))) (mvT hZ (hw _ (List.mem_of_getElem? (i := 82) rfl))) (mvT hZ (hw _ (List.mem_of_getElem? (i := 81) rfl))) (by decide) (backOf (W := 0) (own_rm_gsi l Z a0 hw [] b5 p3 T249.heap n0 zs283 c251_4) hZ (hw _ (List.mem_of_getElem? (i := 83) rfl)) (hw _ (List.mem_of_getElem? (i := 3) rfl)) (by decide) (by decide)) q285a q285c (g := (mkF m 162 #[.val (.long q0), .second, .val (.long q1), .second, .val (.int p2), .val (.int p3), .val (.int p4), .val (.int p5), .val (.ref b1), .val (.ref b5), .val (.ref b179), .val (.ref b211), .val (.int (0 : Int32)), .val (.ref b179), .val (.long q0), .second, .val (.long q1), .second, .val (.int p2)] [(.ref b5)])) rfl (by rw [hml]; rfl) (Steps.refl _) (argsL := []) (rest := []) (lenOf own_pd5 rfl) rfl (by show 2 * 0 + _ ≤ _; exact Nat.le_of_eq rfl) (hb hby at_162) (fun _ _ => ⟨rfl, eq280, (by decide : 6 + 0 ≤ _), (by decide : 34 + 0 ≤ _)⟩)
      dsimp only [Pt.U, Pt.locs, Pt.cells, Pt.slots] at X284 l284 y284 z284 st284 hQ284
      rw [l284, (y284 : k284 = 6), (z284 : n284 = 34)] at X284
      clear l284 y284 z284
      obtain ⟨rfl, N286, eq286⟩ := hQ284
      have nf287 := Fr.app nf281 N286
      have zs288 : n0 ≤ T249.heap.size := Nat.le_trans Z0 k258.1
      obtain ⟨cq290, kq290, q290a, q290b, q290c⟩ := isOf hZ eq286 f255
      obtain ⟨_, _, ⟨T289, L289, k289, n289⟩, -, X289, ⟨Lc289, hQ289, l289, y289, z289⟩, st289⟩ := X284.virtualBack hx (y := (⟨"com/example/interleave/interleave/check/Expansion", "sourceParent", "()I"⟩ : MethodName)) (z := (⟨"com/example/interleave/interleave/check/Expansion", "sourceParent", "()I"⟩ : MethodName)) hown (mvT hZ (hw _ (List.mem_of_getElem? (i := 84) rfl))) (mvT hZ (hw _ (List.mem_of_getElem? (i := 85) rfl))) (notFace_of_selects (args := #[]) (mvT hZ (hw _ (List.mem_of_getElem? (i := 87) rfl)))) (mvT hZ (hw _ (List.mem_of_getElem? (i := 87) rfl))) (mvT hZ (hw _ (List.mem_of_getElem? (i := 86) rfl))) (by decide) (backOf (W := 0) (own_rm_gsp l Z a0 hw [] b5 p4 T249.heap n0 zs288 c251_5) hZ (hw _ (List.mem_of_getElem? (i := 88) rfl)) (hw _ (List.mem_of_getElem? (i := 3) rfl)) (by decide) (by decide)) q290a q290c (g := (mkF m 172 #[.val (.long q0), .second, .val (.long q1), .second, .val (.int p2), .val (.int p3), .val (.int p4), .val (.int p5), .val (.ref b1), .val (.ref b5), .val (.ref b179), .val (.ref b211), .val (.int (0 : Int32)), .val (.ref b179), .val (.long q0), .second, .val (.long q1), .second, .val (.int p2)] [(.ref b5)])) rfl (by rw [hml]; rfl) (Steps.refl _) (argsL := []) (rest := []) (lenOf own_pd5 rfl) rfl (by show 2 * 0 + _ ≤ _; exact Nat.le_of_eq rfl) (hb hby at_172) (fun _ _ => ⟨rfl, eq286, (by decide : 6 + 0 ≤ _), (by decide : 34 + 0 ≤ _)⟩)
      dsimp only [Pt.U, Pt.locs, Pt.cells, Pt.slots] at X289 l289 y289 z289 st289 hQ289
      rw [l289, (y289 : k289 = 6), (z289 : n289 = 34)] at X289
      clear l289 y289 z289
      obtain ⟨rfl, N291, eq291⟩ := hQ289
      have nf292 := Fr.app nf287 N291
      have zs293 : n0 ≤ T249.heap.size := Nat.le_trans Z0 k258.1
      obtain ⟨cq295, kq295, q295a, q295b, q295c⟩ := isOf hZ eq291 f255
      obtain ⟨_, _, ⟨T294, L294, k294, n294⟩, -, X294, ⟨Lc294, hQ294, l294, y294, z294⟩, st294⟩ := X289.virtualBack hx (y := (⟨"com/example/interleave/interleave/check/Expansion", "sourceBytes", "()[B"⟩ : MethodName)) (z := (⟨"com/example/interleave/interleave/check/Expansion", "sourceBytes", "()[B"⟩ : MethodName)) hown (mvT hZ (hw _ (List.mem_of_getElem? (i := 89) rfl))) (mvT hZ (hw _ (List.mem_of_getElem? (i := 90) rfl))) (notFace_of_selects (args := #[]) (mvT hZ (hw _ (List.mem_of_getElem? (i := 92) rfl)))) (mvT hZ (hw _ (List.mem_of_getElem? (i := 92) rfl))) (mvT hZ (hw _ (List.mem_of_getElem? (i := 91) rfl))) (by decide) (backOf (W := 0) (own_rm_gsb l Z a0 hw [] b5 b1 T249.heap n0 zs293 c251_6) hZ (hw _ (List.mem_of_getElem? (i := 93) rfl)) (hw _ (List.mem_of_getElem? (i := 3) rfl)) (by decide) (by decide)) q295a q295c (g := (mkF m 182 #[.val (.long q0), .second, .val (.long q1), .second, .val (.int p2), .val (.int p3), .val (.int p4), .val (.int p5), .val (.ref b1), .val (.ref b5), .val (.ref b179), .val (.ref b211), .val (.int (0 : Int32)), .val (.ref b179), .val (.long q0), .second, .val (.long q1), .second, .val (.int p2)] [(.ref b5)])) rfl (by rw [hml]; rfl) (Steps.refl _) (argsL := []) (rest := []) (lenOf own_pd6 rfl) rfl (by show 2 * 0 + _ ≤ _; exact Nat.le_of_eq rfl) (hb hby at_182) (fun _ _ => ⟨rfl, eq291, (by decide : 6 + 0 ≤ _), (by decide : 34 + 0 ≤ _)⟩)
      dsimp only [Pt.U, Pt.locs, Pt.cells, Pt.slots] at X294 l294 y294 z294 st294 hQ294
      rw [l294, (y294 : k294 = 6), (z294 : n294 = 34)] at X294
      clear l294 y294 z294
      obtain ⟨rfl, N296, eq296⟩ := hQ294
      have nf297 := Fr.app nf292 N296
      have pre298 : ∀ t, Steps p.tables e below (T294.setTop (mkF m 187 #[.val (.long q0), .second, .val (.long q1), .second, .val (.int p2), .val (.int p3), .val (.int p4), .val (.int p5), .val (.ref b1), .val (.ref b5), .val (.ref b179), .val (.ref b211), .val (.int (0 : Int32)), .val (.ref b179), .val (.long q0), .second, .val (.long q1), .second, .val (.int p2)] [(.ref b1), (.ref b1)])) t → Steps p.tables e below (s₁.setTop (entryFrame m #[(.long q0), (.long q1), (.int p2), (.int p3), (.int p4), (.int p5)] maxLocals)) t := by
        intro t kt
        refine pre282 t ?_
        show Steps p.tables e below (T278.setTop (mkF m 157 #[.val (.long q0), .second, .val (.long q1), .second, .val (.int p2), .val (.int p3), .val (.int p4), .val (.int p5), .val (.ref b1), .val (.ref b5), .val (.ref b179), .val (.ref b211), .val (.int (0 : Int32)), .val (.ref b179), .val (.long q0), .second, .val (.long q1), .second, .val (.int p2)] [(.int p2), (.int p2)])) _
        refine XS.icmpNo X278.here hx rfl (hb hby at_157) rfl (teq (rfl : p2 = p2)).2 ?_
        show Steps p.tables e below (T278.setTop (mkF m 160 #[.val (.long q0), .second, .val (.long q1), .second, .val (.int p2), .val (.int p3), .val (.int p4), .val (.int p5), .val (.ref b1), .val (.ref b5), .val (.ref b179), .val (.ref b211), .val (.int (0 : Int32)), .val (.ref b179), .val (.long q0), .second, .val (.long q1), .second, .val (.int p2)] [])) _
        refine XS.aload X278.here hx rfl (hb hby at_160) rfl rfl ?_
        show Steps p.tables e below (T278.setTop (mkF m 162 #[.val (.long q0), .second, .val (.long q1), .second, .val (.int p2), .val (.int p3), .val (.int p4), .val (.int p5), .val (.ref b1), .val (.ref b5), .val (.ref b179), .val (.ref b211), .val (.int (0 : Int32)), .val (.ref b179), .val (.long q0), .second, .val (.long q1), .second, .val (.int p2)] [(.ref b5)])) _
        refine st284.trans ?_
        show Steps p.tables e below (T284.setTop (mkF m 165 #[.val (.long q0), .second, .val (.long q1), .second, .val (.int p2), .val (.int p3), .val (.int p4), .val (.int p5), .val (.ref b1), .val (.ref b5), .val (.ref b179), .val (.ref b211), .val (.int (0 : Int32)), .val (.ref b179), .val (.long q0), .second, .val (.long q1), .second, .val (.int p2)] [(.int p3)])) _
        refine XS.iload X284.here hx rfl (hb hby at_165) rfl ?_
        show Steps p.tables e below (T284.setTop (mkF m 167 #[.val (.long q0), .second, .val (.long q1), .second, .val (.int p2), .val (.int p3), .val (.int p4), .val (.int p5), .val (.ref b1), .val (.ref b5), .val (.ref b179), .val (.ref b211), .val (.int (0 : Int32)), .val (.ref b179), .val (.long q0), .second, .val (.long q1), .second, .val (.int p2)] [(.int p3), (.int p3)])) _
        refine XS.icmpNo X284.here hx rfl (hb hby at_167) rfl (teq (rfl : p3 = p3)).2 ?_
        show Steps p.tables e below (T284.setTop (mkF m 170 #[.val (.long q0), .second, .val (.long q1), .second, .val (.int p2), .val (.int p3), .val (.int p4), .val (.int p5), .val (.ref b1), .val (.ref b5), .val (.ref b179), .val (.ref b211), .val (.int (0 : Int32)), .val (.ref b179), .val (.long q0), .second, .val (.long q1), .second, .val (.int p2)] [])) _
        refine XS.aload X284.here hx rfl (hb hby at_170) rfl rfl ?_
        show Steps p.tables e below (T284.setTop (mkF m 172 #[.val (.long q0), .second, .val (.long q1), .second, .val (.int p2), .val (.int p3), .val (.int p4), .val (.int p5), .val (.ref b1), .val (.ref b5), .val (.ref b179), .val (.ref b211), .val (.int (0 : Int32)), .val (.ref b179), .val (.long q0), .second, .val (.long q1), .second, .val (.int p2)] [(.ref b5)])) _
        refine st289.trans ?_
        show Steps p.tables e below (T289.setTop (mkF m 175 #[.val (.long q0), .second, .val (.long q1), .second, .val (.int p2), .val (.int p3), .val (.int p4), .val (.int p5), .val (.ref b1), .val (.ref b5), .val (.ref b179), .val (.ref b211), .val (.int (0 : Int32)), .val (.ref b179), .val (.long q0), .second, .val (.long q1), .second, .val (.int p2)] [(.int p4)])) _
        refine XS.iload X289.here hx rfl (hb hby at_175) rfl ?_
        show Steps p.tables e below (T289.setTop (mkF m 177 #[.val (.long q0), .second, .val (.long q1), .second, .val (.int p2), .val (.int p3), .val (.int p4), .val (.int p5), .val (.ref b1), .val (.ref b5), .val (.ref b179), .val (.ref b211), .val (.int (0 : Int32)), .val (.ref b179), .val (.long q0), .second, .val (.long q1), .second, .val (.int p2)] [(.int p4), (.int p4)])) _
        refine XS.icmpNo X289.here hx rfl (hb hby at_177) rfl (teq (rfl : p4 = p4)).2 ?_
        show Steps p.tables e below (T289.setTop (mkF m 180 #[.val (.long q0), .second, .val (.long q1), .second, .val (.int p2), .val (.int p3), .val (.int p4), .val (.int p5), .val (.ref b1), .val (.ref b5), .val (.ref b179), .val (.ref b211), .val (.int (0 : Int32)), .val (.ref b179), .val (.long q0), .second, .val (.long q1), .second, .val (.int p2)] [])) _
        refine XS.aload X289.here hx rfl (hb hby at_180) rfl rfl ?_
        show Steps p.tables e below (T289.setTop (mkF m 182 #[.val (.long q0), .second, .val (.long q1), .second, .val (.int p2), .val (.int p3), .val (.int p4), .val (.int p5), .val (.ref b1), .val (.ref b5), .val (.ref b179), .val (.ref b211), .val (.int (0 : Int32)), .val (.ref b179), .val (.long q0), .second, .val (.long q1), .second, .val (.int p2)] [(.ref b5)])) _
        refine st294.trans ?_
        show Steps p.tables e below (T294.setTop (mkF m 185 #[.val (.long q0), .second, .val (.long q1), .second, .val (.int p2), .val (.int p3), .val (.int p4), .val (.int p5), .val (.ref b1), .val (.ref b5), .val (.ref b179), .val (.ref b211), .val (.int (0 : Int32)), .val (.ref b179), .val (.long q0), .second, .val (.long q1), .second, .val (.int p2)] [(.ref b1)])) _
        refine XS.aload X294.here hx rfl (hb hby at_185) rfl rfl ?_
        exact kt
      have pre299 : ∀ t, Steps p.tables e below (T294.setTop (mkF m 195 #[.val (.long q0), .second, .val (.long q1), .second, .val (.int p2), .val (.int p3), .val (.int p4), .val (.int p5), .val (.ref b1), .val (.ref b5), .val (.ref b179), .val (.ref b211), .val (.int (0 : Int32)), .val (.ref b179), .val (.long q0), .second, .val (.long q1), .second, .val (.int p2)] [(.int (1 : Int32))])) t → Steps p.tables e below (s₁.setTop (entryFrame m #[(.long q0), (.long q1), (.int p2), (.int p3), (.int p4), (.int p5)] maxLocals)) t := by
        intro t kt
        refine pre298 t ?_
        show Steps p.tables e below (T294.setTop (mkF m 187 #[.val (.long q0), .second, .val (.long q1), .second, .val (.int p2), .val (.int p3), .val (.int p4), .val (.int p5), .val (.ref b1), .val (.ref b5), .val (.ref b179), .val (.ref b211), .val (.int (0 : Int32)), .val (.ref b179), .val (.long q0), .second, .val (.long q1), .second, .val (.int p2)] [(.ref b1), (.ref b1)])) _
        refine Jvm.RoadKit.acmp (g := (mkF m 187 #[.val (.long q0), .second, .val (.long q1), .second, .val (.int p2), .val (.int p3), .val (.int p4), .val (.int p5), .val (.ref b1), .val (.ref b5), .val (.ref b179), .val (.ref b211), .val (.int (0 : Int32)), .val (.ref b179), .val (.long q0), .second, .val (.long q1), .second, .val (.int p2)] [(.ref b1), (.ref b1)])) X294 hx rfl rfl rfl (pc0 := 187) (pc' := 190) (same := true) rfl (hb hby at_187) rfl (decide_eq_true rfl) (by decide) (by decide) ?_
        show Steps p.tables e below (T294.setTop (mkF m 190 #[.val (.long q0), .second, .val (.long q1), .second, .val (.int p2), .val (.int p3), .val (.int p4), .val (.int p5), .val (.ref b1), .val (.ref b5), .val (.ref b179), .val (.ref b211), .val (.int (0 : Int32)), .val (.ref b179), .val (.long q0), .second, .val (.long q1), .second, .val (.int p2)] [])) _
        refine XS.iconst X294.here hx rfl (hb hby at_190) ?_
        show Steps p.tables e below (T294.setTop (mkF m 191 #[.val (.long q0), .second, .val (.long q1), .second, .val (.int p2), .val (.int p3), .val (.int p4), .val (.int p5), .val (.ref b1), .val (.ref b5), .val (.ref b179), .val (.ref b211), .val (.int (0 : Int32)), .val (.ref b179), .val (.long q0), .second, .val (.long q1), .second, .val (.int p2)] [(.int (1 : Int32))])) _
        refine XS.goto X294.here hx rfl (pc0 := 191) (pc' := 195) rfl (hb hby at_191) (by decide) (by decide) ?_
        exact kt
      obtain ⟨fs, hr, hrun, hended, hW, hsame⟩ := X294.leave (v := some (.int (1 : Int32))) (fun h => by rw [Bd.returns] at h; cases h)
      refine ⟨_, _, pre299 _ ?_, hrun, hended, _, _, rfl, ?_, ⟨_, rfl⟩, hW, hsame.mono (by decide) (by decide)⟩
      · show Steps p.tables e below (T294.setTop (mkF m 195 #[.val (.long q0), .second, .val (.long q1), .second, .val (.int p2), .val (.int p3), .val (.int p4), .val (.int p5), .val (.ref b1), .val (.ref b5), .val (.ref b179), .val (.ref b211), .val (.int (0 : Int32)), .val (.ref b179), .val (.long q0), .second, .val (.long q1), .second, .val (.int p2)] [(.int (1 : Int32))])) _
        exact retN X294 hx (t := .boolean) Bd.returns (by simp) (hb hby at_195) hr
      · show own_Q_law Z q0 q1 p2 p3 p4 p5 aS h0 n0 (some (.int (1 : Int32))) T294.heap _
        rw [eq296]
        exact ⟨rfl, nf297⟩
    · have zs300 : n0 ≤ T228.heap.size := Nat.le_trans Z0 k243.1
      obtain ⟨cq302, kq302, q302a, q302b, q302c⟩ := isOf hZ rfl f233
      obtain ⟨_, _, ⟨T301, L301, k301, n301⟩, -, X301, ⟨Lc301, hQ301, l301, y301, z301⟩, st301⟩ := X228.virtualBack hx (y := (⟨"com/example/interleave/interleave/check/Expansion", "tookIn", "(Ljava/util/List;JJI)V"⟩ : MethodName)) (z := (⟨"com/example/interleave/interleave/check/Expansion", "tookIn", "(Ljava/util/List;JJI)V"⟩ : MethodName)) hown (mvT hZ (hw _ (List.mem_of_getElem? (i := 46) rfl))) (mvT hZ (hw _ (List.mem_of_getElem? (i := 47) rfl))) (notFace_of_selects (args := #[]) (mvT hZ (hw _ (List.mem_of_getElem? (i := 49) rfl)))) (mvT hZ (hw _ (List.mem_of_getElem? (i := 49) rfl))) (mvT hZ (hw _ (List.mem_of_getElem? (i := 48) rfl))) (by decide) (backOf (W := 0) (own_rm_tkR l Z a0 hw [] b5 b179 q0 q1 p2 .null (.long (0 : Int64)) (.long (0 : Int64)) (.int (0 : Int32)) p3 p4 b1 T228.heap n0 zs300 f233 f237 f238 f239 f240 f234 f235 f236 gn_b5) hZ (hw _ (List.mem_of_getElem? (i := 50) rfl)) (hw _ (List.mem_of_getElem? (i := 3) rfl)) (by decide) (by decide)) q302a q302c (g := (mkF m 71 #[.val (.long q0), .second, .val (.long q1), .second, .val (.int p2), .val (.int p3), .val (.int p4), .val (.int p5), .val (.ref b1), .val (.ref b5), .val (.ref b179), .val (.ref b211), .val (.int (1 : Int32)), .unset, .unset, .unset, .unset, .unset, .unset] [(.int p2), (.long q1), (.long q0), (.ref b179), (.ref b5)])) rfl (by rw [hml]; rfl) (Steps.refl _) (argsL := [(.ref b179), (.long q0), (.long q1), (.int p2)]) (rest := []) (lenOf own_pd2 rfl) rfl (by show 2 * 0 + _ ≤ _; exact Nat.le_of_eq rfl) (hb hby at_71) (fun _ _ => ⟨rfl, rfl, (by decide : 6 + 0 ≤ _), (by decide : 34 + 0 ≤ _)⟩)
      dsimp only [Pt.U, Pt.locs, Pt.cells, Pt.slots] at X301 l301 y301 z301 st301 hQ301
      rw [l301, (y301 : k301 = 6), (z301 : n301 = 34)] at X301
      clear l301 y301 z301
      obtain ⟨rfl, N303, K303, c303_0, c303_1, c303_2, c303_3, c303_4, c303_5, c303_6⟩ := hQ301
      have f304 := own_sta_keep f230 K303 (own_pl_cons f233 all0)
      have f305 := f231.keep K303
      have f306 := f232.keep K303 (ninS ne_b1_b5 nin0)
      have f307 := f233.keep K303
      have f308 := f241.keep K303
      have f309 := f242.keep K303
      have k310 := k243.trans K303 (allS (Or.inr sz_b5) all0)
      have nf311 := Fr.app nf244 N303
      have pre312 : ∀ t, Steps p.tables e below (T301.setTop (mkF m 78 #[.val (.long q0), .second, .val (.long q1), .second, .val (.int p2), .val (.int p3), .val (.int p4), .val (.int p5), .val (.ref b1), .val (.ref b5), .val (.ref b179), .val (.ref b211), .val (.int (1 : Int32)), .val (.ref b179), .unset, .unset, .unset, .unset, .unset] [])) t → Steps p.tables e below (s₁.setTop (entryFrame m #[(.long q0), (.long q1), (.int p2), (.int p3), (.int p4), (.int p5)] maxLocals)) t := by
        intro t kt
        refine pre246 t ?_
        show Steps p.tables e below (T228.setTop (mkF m 53 #[.val (.long q0), .second, .val (.long q1), .second, .val (.int p2), .val (.int p3), .val (.int p4), .val (.int p5), .val (.ref b1), .val (.ref b5), .val (.ref b179), .val (.ref b211), .unset, .unset, .unset, .unset, .unset, .unset, .unset] [(.int (p5 &&& (2 : Int32)))])) _
        refine XS.ifNo X228.here hx rfl (hb hby at_53) rfl ((if0 _ _).trans (feq hc247).1) ?_
        show Steps p.tables e below (T228.setTop (mkF m 56 #[.val (.long q0), .second, .val (.long q1), .second, .val (.int p2), .val (.int p3), .val (.int p4), .val (.int p5), .val (.ref b1), .val (.ref b5), .val (.ref b179), .val (.ref b211), .unset, .unset, .unset, .unset, .unset, .unset, .unset] [])) _
        refine XS.iconst X228.here hx rfl (hb hby at_56) ?_
        show Steps p.tables e below (T228.setTop (mkF m 57 #[.val (.long q0), .second, .val (.long q1), .second, .val (.int p2), .val (.int p3), .val (.int p4), .val (.int p5), .val (.ref b1), .val (.ref b5), .val (.ref b179), .val (.ref b211), .unset, .unset, .unset, .unset, .unset, .unset, .unset] [(.int (1 : Int32))])) _
        refine XS.goto X228.here hx rfl (pc0 := 57) (pc' := 61) rfl (hb hby at_57) (by decide) (by decide) ?_
        show Steps p.tables e below (T228.setTop (mkF m 61 #[.val (.long q0), .second, .val (.long q1), .second, .val (.int p2), .val (.int p3), .val (.int p4), .val (.int p5), .val (.ref b1), .val (.ref b5), .val (.ref b179), .val (.ref b211), .unset, .unset, .unset, .unset, .unset, .unset, .unset] [(.int (1 : Int32))])) _
        refine XS.istore X228.here hx rfl (hb hby at_61) rfl (l' := #[.val (.long q0), .second, .val (.long q1), .second, .val (.int p2), .val (.int p3), .val (.int p4), .val (.int p5), .val (.ref b1), .val (.ref b5), .val (.ref b179), .val (.ref b211), .val (.int (1 : Int32)), .unset, .unset, .unset, .unset, .unset, .unset]) rfl ?_
        show Steps p.tables e below (T228.setTop (mkF m 63 #[.val (.long q0), .second, .val (.long q1), .second, .val (.int p2), .val (.int p3), .val (.int p4), .val (.int p5), .val (.ref b1), .val (.ref b5), .val (.ref b179), .val (.ref b211), .val (.int (1 : Int32)), .unset, .unset, .unset, .unset, .unset, .unset] [])) _
        refine XS.aload X228.here hx rfl (hb hby at_63) rfl rfl ?_
        show Steps p.tables e below (T228.setTop (mkF m 65 #[.val (.long q0), .second, .val (.long q1), .second, .val (.int p2), .val (.int p3), .val (.int p4), .val (.int p5), .val (.ref b1), .val (.ref b5), .val (.ref b179), .val (.ref b211), .val (.int (1 : Int32)), .unset, .unset, .unset, .unset, .unset, .unset] [(.ref b5)])) _
        refine XS.aload X228.here hx rfl (hb hby at_65) rfl rfl ?_
        show Steps p.tables e below (T228.setTop (mkF m 67 #[.val (.long q0), .second, .val (.long q1), .second, .val (.int p2), .val (.int p3), .val (.int p4), .val (.int p5), .val (.ref b1), .val (.ref b5), .val (.ref b179), .val (.ref b211), .val (.int (1 : Int32)), .unset, .unset, .unset, .unset, .unset, .unset] [(.ref b179), (.ref b5)])) _
        refine XS.lloadN X228.here hx rfl (hb hby at_67) rfl ?_
        show Steps p.tables e below (T228.setTop (mkF m 68 #[.val (.long q0), .second, .val (.long q1), .second, .val (.int p2), .val (.int p3), .val (.int p4), .val (.int p5), .val (.ref b1), .val (.ref b5), .val (.ref b179), .val (.ref b211), .val (.int (1 : Int32)), .unset, .unset, .unset, .unset, .unset, .unset] [(.long q0), (.ref b179), (.ref b5)])) _
        refine XS.lloadN X228.here hx rfl (hb hby at_68) rfl ?_
        show Steps p.tables e below (T228.setTop (mkF m 69 #[.val (.long q0), .second, .val (.long q1), .second, .val (.int p2), .val (.int p3), .val (.int p4), .val (.int p5), .val (.ref b1), .val (.ref b5), .val (.ref b179), .val (.ref b211), .val (.int (1 : Int32)), .unset, .unset, .unset, .unset, .unset, .unset] [(.long q1), (.long q0), (.ref b179), (.ref b5)])) _
        refine XS.iload X228.here hx rfl (hb hby at_69) rfl ?_
        show Steps p.tables e below (T228.setTop (mkF m 71 #[.val (.long q0), .second, .val (.long q1), .second, .val (.int p2), .val (.int p3), .val (.int p4), .val (.int p5), .val (.ref b1), .val (.ref b5), .val (.ref b179), .val (.ref b211), .val (.int (1 : Int32)), .unset, .unset, .unset, .unset, .unset, .unset] [(.int p2), (.long q1), (.long q0), (.ref b179), (.ref b5)])) _
        refine st301.trans ?_
        show Steps p.tables e below (T301.setTop (mkF m 74 #[.val (.long q0), .second, .val (.long q1), .second, .val (.int p2), .val (.int p3), .val (.int p4), .val (.int p5), .val (.ref b1), .val (.ref b5), .val (.ref b179), .val (.ref b211), .val (.int (1 : Int32)), .unset, .unset, .unset, .unset, .unset, .unset] [])) _
        refine XS.aload X301.here hx rfl (hb hby at_74) rfl rfl ?_
        show Steps p.tables e below (T301.setTop (mkF m 76 #[.val (.long q0), .second, .val (.long q1), .second, .val (.int p2), .val (.int p3), .val (.int p4), .val (.int p5), .val (.ref b1), .val (.ref b5), .val (.ref b179), .val (.ref b211), .val (.int (1 : Int32)), .unset, .unset, .unset, .unset, .unset, .unset] [(.ref b179)])) _
        refine XS.astore X301.here hx rfl (hb hby at_76) rfl rfl (l' := #[.val (.long q0), .second, .val (.long q1), .second, .val (.int p2), .val (.int p3), .val (.int p4), .val (.int p5), .val (.ref b1), .val (.ref b5), .val (.ref b179), .val (.ref b211), .val (.int (1 : Int32)), .val (.ref b179), .unset, .unset, .unset, .unset, .unset]) rfl ?_
        exact kt
      have pre313 : ∀ t, Steps p.tables e below (T301.setTop (mkF m 99 #[.val (.long q0), .second, .val (.long q1), .second, .val (.int p2), .val (.int p3), .val (.int p4), .val (.int p5), .val (.ref b1), .val (.ref b5), .val (.ref b179), .val (.ref b211), .val (.int (1 : Int32)), .val (.ref b179), .val (.long q0), .second, .val (.long q1), .second, .val (.int p2)] [(.long q0), (.long q1), (.ref b211), (.ref b5)])) t → Steps p.tables e below (s₁.setTop (entryFrame m #[(.long q0), (.long q1), (.int p2), (.int p3), (.int p4), (.int p5)] maxLocals)) t := by
        intro t kt
        refine pre312 t ?_
        show Steps p.tables e below (T301.setTop (mkF m 78 #[.val (.long q0), .second, .val (.long q1), .second, .val (.int p2), .val (.int p3), .val (.int p4), .val (.int p5), .val (.ref b1), .val (.ref b5), .val (.ref b179), .val (.ref b211), .val (.int (1 : Int32)), .val (.ref b179), .unset, .unset, .unset, .unset, .unset] [])) _
        refine XS.lloadN X301.here hx rfl (hb hby at_78) rfl ?_
        show Steps p.tables e below (T301.setTop (mkF m 79 #[.val (.long q0), .second, .val (.long q1), .second, .val (.int p2), .val (.int p3), .val (.int p4), .val (.int p5), .val (.ref b1), .val (.ref b5), .val (.ref b179), .val (.ref b211), .val (.int (1 : Int32)), .val (.ref b179), .unset, .unset, .unset, .unset, .unset] [(.long q0)])) _
        refine XS.lstore X301.here hx rfl (hb hby at_79) rfl (l' := #[.val (.long q0), .second, .val (.long q1), .second, .val (.int p2), .val (.int p3), .val (.int p4), .val (.int p5), .val (.ref b1), .val (.ref b5), .val (.ref b179), .val (.ref b211), .val (.int (1 : Int32)), .val (.ref b179), .val (.long q0), .second, .unset, .unset, .unset]) rfl ?_
        show Steps p.tables e below (T301.setTop (mkF m 81 #[.val (.long q0), .second, .val (.long q1), .second, .val (.int p2), .val (.int p3), .val (.int p4), .val (.int p5), .val (.ref b1), .val (.ref b5), .val (.ref b179), .val (.ref b211), .val (.int (1 : Int32)), .val (.ref b179), .val (.long q0), .second, .unset, .unset, .unset] [])) _
        refine XS.lloadN X301.here hx rfl (hb hby at_81) rfl ?_
        show Steps p.tables e below (T301.setTop (mkF m 82 #[.val (.long q0), .second, .val (.long q1), .second, .val (.int p2), .val (.int p3), .val (.int p4), .val (.int p5), .val (.ref b1), .val (.ref b5), .val (.ref b179), .val (.ref b211), .val (.int (1 : Int32)), .val (.ref b179), .val (.long q0), .second, .unset, .unset, .unset] [(.long q1)])) _
        refine XS.lstore X301.here hx rfl (hb hby at_82) rfl (l' := #[.val (.long q0), .second, .val (.long q1), .second, .val (.int p2), .val (.int p3), .val (.int p4), .val (.int p5), .val (.ref b1), .val (.ref b5), .val (.ref b179), .val (.ref b211), .val (.int (1 : Int32)), .val (.ref b179), .val (.long q0), .second, .val (.long q1), .second, .unset]) rfl ?_
        show Steps p.tables e below (T301.setTop (mkF m 84 #[.val (.long q0), .second, .val (.long q1), .second, .val (.int p2), .val (.int p3), .val (.int p4), .val (.int p5), .val (.ref b1), .val (.ref b5), .val (.ref b179), .val (.ref b211), .val (.int (1 : Int32)), .val (.ref b179), .val (.long q0), .second, .val (.long q1), .second, .unset] [])) _
        refine XS.iload X301.here hx rfl (hb hby at_84) rfl ?_
        show Steps p.tables e below (T301.setTop (mkF m 86 #[.val (.long q0), .second, .val (.long q1), .second, .val (.int p2), .val (.int p3), .val (.int p4), .val (.int p5), .val (.ref b1), .val (.ref b5), .val (.ref b179), .val (.ref b211), .val (.int (1 : Int32)), .val (.ref b179), .val (.long q0), .second, .val (.long q1), .second, .unset] [(.int p2)])) _
        refine XS.istore X301.here hx rfl (hb hby at_86) rfl (l' := #[.val (.long q0), .second, .val (.long q1), .second, .val (.int p2), .val (.int p3), .val (.int p4), .val (.int p5), .val (.ref b1), .val (.ref b5), .val (.ref b179), .val (.ref b211), .val (.int (1 : Int32)), .val (.ref b179), .val (.long q0), .second, .val (.long q1), .second, .val (.int p2)]) rfl ?_
        show Steps p.tables e below (T301.setTop (mkF m 88 #[.val (.long q0), .second, .val (.long q1), .second, .val (.int p2), .val (.int p3), .val (.int p4), .val (.int p5), .val (.ref b1), .val (.ref b5), .val (.ref b179), .val (.ref b211), .val (.int (1 : Int32)), .val (.ref b179), .val (.long q0), .second, .val (.long q1), .second, .val (.int p2)] [])) _
        refine XS.iload X301.here hx rfl (hb hby at_88) rfl ?_
        show Steps p.tables e below (T301.setTop (mkF m 90 #[.val (.long q0), .second, .val (.long q1), .second, .val (.int p2), .val (.int p3), .val (.int p4), .val (.int p5), .val (.ref b1), .val (.ref b5), .val (.ref b179), .val (.ref b211), .val (.int (1 : Int32)), .val (.ref b179), .val (.long q0), .second, .val (.long q1), .second, .val (.int p2)] [(.int (1 : Int32))])) _
        refine XS.ifNo X301.here hx rfl (hb hby at_90) rfl ((if0 _ _).trans (feq (by decide : ¬ ((1 : Int32) = (0 : Int32)))).1) ?_
        show Steps p.tables e below (T301.setTop (mkF m 93 #[.val (.long q0), .second, .val (.long q1), .second, .val (.int p2), .val (.int p3), .val (.int p4), .val (.int p5), .val (.ref b1), .val (.ref b5), .val (.ref b179), .val (.ref b211), .val (.int (1 : Int32)), .val (.ref b179), .val (.long q0), .second, .val (.long q1), .second, .val (.int p2)] [])) _
        refine XS.aload X301.here hx rfl (hb hby at_93) rfl rfl ?_
        show Steps p.tables e below (T301.setTop (mkF m 95 #[.val (.long q0), .second, .val (.long q1), .second, .val (.int p2), .val (.int p3), .val (.int p4), .val (.int p5), .val (.ref b1), .val (.ref b5), .val (.ref b179), .val (.ref b211), .val (.int (1 : Int32)), .val (.ref b179), .val (.long q0), .second, .val (.long q1), .second, .val (.int p2)] [(.ref b5)])) _
        refine XS.aload X301.here hx rfl (hb hby at_95) rfl rfl ?_
        show Steps p.tables e below (T301.setTop (mkF m 97 #[.val (.long q0), .second, .val (.long q1), .second, .val (.int p2), .val (.int p3), .val (.int p4), .val (.int p5), .val (.ref b1), .val (.ref b5), .val (.ref b179), .val (.ref b211), .val (.int (1 : Int32)), .val (.ref b179), .val (.long q0), .second, .val (.long q1), .second, .val (.int p2)] [(.ref b211), (.ref b5)])) _
        refine XS.lloadN X301.here hx rfl (hb hby at_97) rfl ?_
        show Steps p.tables e below (T301.setTop (mkF m 98 #[.val (.long q0), .second, .val (.long q1), .second, .val (.int p2), .val (.int p3), .val (.int p4), .val (.int p5), .val (.ref b1), .val (.ref b5), .val (.ref b179), .val (.ref b211), .val (.int (1 : Int32)), .val (.ref b179), .val (.long q0), .second, .val (.long q1), .second, .val (.int p2)] [(.long q1), (.ref b211), (.ref b5)])) _
        refine XS.lloadN X301.here hx rfl (hb hby at_98) rfl ?_
        exact kt
      have zs314 : n0 ≤ T301.heap.size := Nat.le_trans Z0 k310.1
      obtain ⟨cq316, kq316, q316a, q316b, q316c⟩ := isOf hZ rfl f307
      obtain ⟨_, _, ⟨T315, L315, k315, n315⟩, -, X315, ⟨Lc315, hQ315, l315, y315, z315⟩, st315⟩ := X301.virtualBack hx (y := (⟨"com/example/interleave/interleave/check/Expansion", "tookIn", "(Ljava/util/List;JJI)V"⟩ : MethodName)) (z := (⟨"com/example/interleave/interleave/check/Expansion", "tookIn", "(Ljava/util/List;JJI)V"⟩ : MethodName)) hown (mvT hZ (hw _ (List.mem_of_getElem? (i := 46) rfl))) (mvT hZ (hw _ (List.mem_of_getElem? (i := 47) rfl))) (notFace_of_selects (args := #[]) (mvT hZ (hw _ (List.mem_of_getElem? (i := 49) rfl)))) (mvT hZ (hw _ (List.mem_of_getElem? (i := 49) rfl))) (mvT hZ (hw _ (List.mem_of_getElem? (i := 48) rfl))) (by decide) (backOf (W := 0) (own_rm_tkR l Z a0 hw [] b5 b211 q1 q0 p4 (.ref b179) (.long q0) (.long q1) (.int p2) p3 p4 b1 T301.heap n0 zs314 f307 c303_0 c303_1 c303_2 c303_3 c303_4 c303_5 c303_6 gn_b5) hZ (hw _ (List.mem_of_getElem? (i := 50) rfl)) (hw _ (List.mem_of_getElem? (i := 3) rfl)) (by decide) (by decide)) q316a q316c (g := (mkF m 101 #[.val (.long q0), .second, .val (.long q1), .second, .val (.int p2), .val (.int p3), .val (.int p4), .val (.int p5), .val (.ref b1), .val (.ref b5), .val (.ref b179), .val (.ref b211), .val (.int (1 : Int32)), .val (.ref b179), .val (.long q0), .second, .val (.long q1), .second, .val (.int p2)] [(.int p4), (.long q0), (.long q1), (.ref b211), (.ref b5)])) rfl (by rw [hml]; rfl) (Steps.refl _) (argsL := [(.ref b211), (.long q1), (.long q0), (.int p4)]) (rest := []) (lenOf own_pd2 rfl) rfl (by show 2 * 0 + _ ≤ _; exact Nat.le_of_eq rfl) (hb hby at_101) (fun _ _ => ⟨rfl, rfl, (by decide : 6 + 0 ≤ _), (by decide : 34 + 0 ≤ _)⟩)
      dsimp only [Pt.U, Pt.locs, Pt.cells, Pt.slots] at X315 l315 y315 z315 st315 hQ315
      rw [l315, (y315 : k315 = 6), (z315 : n315 = 34)] at X315
      clear l315 y315 z315
      obtain ⟨rfl, N317, K317, c317_0, c317_1, c317_2, c317_3, c317_4, c317_5, c317_6⟩ := hQ315
      have f318 := own_sta_keep f304 K317 (own_pl_cons f307 all0)
      have f319 := f305.keep K317
      have f320 := f306.keep K317 (ninS ne_b1_b5 nin0)
      have f321 := f307.keep K317
      have f322 := f308.keep K317
      have f323 := f309.keep K317
      have k324 := k310.trans K317 (allS (Or.inr sz_b5) all0)
      have nf325 := Fr.app nf311 N317
      have zs326 : n0 ≤ T315.heap.size := Nat.le_trans Z0 k324.1
      obtain ⟨cq328, kq328, q328a, q328b, q328c⟩ := isOf hZ rfl f321
      obtain ⟨_, _, ⟨T327, L327, k327, n327⟩, -, X327, ⟨Lc327, hQ327, l327, y327, z327⟩, st327⟩ := X315.virtualBack hx (y := (⟨"com/example/interleave/interleave/check/Expansion", "fresh", "()Ljava/util/List;"⟩ : MethodName)) (z := (⟨"com/example/interleave/interleave/check/Expansion", "fresh", "()Ljava/util/List;"⟩ : MethodName)) hown (mvT hZ (hw _ (List.mem_of_getElem? (i := 59) rfl))) (mvT hZ (hw _ (List.mem_of_getElem? (i := 60) rfl))) (notFace_of_selects (args := #[]) (mvT hZ (hw _ (List.mem_of_getElem? (i := 62) rfl)))) (mvT hZ (hw _ (List.mem_of_getElem? (i := 62) rfl))) (mvT hZ (hw _ (List.mem_of_getElem? (i := 61) rfl))) (by decide) (backOf (W := 0) (own_rm_gfR l Z a0 hw [] b5 b211 T315.heap n0 zs326 c317_0) hZ (hw _ (List.mem_of_getElem? (i := 63) rfl)) (hw _ (List.mem_of_getElem? (i := 3) rfl)) (by decide) (by decide)) q328a q328c (g := (mkF m 120 #[.val (.long q0), .second, .val (.long q1), .second, .val (.int p2), .val (.int p3), .val (.int p4), .val (.int p5), .val (.ref b1), .val (.ref b5), .val (.ref b179), .val (.ref b211), .val (.int (1 : Int32)), .val (.ref b211), .val (.long q1), .second, .val (.long q0), .second, .val (.int p4)] [(.ref b5)])) rfl (by rw [hml]; rfl) (Steps.refl _) (argsL := []) (rest := []) (lenOf own_pd3 rfl) rfl (by show 2 * 0 + _ ≤ _; exact Nat.le_of_eq rfl) (hb hby at_120) (fun _ _ => ⟨rfl, rfl, (by decide : 6 + 0 ≤ _), (by decide : 34 + 0 ≤ _)⟩)
      dsimp only [Pt.U, Pt.locs, Pt.cells, Pt.slots] at X327 l327 y327 z327 st327 hQ327
      rw [l327, (y327 : k327 = 6), (z327 : n327 = 34)] at X327
      clear l327 y327 z327
      obtain ⟨rfl, N329, eq329⟩ := hQ327
      have nf330 := Fr.app nf325 N329
      have pre331 : ∀ t, Steps p.tables e below (T327.setTop (mkF m 123 #[.val (.long q0), .second, .val (.long q1), .second, .val (.int p2), .val (.int p3), .val (.int p4), .val (.int p5), .val (.ref b1), .val (.ref b5), .val (.ref b179), .val (.ref b211), .val (.int (1 : Int32)), .val (.ref b211), .val (.long q1), .second, .val (.long q0), .second, .val (.int p4)] [(.ref b211)])) t → Steps p.tables e below (s₁.setTop (entryFrame m #[(.long q0), (.long q1), (.int p2), (.int p3), (.int p4), (.int p5)] maxLocals)) t := by
        intro t kt
        refine pre313 t ?_
        show Steps p.tables e below (T301.setTop (mkF m 99 #[.val (.long q0), .second, .val (.long q1), .second, .val (.int p2), .val (.int p3), .val (.int p4), .val (.int p5), .val (.ref b1), .val (.ref b5), .val (.ref b179), .val (.ref b211), .val (.int (1 : Int32)), .val (.ref b179), .val (.long q0), .second, .val (.long q1), .second, .val (.int p2)] [(.long q0), (.long q1), (.ref b211), (.ref b5)])) _
        refine XS.iload X301.here hx rfl (hb hby at_99) rfl ?_
        show Steps p.tables e below (T301.setTop (mkF m 101 #[.val (.long q0), .second, .val (.long q1), .second, .val (.int p2), .val (.int p3), .val (.int p4), .val (.int p5), .val (.ref b1), .val (.ref b5), .val (.ref b179), .val (.ref b211), .val (.int (1 : Int32)), .val (.ref b179), .val (.long q0), .second, .val (.long q1), .second, .val (.int p2)] [(.int p4), (.long q0), (.long q1), (.ref b211), (.ref b5)])) _
        refine st315.trans ?_
        show Steps p.tables e below (T315.setTop (mkF m 104 #[.val (.long q0), .second, .val (.long q1), .second, .val (.int p2), .val (.int p3), .val (.int p4), .val (.int p5), .val (.ref b1), .val (.ref b5), .val (.ref b179), .val (.ref b211), .val (.int (1 : Int32)), .val (.ref b179), .val (.long q0), .second, .val (.long q1), .second, .val (.int p2)] [])) _
        refine XS.aload X315.here hx rfl (hb hby at_104) rfl rfl ?_
        show Steps p.tables e below (T315.setTop (mkF m 106 #[.val (.long q0), .second, .val (.long q1), .second, .val (.int p2), .val (.int p3), .val (.int p4), .val (.int p5), .val (.ref b1), .val (.ref b5), .val (.ref b179), .val (.ref b211), .val (.int (1 : Int32)), .val (.ref b179), .val (.long q0), .second, .val (.long q1), .second, .val (.int p2)] [(.ref b211)])) _
        refine XS.astore X315.here hx rfl (hb hby at_106) rfl rfl (l' := #[.val (.long q0), .second, .val (.long q1), .second, .val (.int p2), .val (.int p3), .val (.int p4), .val (.int p5), .val (.ref b1), .val (.ref b5), .val (.ref b179), .val (.ref b211), .val (.int (1 : Int32)), .val (.ref b211), .val (.long q0), .second, .val (.long q1), .second, .val (.int p2)]) rfl ?_
        show Steps p.tables e below (T315.setTop (mkF m 108 #[.val (.long q0), .second, .val (.long q1), .second, .val (.int p2), .val (.int p3), .val (.int p4), .val (.int p5), .val (.ref b1), .val (.ref b5), .val (.ref b179), .val (.ref b211), .val (.int (1 : Int32)), .val (.ref b211), .val (.long q0), .second, .val (.long q1), .second, .val (.int p2)] [])) _
        refine XS.lloadN X315.here hx rfl (hb hby at_108) rfl ?_
        show Steps p.tables e below (T315.setTop (mkF m 109 #[.val (.long q0), .second, .val (.long q1), .second, .val (.int p2), .val (.int p3), .val (.int p4), .val (.int p5), .val (.ref b1), .val (.ref b5), .val (.ref b179), .val (.ref b211), .val (.int (1 : Int32)), .val (.ref b211), .val (.long q0), .second, .val (.long q1), .second, .val (.int p2)] [(.long q1)])) _
        refine XS.lstore X315.here hx rfl (hb hby at_109) rfl (l' := #[.val (.long q0), .second, .val (.long q1), .second, .val (.int p2), .val (.int p3), .val (.int p4), .val (.int p5), .val (.ref b1), .val (.ref b5), .val (.ref b179), .val (.ref b211), .val (.int (1 : Int32)), .val (.ref b211), .val (.long q1), .second, .val (.long q1), .second, .val (.int p2)]) rfl ?_
        show Steps p.tables e below (T315.setTop (mkF m 111 #[.val (.long q0), .second, .val (.long q1), .second, .val (.int p2), .val (.int p3), .val (.int p4), .val (.int p5), .val (.ref b1), .val (.ref b5), .val (.ref b179), .val (.ref b211), .val (.int (1 : Int32)), .val (.ref b211), .val (.long q1), .second, .val (.long q1), .second, .val (.int p2)] [])) _
        refine XS.lloadN X315.here hx rfl (hb hby at_111) rfl ?_
        show Steps p.tables e below (T315.setTop (mkF m 112 #[.val (.long q0), .second, .val (.long q1), .second, .val (.int p2), .val (.int p3), .val (.int p4), .val (.int p5), .val (.ref b1), .val (.ref b5), .val (.ref b179), .val (.ref b211), .val (.int (1 : Int32)), .val (.ref b211), .val (.long q1), .second, .val (.long q1), .second, .val (.int p2)] [(.long q0)])) _
        refine XS.lstore X315.here hx rfl (hb hby at_112) rfl (l' := #[.val (.long q0), .second, .val (.long q1), .second, .val (.int p2), .val (.int p3), .val (.int p4), .val (.int p5), .val (.ref b1), .val (.ref b5), .val (.ref b179), .val (.ref b211), .val (.int (1 : Int32)), .val (.ref b211), .val (.long q1), .second, .val (.long q0), .second, .val (.int p2)]) rfl ?_
        show Steps p.tables e below (T315.setTop (mkF m 114 #[.val (.long q0), .second, .val (.long q1), .second, .val (.int p2), .val (.int p3), .val (.int p4), .val (.int p5), .val (.ref b1), .val (.ref b5), .val (.ref b179), .val (.ref b211), .val (.int (1 : Int32)), .val (.ref b211), .val (.long q1), .second, .val (.long q0), .second, .val (.int p2)] [])) _
        refine XS.iload X315.here hx rfl (hb hby at_114) rfl ?_
        show Steps p.tables e below (T315.setTop (mkF m 116 #[.val (.long q0), .second, .val (.long q1), .second, .val (.int p2), .val (.int p3), .val (.int p4), .val (.int p5), .val (.ref b1), .val (.ref b5), .val (.ref b179), .val (.ref b211), .val (.int (1 : Int32)), .val (.ref b211), .val (.long q1), .second, .val (.long q0), .second, .val (.int p2)] [(.int p4)])) _
        refine XS.istore X315.here hx rfl (hb hby at_116) rfl (l' := #[.val (.long q0), .second, .val (.long q1), .second, .val (.int p2), .val (.int p3), .val (.int p4), .val (.int p5), .val (.ref b1), .val (.ref b5), .val (.ref b179), .val (.ref b211), .val (.int (1 : Int32)), .val (.ref b211), .val (.long q1), .second, .val (.long q0), .second, .val (.int p4)]) rfl ?_
        show Steps p.tables e below (T315.setTop (mkF m 118 #[.val (.long q0), .second, .val (.long q1), .second, .val (.int p2), .val (.int p3), .val (.int p4), .val (.int p5), .val (.ref b1), .val (.ref b5), .val (.ref b179), .val (.ref b211), .val (.int (1 : Int32)), .val (.ref b211), .val (.long q1), .second, .val (.long q0), .second, .val (.int p4)] [])) _
        refine XS.aload X315.here hx rfl (hb hby at_118) rfl rfl ?_
        show Steps p.tables e below (T315.setTop (mkF m 120 #[.val (.long q0), .second, .val (.long q1), .second, .val (.int p2), .val (.int p3), .val (.int p4), .val (.int p5), .val (.ref b1), .val (.ref b5), .val (.ref b179), .val (.ref b211), .val (.int (1 : Int32)), .val (.ref b211), .val (.long q1), .second, .val (.long q0), .second, .val (.int p4)] [(.ref b5)])) _
        refine st327.trans ?_
        exact kt
      have zs332 : n0 ≤ T315.heap.size := Nat.le_trans Z0 k324.1
      obtain ⟨cq334, kq334, q334a, q334b, q334c⟩ := isOf hZ eq329 f321
      obtain ⟨_, _, ⟨T333, L333, k333, n333⟩, -, X333, ⟨Lc333, hQ333, l333, y333, z333⟩, st333⟩ := X327.virtualBack hx (y := (⟨"com/example/interleave/interleave/check/Expansion", "generated", "()J"⟩ : MethodName)) (z := (⟨"com/example/interleave/interleave/check/Expansion", "generated", "()J"⟩ : MethodName)) hown (mvT hZ (hw _ (List.mem_of_getElem? (i := 64) rfl))) (mvT hZ (hw _ (List.mem_of_getElem? (i := 65) rfl))) (notFace_of_selects (args := #[]) (mvT hZ (hw _ (List.mem_of_getElem? (i := 67) rfl)))) (mvT hZ (hw _ (List.mem_of_getElem? (i := 67) rfl))) (mvT hZ (hw _ (List.mem_of_getElem? (i := 66) rfl))) (by decide) (backOf (W := 0) (own_rm_ggn l Z a0 hw [] b5 q1 T315.heap n0 zs332 c317_1) hZ (hw _ (List.mem_of_getElem? (i := 68) rfl)) (hw _ (List.mem_of_getElem? (i := 3) rfl)) (by decide) (by decide)) q334a q334c (g := (mkF m 130 #[.val (.long q0), .second, .val (.long q1), .second, .val (.int p2), .val (.int p3), .val (.int p4), .val (.int p5), .val (.ref b1), .val (.ref b5), .val (.ref b179), .val (.ref b211), .val (.int (1 : Int32)), .val (.ref b211), .val (.long q1), .second, .val (.long q0), .second, .val (.int p4)] [(.ref b5)])) rfl (by rw [hml]; rfl) (Steps.refl _) (argsL := []) (rest := []) (lenOf own_pd4 rfl) rfl (by show 2 * 0 + _ ≤ _; exact Nat.le_of_eq rfl) (hb hby at_130) (fun _ _ => ⟨rfl, eq329, (by decide : 6 + 0 ≤ _), (by decide : 34 + 0 ≤ _)⟩)
      dsimp only [Pt.U, Pt.locs, Pt.cells, Pt.slots] at X333 l333 y333 z333 st333 hQ333
      rw [l333, (y333 : k333 = 6), (z333 : n333 = 34)] at X333
      clear l333 y333 z333
      obtain ⟨rfl, N335, eq335⟩ := hQ333
      have nf336 := Fr.app nf330 N335
      have zs337 : n0 ≤ T315.heap.size := Nat.le_trans Z0 k324.1
      obtain ⟨cq339, kq339, q339a, q339b, q339c⟩ := isOf hZ eq335 f321
      obtain ⟨_, _, ⟨T338, L338, k338, n338⟩, -, X338, ⟨Lc338, hQ338, l338, y338, z338⟩, st338⟩ := X333.virtualBack hx (y := (⟨"com/example/interleave/interleave/check/Expansion", "distinct", "()J"⟩ : MethodName)) (z := (⟨"com/example/interleave/interleave/check/Expansion", "distinct", "()J"⟩ : MethodName)) hown (mvT hZ (hw _ (List.mem_of_getElem? (i := 69) rfl))) (mvT hZ (hw _ (List.mem_of_getElem? (i := 70) rfl))) (notFace_of_selects (args := #[]) (mvT hZ (hw _ (List.mem_of_getElem? (i := 72) rfl)))) (mvT hZ (hw _ (List.mem_of_getElem? (i := 72) rfl))) (mvT hZ (hw _ (List.mem_of_getElem? (i := 71) rfl))) (by decide) (backOf (W := 0) (own_rm_gdi l Z a0 hw [] b5 q0 T315.heap n0 zs337 c317_2) hZ (hw _ (List.mem_of_getElem? (i := 73) rfl)) (hw _ (List.mem_of_getElem? (i := 3) rfl)) (by decide) (by decide)) q339a q339c (g := (mkF m 141 #[.val (.long q0), .second, .val (.long q1), .second, .val (.int p2), .val (.int p3), .val (.int p4), .val (.int p5), .val (.ref b1), .val (.ref b5), .val (.ref b179), .val (.ref b211), .val (.int (1 : Int32)), .val (.ref b211), .val (.long q1), .second, .val (.long q0), .second, .val (.int p4)] [(.ref b5)])) rfl (by rw [hml]; rfl) (Steps.refl _) (argsL := []) (rest := []) (lenOf own_pd4 rfl) rfl (by show 2 * 0 + _ ≤ _; exact Nat.le_of_eq rfl) (hb hby at_141) (fun _ _ => ⟨rfl, eq335, (by decide : 6 + 0 ≤ _), (by decide : 34 + 0 ≤ _)⟩)
      dsimp only [Pt.U, Pt.locs, Pt.cells, Pt.slots] at X338 l338 y338 z338 st338 hQ338
      rw [l338, (y338 : k338 = 6), (z338 : n338 = 34)] at X338
      clear l338 y338 z338
      obtain ⟨rfl, N340, eq340⟩ := hQ338
      have nf341 := Fr.app nf336 N340
      have pre342 : ∀ t, Steps p.tables e below (T338.setTop (mkF m 150 #[.val (.long q0), .second, .val (.long q1), .second, .val (.int p2), .val (.int p3), .val (.int p4), .val (.int p5), .val (.ref b1), .val (.ref b5), .val (.ref b179), .val (.ref b211), .val (.int (1 : Int32)), .val (.ref b211), .val (.long q1), .second, .val (.long q0), .second, .val (.int p4)] [])) t → Steps p.tables e below (s₁.setTop (entryFrame m #[(.long q0), (.long q1), (.int p2), (.int p3), (.int p4), (.int p5)] maxLocals)) t := by
        intro t kt
        refine pre331 t ?_
        show Steps p.tables e below (T327.setTop (mkF m 123 #[.val (.long q0), .second, .val (.long q1), .second, .val (.int p2), .val (.int p3), .val (.int p4), .val (.int p5), .val (.ref b1), .val (.ref b5), .val (.ref b179), .val (.ref b211), .val (.int (1 : Int32)), .val (.ref b211), .val (.long q1), .second, .val (.long q0), .second, .val (.int p4)] [(.ref b211)])) _
        refine XS.aload X327.here hx rfl (hb hby at_123) rfl rfl ?_
        show Steps p.tables e below (T327.setTop (mkF m 125 #[.val (.long q0), .second, .val (.long q1), .second, .val (.int p2), .val (.int p3), .val (.int p4), .val (.int p5), .val (.ref b1), .val (.ref b5), .val (.ref b179), .val (.ref b211), .val (.int (1 : Int32)), .val (.ref b211), .val (.long q1), .second, .val (.long q0), .second, .val (.int p4)] [(.ref b211), (.ref b211)])) _
        refine Jvm.RoadKit.acmp (g := (mkF m 125 #[.val (.long q0), .second, .val (.long q1), .second, .val (.int p2), .val (.int p3), .val (.int p4), .val (.int p5), .val (.ref b1), .val (.ref b5), .val (.ref b179), .val (.ref b211), .val (.int (1 : Int32)), .val (.ref b211), .val (.long q1), .second, .val (.long q0), .second, .val (.int p4)] [(.ref b211), (.ref b211)])) X327 hx rfl rfl rfl (pc0 := 125) (pc' := 128) (same := true) rfl (hb hby at_125) rfl (decide_eq_true rfl) (by decide) (by decide) ?_
        show Steps p.tables e below (T327.setTop (mkF m 128 #[.val (.long q0), .second, .val (.long q1), .second, .val (.int p2), .val (.int p3), .val (.int p4), .val (.int p5), .val (.ref b1), .val (.ref b5), .val (.ref b179), .val (.ref b211), .val (.int (1 : Int32)), .val (.ref b211), .val (.long q1), .second, .val (.long q0), .second, .val (.int p4)] [])) _
        refine XS.aload X327.here hx rfl (hb hby at_128) rfl rfl ?_
        show Steps p.tables e below (T327.setTop (mkF m 130 #[.val (.long q0), .second, .val (.long q1), .second, .val (.int p2), .val (.int p3), .val (.int p4), .val (.int p5), .val (.ref b1), .val (.ref b5), .val (.ref b179), .val (.ref b211), .val (.int (1 : Int32)), .val (.ref b211), .val (.long q1), .second, .val (.long q0), .second, .val (.int p4)] [(.ref b5)])) _
        refine st333.trans ?_
        show Steps p.tables e below (T333.setTop (mkF m 133 #[.val (.long q0), .second, .val (.long q1), .second, .val (.int p2), .val (.int p3), .val (.int p4), .val (.int p5), .val (.ref b1), .val (.ref b5), .val (.ref b179), .val (.ref b211), .val (.int (1 : Int32)), .val (.ref b211), .val (.long q1), .second, .val (.long q0), .second, .val (.int p4)] [(.long q1)])) _
        refine XS.lload X333.here hx rfl (hb hby at_133) rfl ?_
        show Steps p.tables e below (T333.setTop (mkF m 135 #[.val (.long q0), .second, .val (.long q1), .second, .val (.int p2), .val (.int p3), .val (.int p4), .val (.int p5), .val (.ref b1), .val (.ref b5), .val (.ref b179), .val (.ref b211), .val (.int (1 : Int32)), .val (.ref b211), .val (.long q1), .second, .val (.long q0), .second, .val (.int p4)] [(.long q1), (.long q1)])) _
        refine XS.lcmp X333.here hx rfl (hb hby at_135) rfl ?_
        show Steps p.tables e below (T333.setTop (mkF m 136 #[.val (.long q0), .second, .val (.long q1), .second, .val (.int p2), .val (.int p3), .val (.int p4), .val (.int p5), .val (.ref b1), .val (.ref b5), .val (.ref b179), .val (.ref b211), .val (.int (1 : Int32)), .val (.ref b211), .val (.long q1), .second, .val (.long q0), .second, .val (.int p4)] [(.int (lcmpW q1 q1))])) _
        refine XS.ifNo X333.here hx rfl (hb hby at_136) rfl ((if0 _ _).trans (teq (own_lc _)).2) ?_
        show Steps p.tables e below (T333.setTop (mkF m 139 #[.val (.long q0), .second, .val (.long q1), .second, .val (.int p2), .val (.int p3), .val (.int p4), .val (.int p5), .val (.ref b1), .val (.ref b5), .val (.ref b179), .val (.ref b211), .val (.int (1 : Int32)), .val (.ref b211), .val (.long q1), .second, .val (.long q0), .second, .val (.int p4)] [])) _
        refine XS.aload X333.here hx rfl (hb hby at_139) rfl rfl ?_
        show Steps p.tables e below (T333.setTop (mkF m 141 #[.val (.long q0), .second, .val (.long q1), .second, .val (.int p2), .val (.int p3), .val (.int p4), .val (.int p5), .val (.ref b1), .val (.ref b5), .val (.ref b179), .val (.ref b211), .val (.int (1 : Int32)), .val (.ref b211), .val (.long q1), .second, .val (.long q0), .second, .val (.int p4)] [(.ref b5)])) _
        refine st338.trans ?_
        show Steps p.tables e below (T338.setTop (mkF m 144 #[.val (.long q0), .second, .val (.long q1), .second, .val (.int p2), .val (.int p3), .val (.int p4), .val (.int p5), .val (.ref b1), .val (.ref b5), .val (.ref b179), .val (.ref b211), .val (.int (1 : Int32)), .val (.ref b211), .val (.long q1), .second, .val (.long q0), .second, .val (.int p4)] [(.long q0)])) _
        refine XS.lload X338.here hx rfl (hb hby at_144) rfl ?_
        show Steps p.tables e below (T338.setTop (mkF m 146 #[.val (.long q0), .second, .val (.long q1), .second, .val (.int p2), .val (.int p3), .val (.int p4), .val (.int p5), .val (.ref b1), .val (.ref b5), .val (.ref b179), .val (.ref b211), .val (.int (1 : Int32)), .val (.ref b211), .val (.long q1), .second, .val (.long q0), .second, .val (.int p4)] [(.long q0), (.long q0)])) _
        refine XS.lcmp X338.here hx rfl (hb hby at_146) rfl ?_
        show Steps p.tables e below (T338.setTop (mkF m 147 #[.val (.long q0), .second, .val (.long q1), .second, .val (.int p2), .val (.int p3), .val (.int p4), .val (.int p5), .val (.ref b1), .val (.ref b5), .val (.ref b179), .val (.ref b211), .val (.int (1 : Int32)), .val (.ref b211), .val (.long q1), .second, .val (.long q0), .second, .val (.int p4)] [(.int (lcmpW q0 q0))])) _
        refine XS.ifNo X338.here hx rfl (hb hby at_147) rfl ((if0 _ _).trans (teq (own_lc _)).2) ?_
        exact kt
      have zs343 : n0 ≤ T315.heap.size := Nat.le_trans Z0 k324.1
      obtain ⟨cq345, kq345, q345a, q345b, q345c⟩ := isOf hZ eq340 f321
      obtain ⟨_, _, ⟨T344, L344, k344, n344⟩, -, X344, ⟨Lc344, hQ344, l344, y344, z344⟩, st344⟩ := X338.virtualBack hx (y := (⟨"com/example/interleave/interleave/check/Expansion", "depth", "()I"⟩ : MethodName)) (z := (⟨"com/example/interleave/interleave/check/Expansion", "depth", "()I"⟩ : MethodName)) hown (mvT hZ (hw _ (List.mem_of_getElem? (i := 74) rfl))) (mvT hZ (hw _ (List.mem_of_getElem? (i := 75) rfl))) (notFace_of_selects (args := #[]) (mvT hZ (hw _ (List.mem_of_getElem? (i := 77) rfl)))) (mvT hZ (hw _ (List.mem_of_getElem? (i := 77) rfl))) (mvT hZ (hw _ (List.mem_of_getElem? (i := 76) rfl))) (by decide) (backOf (W := 0) (own_rm_gde l Z a0 hw [] b5 p4 T315.heap n0 zs343 c317_3) hZ (hw _ (List.mem_of_getElem? (i := 78) rfl)) (hw _ (List.mem_of_getElem? (i := 3) rfl)) (by decide) (by decide)) q345a q345c (g := (mkF m 152 #[.val (.long q0), .second, .val (.long q1), .second, .val (.int p2), .val (.int p3), .val (.int p4), .val (.int p5), .val (.ref b1), .val (.ref b5), .val (.ref b179), .val (.ref b211), .val (.int (1 : Int32)), .val (.ref b211), .val (.long q1), .second, .val (.long q0), .second, .val (.int p4)] [(.ref b5)])) rfl (by rw [hml]; rfl) (Steps.refl _) (argsL := []) (rest := []) (lenOf own_pd5 rfl) rfl (by show 2 * 0 + _ ≤ _; exact Nat.le_of_eq rfl) (hb hby at_152) (fun _ _ => ⟨rfl, eq340, (by decide : 6 + 0 ≤ _), (by decide : 34 + 0 ≤ _)⟩)
      dsimp only [Pt.U, Pt.locs, Pt.cells, Pt.slots] at X344 l344 y344 z344 st344 hQ344
      rw [l344, (y344 : k344 = 6), (z344 : n344 = 34)] at X344
      clear l344 y344 z344
      obtain ⟨rfl, N346, eq346⟩ := hQ344
      have nf347 := Fr.app nf341 N346
      have zs348 : n0 ≤ T315.heap.size := Nat.le_trans Z0 k324.1
      obtain ⟨cq350, kq350, q350a, q350b, q350c⟩ := isOf hZ eq346 f321
      obtain ⟨_, _, ⟨T349, L349, k349, n349⟩, -, X349, ⟨Lc349, hQ349, l349, y349, z349⟩, st349⟩ := X344.virtualBack hx (y := (⟨"com/example/interleave/interleave/check/Expansion", "sourceId", "()I"⟩ : MethodName)) (z := (⟨"com/example/interleave/interleave/check/Expansion", "sourceId", "()I"⟩ : MethodName)) hown (mvT hZ (hw _ (List.mem_of_getElem? (i := 79) rfl))) (mvT hZ (hw _ (List.mem_of_getElem? (i := 80) rfl))) (notFace_of_selects (args := #[]) (mvT hZ (hw _ (List.mem_of_getElem? (i := 82) rfl)))) (mvT hZ (hw _ (List.mem_of_getElem? (i := 82) rfl))) (mvT hZ (hw _ (List.mem_of_getElem? (i := 81) rfl))) (by decide) (backOf (W := 0) (own_rm_gsi l Z a0 hw [] b5 p3 T315.heap n0 zs348 c317_4) hZ (hw _ (List.mem_of_getElem? (i := 83) rfl)) (hw _ (List.mem_of_getElem? (i := 3) rfl)) (by decide) (by decide)) q350a q350c (g := (mkF m 162 #[.val (.long q0), .second, .val (.long q1), .second, .val (.int p2), .val (.int p3), .val (.int p4), .val (.int p5), .val (.ref b1), .val (.ref b5), .val (.ref b179), .val (.ref b211), .val (.int (1 : Int32)), .val (.ref b211), .val (.long q1), .second, .val (.long q0), .second, .val (.int p4)] [(.ref b5)])) rfl (by rw [hml]; rfl) (Steps.refl _) (argsL := []) (rest := []) (lenOf own_pd5 rfl) rfl (by show 2 * 0 + _ ≤ _; exact Nat.le_of_eq rfl) (hb hby at_162) (fun _ _ => ⟨rfl, eq346, (by decide : 6 + 0 ≤ _), (by decide : 34 + 0 ≤ _)⟩)
      dsimp only [Pt.U, Pt.locs, Pt.cells, Pt.slots] at X349 l349 y349 z349 st349 hQ349
      rw [l349, (y349 : k349 = 6), (z349 : n349 = 34)] at X349
      clear l349 y349 z349
      obtain ⟨rfl, N351, eq351⟩ := hQ349
      have nf352 := Fr.app nf347 N351
      have zs353 : n0 ≤ T315.heap.size := Nat.le_trans Z0 k324.1
      obtain ⟨cq355, kq355, q355a, q355b, q355c⟩ := isOf hZ eq351 f321
      obtain ⟨_, _, ⟨T354, L354, k354, n354⟩, -, X354, ⟨Lc354, hQ354, l354, y354, z354⟩, st354⟩ := X349.virtualBack hx (y := (⟨"com/example/interleave/interleave/check/Expansion", "sourceParent", "()I"⟩ : MethodName)) (z := (⟨"com/example/interleave/interleave/check/Expansion", "sourceParent", "()I"⟩ : MethodName)) hown (mvT hZ (hw _ (List.mem_of_getElem? (i := 84) rfl))) (mvT hZ (hw _ (List.mem_of_getElem? (i := 85) rfl))) (notFace_of_selects (args := #[]) (mvT hZ (hw _ (List.mem_of_getElem? (i := 87) rfl)))) (mvT hZ (hw _ (List.mem_of_getElem? (i := 87) rfl))) (mvT hZ (hw _ (List.mem_of_getElem? (i := 86) rfl))) (by decide) (backOf (W := 0) (own_rm_gsp l Z a0 hw [] b5 p4 T315.heap n0 zs353 c317_5) hZ (hw _ (List.mem_of_getElem? (i := 88) rfl)) (hw _ (List.mem_of_getElem? (i := 3) rfl)) (by decide) (by decide)) q355a q355c (g := (mkF m 172 #[.val (.long q0), .second, .val (.long q1), .second, .val (.int p2), .val (.int p3), .val (.int p4), .val (.int p5), .val (.ref b1), .val (.ref b5), .val (.ref b179), .val (.ref b211), .val (.int (1 : Int32)), .val (.ref b211), .val (.long q1), .second, .val (.long q0), .second, .val (.int p4)] [(.ref b5)])) rfl (by rw [hml]; rfl) (Steps.refl _) (argsL := []) (rest := []) (lenOf own_pd5 rfl) rfl (by show 2 * 0 + _ ≤ _; exact Nat.le_of_eq rfl) (hb hby at_172) (fun _ _ => ⟨rfl, eq351, (by decide : 6 + 0 ≤ _), (by decide : 34 + 0 ≤ _)⟩)
      dsimp only [Pt.U, Pt.locs, Pt.cells, Pt.slots] at X354 l354 y354 z354 st354 hQ354
      rw [l354, (y354 : k354 = 6), (z354 : n354 = 34)] at X354
      clear l354 y354 z354
      obtain ⟨rfl, N356, eq356⟩ := hQ354
      have nf357 := Fr.app nf352 N356
      have pre358 : ∀ t, Steps p.tables e below (T354.setTop (mkF m 180 #[.val (.long q0), .second, .val (.long q1), .second, .val (.int p2), .val (.int p3), .val (.int p4), .val (.int p5), .val (.ref b1), .val (.ref b5), .val (.ref b179), .val (.ref b211), .val (.int (1 : Int32)), .val (.ref b211), .val (.long q1), .second, .val (.long q0), .second, .val (.int p4)] [])) t → Steps p.tables e below (s₁.setTop (entryFrame m #[(.long q0), (.long q1), (.int p2), (.int p3), (.int p4), (.int p5)] maxLocals)) t := by
        intro t kt
        refine pre342 t ?_
        show Steps p.tables e below (T338.setTop (mkF m 150 #[.val (.long q0), .second, .val (.long q1), .second, .val (.int p2), .val (.int p3), .val (.int p4), .val (.int p5), .val (.ref b1), .val (.ref b5), .val (.ref b179), .val (.ref b211), .val (.int (1 : Int32)), .val (.ref b211), .val (.long q1), .second, .val (.long q0), .second, .val (.int p4)] [])) _
        refine XS.aload X338.here hx rfl (hb hby at_150) rfl rfl ?_
        show Steps p.tables e below (T338.setTop (mkF m 152 #[.val (.long q0), .second, .val (.long q1), .second, .val (.int p2), .val (.int p3), .val (.int p4), .val (.int p5), .val (.ref b1), .val (.ref b5), .val (.ref b179), .val (.ref b211), .val (.int (1 : Int32)), .val (.ref b211), .val (.long q1), .second, .val (.long q0), .second, .val (.int p4)] [(.ref b5)])) _
        refine st344.trans ?_
        show Steps p.tables e below (T344.setTop (mkF m 155 #[.val (.long q0), .second, .val (.long q1), .second, .val (.int p2), .val (.int p3), .val (.int p4), .val (.int p5), .val (.ref b1), .val (.ref b5), .val (.ref b179), .val (.ref b211), .val (.int (1 : Int32)), .val (.ref b211), .val (.long q1), .second, .val (.long q0), .second, .val (.int p4)] [(.int p4)])) _
        refine XS.iload X344.here hx rfl (hb hby at_155) rfl ?_
        show Steps p.tables e below (T344.setTop (mkF m 157 #[.val (.long q0), .second, .val (.long q1), .second, .val (.int p2), .val (.int p3), .val (.int p4), .val (.int p5), .val (.ref b1), .val (.ref b5), .val (.ref b179), .val (.ref b211), .val (.int (1 : Int32)), .val (.ref b211), .val (.long q1), .second, .val (.long q0), .second, .val (.int p4)] [(.int p4), (.int p4)])) _
        refine XS.icmpNo X344.here hx rfl (hb hby at_157) rfl (teq (rfl : p4 = p4)).2 ?_
        show Steps p.tables e below (T344.setTop (mkF m 160 #[.val (.long q0), .second, .val (.long q1), .second, .val (.int p2), .val (.int p3), .val (.int p4), .val (.int p5), .val (.ref b1), .val (.ref b5), .val (.ref b179), .val (.ref b211), .val (.int (1 : Int32)), .val (.ref b211), .val (.long q1), .second, .val (.long q0), .second, .val (.int p4)] [])) _
        refine XS.aload X344.here hx rfl (hb hby at_160) rfl rfl ?_
        show Steps p.tables e below (T344.setTop (mkF m 162 #[.val (.long q0), .second, .val (.long q1), .second, .val (.int p2), .val (.int p3), .val (.int p4), .val (.int p5), .val (.ref b1), .val (.ref b5), .val (.ref b179), .val (.ref b211), .val (.int (1 : Int32)), .val (.ref b211), .val (.long q1), .second, .val (.long q0), .second, .val (.int p4)] [(.ref b5)])) _
        refine st349.trans ?_
        show Steps p.tables e below (T349.setTop (mkF m 165 #[.val (.long q0), .second, .val (.long q1), .second, .val (.int p2), .val (.int p3), .val (.int p4), .val (.int p5), .val (.ref b1), .val (.ref b5), .val (.ref b179), .val (.ref b211), .val (.int (1 : Int32)), .val (.ref b211), .val (.long q1), .second, .val (.long q0), .second, .val (.int p4)] [(.int p3)])) _
        refine XS.iload X349.here hx rfl (hb hby at_165) rfl ?_
        show Steps p.tables e below (T349.setTop (mkF m 167 #[.val (.long q0), .second, .val (.long q1), .second, .val (.int p2), .val (.int p3), .val (.int p4), .val (.int p5), .val (.ref b1), .val (.ref b5), .val (.ref b179), .val (.ref b211), .val (.int (1 : Int32)), .val (.ref b211), .val (.long q1), .second, .val (.long q0), .second, .val (.int p4)] [(.int p3), (.int p3)])) _
        refine XS.icmpNo X349.here hx rfl (hb hby at_167) rfl (teq (rfl : p3 = p3)).2 ?_
        show Steps p.tables e below (T349.setTop (mkF m 170 #[.val (.long q0), .second, .val (.long q1), .second, .val (.int p2), .val (.int p3), .val (.int p4), .val (.int p5), .val (.ref b1), .val (.ref b5), .val (.ref b179), .val (.ref b211), .val (.int (1 : Int32)), .val (.ref b211), .val (.long q1), .second, .val (.long q0), .second, .val (.int p4)] [])) _
        refine XS.aload X349.here hx rfl (hb hby at_170) rfl rfl ?_
        show Steps p.tables e below (T349.setTop (mkF m 172 #[.val (.long q0), .second, .val (.long q1), .second, .val (.int p2), .val (.int p3), .val (.int p4), .val (.int p5), .val (.ref b1), .val (.ref b5), .val (.ref b179), .val (.ref b211), .val (.int (1 : Int32)), .val (.ref b211), .val (.long q1), .second, .val (.long q0), .second, .val (.int p4)] [(.ref b5)])) _
        refine st354.trans ?_
        show Steps p.tables e below (T354.setTop (mkF m 175 #[.val (.long q0), .second, .val (.long q1), .second, .val (.int p2), .val (.int p3), .val (.int p4), .val (.int p5), .val (.ref b1), .val (.ref b5), .val (.ref b179), .val (.ref b211), .val (.int (1 : Int32)), .val (.ref b211), .val (.long q1), .second, .val (.long q0), .second, .val (.int p4)] [(.int p4)])) _
        refine XS.iload X354.here hx rfl (hb hby at_175) rfl ?_
        show Steps p.tables e below (T354.setTop (mkF m 177 #[.val (.long q0), .second, .val (.long q1), .second, .val (.int p2), .val (.int p3), .val (.int p4), .val (.int p5), .val (.ref b1), .val (.ref b5), .val (.ref b179), .val (.ref b211), .val (.int (1 : Int32)), .val (.ref b211), .val (.long q1), .second, .val (.long q0), .second, .val (.int p4)] [(.int p4), (.int p4)])) _
        refine XS.icmpNo X354.here hx rfl (hb hby at_177) rfl (teq (rfl : p4 = p4)).2 ?_
        exact kt
      have zs359 : n0 ≤ T315.heap.size := Nat.le_trans Z0 k324.1
      obtain ⟨cq361, kq361, q361a, q361b, q361c⟩ := isOf hZ eq356 f321
      obtain ⟨_, _, ⟨T360, L360, k360, n360⟩, -, X360, ⟨Lc360, hQ360, l360, y360, z360⟩, st360⟩ := X354.virtualBack hx (y := (⟨"com/example/interleave/interleave/check/Expansion", "sourceBytes", "()[B"⟩ : MethodName)) (z := (⟨"com/example/interleave/interleave/check/Expansion", "sourceBytes", "()[B"⟩ : MethodName)) hown (mvT hZ (hw _ (List.mem_of_getElem? (i := 89) rfl))) (mvT hZ (hw _ (List.mem_of_getElem? (i := 90) rfl))) (notFace_of_selects (args := #[]) (mvT hZ (hw _ (List.mem_of_getElem? (i := 92) rfl)))) (mvT hZ (hw _ (List.mem_of_getElem? (i := 92) rfl))) (mvT hZ (hw _ (List.mem_of_getElem? (i := 91) rfl))) (by decide) (backOf (W := 0) (own_rm_gsb l Z a0 hw [] b5 b1 T315.heap n0 zs359 c317_6) hZ (hw _ (List.mem_of_getElem? (i := 93) rfl)) (hw _ (List.mem_of_getElem? (i := 3) rfl)) (by decide) (by decide)) q361a q361c (g := (mkF m 182 #[.val (.long q0), .second, .val (.long q1), .second, .val (.int p2), .val (.int p3), .val (.int p4), .val (.int p5), .val (.ref b1), .val (.ref b5), .val (.ref b179), .val (.ref b211), .val (.int (1 : Int32)), .val (.ref b211), .val (.long q1), .second, .val (.long q0), .second, .val (.int p4)] [(.ref b5)])) rfl (by rw [hml]; rfl) (Steps.refl _) (argsL := []) (rest := []) (lenOf own_pd6 rfl) rfl (by show 2 * 0 + _ ≤ _; exact Nat.le_of_eq rfl) (hb hby at_182) (fun _ _ => ⟨rfl, eq356, (by decide : 6 + 0 ≤ _), (by decide : 34 + 0 ≤ _)⟩)
      dsimp only [Pt.U, Pt.locs, Pt.cells, Pt.slots] at X360 l360 y360 z360 st360 hQ360
      rw [l360, (y360 : k360 = 6), (z360 : n360 = 34)] at X360
      clear l360 y360 z360
      obtain ⟨rfl, N362, eq362⟩ := hQ360
      have nf363 := Fr.app nf357 N362
      have pre364 : ∀ t, Steps p.tables e below (T360.setTop (mkF m 195 #[.val (.long q0), .second, .val (.long q1), .second, .val (.int p2), .val (.int p3), .val (.int p4), .val (.int p5), .val (.ref b1), .val (.ref b5), .val (.ref b179), .val (.ref b211), .val (.int (1 : Int32)), .val (.ref b211), .val (.long q1), .second, .val (.long q0), .second, .val (.int p4)] [(.int (1 : Int32))])) t → Steps p.tables e below (s₁.setTop (entryFrame m #[(.long q0), (.long q1), (.int p2), (.int p3), (.int p4), (.int p5)] maxLocals)) t := by
        intro t kt
        refine pre358 t ?_
        show Steps p.tables e below (T354.setTop (mkF m 180 #[.val (.long q0), .second, .val (.long q1), .second, .val (.int p2), .val (.int p3), .val (.int p4), .val (.int p5), .val (.ref b1), .val (.ref b5), .val (.ref b179), .val (.ref b211), .val (.int (1 : Int32)), .val (.ref b211), .val (.long q1), .second, .val (.long q0), .second, .val (.int p4)] [])) _
        refine XS.aload X354.here hx rfl (hb hby at_180) rfl rfl ?_
        show Steps p.tables e below (T354.setTop (mkF m 182 #[.val (.long q0), .second, .val (.long q1), .second, .val (.int p2), .val (.int p3), .val (.int p4), .val (.int p5), .val (.ref b1), .val (.ref b5), .val (.ref b179), .val (.ref b211), .val (.int (1 : Int32)), .val (.ref b211), .val (.long q1), .second, .val (.long q0), .second, .val (.int p4)] [(.ref b5)])) _
        refine st360.trans ?_
        show Steps p.tables e below (T360.setTop (mkF m 185 #[.val (.long q0), .second, .val (.long q1), .second, .val (.int p2), .val (.int p3), .val (.int p4), .val (.int p5), .val (.ref b1), .val (.ref b5), .val (.ref b179), .val (.ref b211), .val (.int (1 : Int32)), .val (.ref b211), .val (.long q1), .second, .val (.long q0), .second, .val (.int p4)] [(.ref b1)])) _
        refine XS.aload X360.here hx rfl (hb hby at_185) rfl rfl ?_
        show Steps p.tables e below (T360.setTop (mkF m 187 #[.val (.long q0), .second, .val (.long q1), .second, .val (.int p2), .val (.int p3), .val (.int p4), .val (.int p5), .val (.ref b1), .val (.ref b5), .val (.ref b179), .val (.ref b211), .val (.int (1 : Int32)), .val (.ref b211), .val (.long q1), .second, .val (.long q0), .second, .val (.int p4)] [(.ref b1), (.ref b1)])) _
        refine Jvm.RoadKit.acmp (g := (mkF m 187 #[.val (.long q0), .second, .val (.long q1), .second, .val (.int p2), .val (.int p3), .val (.int p4), .val (.int p5), .val (.ref b1), .val (.ref b5), .val (.ref b179), .val (.ref b211), .val (.int (1 : Int32)), .val (.ref b211), .val (.long q1), .second, .val (.long q0), .second, .val (.int p4)] [(.ref b1), (.ref b1)])) X360 hx rfl rfl rfl (pc0 := 187) (pc' := 190) (same := true) rfl (hb hby at_187) rfl (decide_eq_true rfl) (by decide) (by decide) ?_
        show Steps p.tables e below (T360.setTop (mkF m 190 #[.val (.long q0), .second, .val (.long q1), .second, .val (.int p2), .val (.int p3), .val (.int p4), .val (.int p5), .val (.ref b1), .val (.ref b5), .val (.ref b179), .val (.ref b211), .val (.int (1 : Int32)), .val (.ref b211), .val (.long q1), .second, .val (.long q0), .second, .val (.int p4)] [])) _
        refine XS.iconst X360.here hx rfl (hb hby at_190) ?_
        show Steps p.tables e below (T360.setTop (mkF m 191 #[.val (.long q0), .second, .val (.long q1), .second, .val (.int p2), .val (.int p3), .val (.int p4), .val (.int p5), .val (.ref b1), .val (.ref b5), .val (.ref b179), .val (.ref b211), .val (.int (1 : Int32)), .val (.ref b211), .val (.long q1), .second, .val (.long q0), .second, .val (.int p4)] [(.int (1 : Int32))])) _
        refine XS.goto X360.here hx rfl (pc0 := 191) (pc' := 195) rfl (hb hby at_191) (by decide) (by decide) ?_
        exact kt
      obtain ⟨fs, hr, hrun, hended, hW, hsame⟩ := X360.leave (v := some (.int (1 : Int32))) (fun h => by rw [Bd.returns] at h; cases h)
      refine ⟨_, _, pre364 _ ?_, hrun, hended, _, _, rfl, ?_, ⟨_, rfl⟩, hW, hsame.mono (by decide) (by decide)⟩
      · show Steps p.tables e below (T360.setTop (mkF m 195 #[.val (.long q0), .second, .val (.long q1), .second, .val (.int p2), .val (.int p3), .val (.int p4), .val (.int p5), .val (.ref b1), .val (.ref b5), .val (.ref b179), .val (.ref b211), .val (.int (1 : Int32)), .val (.ref b211), .val (.long q1), .second, .val (.long q0), .second, .val (.int p4)] [(.int (1 : Int32))])) _
        exact retN X360 hx (t := .boolean) Bd.returns (by simp) (hb hby at_195) hr
      · show own_Q_law Z q0 q1 p2 p3 p4 p5 aS h0 n0 (some (.int (1 : Int32))) T360.heap _
        rw [eq362]
        exact ⟨rfl, nf363⟩
set_option maxRecDepth 65536 in
set_option maxHeartbeats 40000000 in
theorem own_comes {Post : Tables → Env → Array Value → State → Outcome → State → Prop} (hpost : ∀ tb e args s v u, (limb_1_1.after args s (.returned v) u = true ∧ limb_1_2.after args s (.returned v) u = true ∧ True) → FrameEnd s (.returned v) u (Jvm.fieldLocs frame_1_writes args s ++ Jvm.arrayLocs frame_1_arrays args s ++ Jvm.staticLocs frame_1_statics s) 24 192 → Post tb e args s (.returned v) u) :
    ArmFor flags0 classFile x code maxLocals ret World_1 tables_1 room_1 Calls_1 rest_1 Pre_1 Post := by
  intro l hfl _ _ p e ha hc hk s m args below hf hA hF happ hP
  obtain ⟨hcalls, hrest, hpre⟩ := hP
  obtain ⟨-, -, -, hnamed, -, -, -, hat⟩ := (Spec.applies_iff hf).mp happ
  obtain ⟨hg, hn⟩ := and_e (Cond.before_iff.mp (show (Jvm.Cond.and given_1 narrow_1).before args s = true from hpre))
  obtain ⟨hcount, hq0⟩ := and_e hg
  obtain ⟨hi0, hq1⟩ := and_e hq0
  obtain ⟨hi1, hq2⟩ := and_e hq1
  obtain ⟨hi2, hq3⟩ := and_e hq2
  obtain ⟨hi3, hq4⟩ := and_e hq3
  obtain ⟨hi4, hq5⟩ := and_e hq4
  have hi5 := hq5
  obtain ⟨w0, w1, w2, w3, w4, w5, rfl⟩ : ∃ w0 w1 w2 w3 w4 w5 : Value, args = #[w0, w1, w2, w3, w4, w5] := by
    have hs : args.size = 6 := by simpa [Cond.value, given_1] using hcount
    obtain ⟨L⟩ := args
    match L, hs with
    | [w0, w1, w2, w3, w4, w5], _ => exact ⟨w0, w1, w2, w3, w4, w5, rfl⟩
  have hw := fun d (hd : d ∈ tables_1) => atoms_spec (ws := Jvm.Cond.code x code maxLocals ret :: tables_1) hat d (List.mem_cons_of_mem _ hd)
  have hfit : Fit s := fun {y c} hc i hi => by
    obtain ⟨ha, rfl⟩ := Array.getElem?_eq_some_iff.mp hc
    have q := List.all_eq_true.mp ((Array.all_eq_true_iff_forall_mem.mp hF) _ (Array.getElem_mem ha)) i (List.mem_range.mpr hi)
    simpa [Array.getElem?_eq_getElem hi] using q
  obtain ⟨hsets, hown0⟩ := atoms_of _ (rest_1_c_eq ▸ (show rest_1_c.before _ s = true from hrest))
  obtain ⟨i0, ei0⟩ := isL_v hi0
  obtain rfl : w0 = (.long i0) := Option.some.inj ei0
  obtain ⟨i1, ei1⟩ := isL_v hi1
  obtain rfl : w1 = (.long i1) := Option.some.inj ei1
  obtain ⟨i2, ei2⟩ := is_v hi2
  obtain rfl : w2 = (.int i2) := Option.some.inj ei2
  obtain ⟨i3, ei3⟩ := is_v hi3
  obtain rfl : w3 = (.int i3) := Option.some.inj ei3
  obtain ⟨i4, ei4⟩ := is_v hi4
  obtain rfl : w4 = (.int i4) := Option.some.inj ei4
  obtain ⟨i5, ei5⟩ := is_v hi5
  obtain rfl : w5 = (.int i5) := Option.some.inj ei5
  obtain ⟨aS, evS⟩ := arr_v (Cond.before_iff.mp (hsets _ (List.mem_of_getElem? (i := 6) rfl)))
  have S0 := Sta.start evS (Or.inr ⟨(hw _ (List.mem_of_getElem? (i := 12) rfl)), (hsets _ (List.mem_of_getElem? (i := 2) rfl))⟩)
  obtain ⟨n, o, h1, h2, h3, _, L, rfl, ⟨rfl, N⟩, hq⟩ := own_rm_law l s _ hw tables_1 i0 i1 i2 i3 i4 i5 aS s.heap s.heap.size (Nat.le_refl _) S0 p e ha hc hk s m _ below hf ((Spec.applies_iff_loose hf).mp happ).1 ⟨rfl, State.Warmed39.refl s, rfl⟩ trivial
  refine ⟨n, _, h1, h2, h3, hpost _ _ _ _ _ _ ⟨Cond.after_iff.mpr rfl, Cond.after_iff.mpr (eq_i res_at (Term.int_eval (1)) rfl), trivial⟩ ⟨hq.1, hq.2.1, (hq.2.2.sift fun y hy => Or.inr (N y hy)).mono (by decide) (by decide)⟩⟩
theorem main_1_1 : Claimed_1_1 := own_comes fun _ _ _ _ _ _ h hF => ⟨h.1, hF⟩
theorem main_1_2 : Claimed_1_2 := own_comes fun _ _ _ _ _ _ h hF => ⟨h.2.1, hF⟩
end Jvm.Pilot.@@N@@
namespace Jvm.Pilot.@@N@@
open Jvm Jvm.ClassFile Sem Op Lib Jvm.Free Jvm.Stand Jvm.Pilot.@@N@@.Jvm.D
/-! MADE BY PROGRAM (witnessworld.py) out of the Statement's table words and the real class files: 18 classes; the members and pool entries that the words name. The judged class is class 1, her method 1. -/
namespace start1
open Jvm.ClassFile
def u (s : String) : CpInfo := .utf8 (stringToUtf16 s)
/-- a pool by its gaps: so many unusable entries, then the entry; so many at the end -/
def gap : Nat → List CpInfo → List CpInfo
  | 0, r => r
  | n + 1, r => .unusable :: gap n r
def poolList (es : List (Nat × CpInfo)) (last : Nat) : List CpInfo := es.foldr (fun e r => gap e.1 (e.2 :: r)) (gap last [])
def pool (es : List (Nat × CpInfo)) (last : Nat) : Array CpInfo := ⟨poolList es last⟩
def fileOf (pool : Array CpInfo) (this : Nat) (attrs : Array Attribute := #[]) (ms : Array MethodInfo := #[]) (fl : Nat := 33) (sup : Nat := 0) (ifs : Array Nat := #[]) (fds : Array FieldInfo := #[]) : ClassFile where
  minorVersion := 0
  majorVersion := 65
  constantPool := pool
  accessFlags := fl
  thisClass := this
  superClass := sup
  interfaces := ifs
  fields := fds
  methods := ms
  attributes := attrs
def plain (name : String) (sup : Option ClassId) : Class where
  name := name
  kind := .ordinary
  loader := none
  accessFlags := 33
  super := sup
  interfaces := #[]
  cf := none
  fields := #[]
  methods := #[]
  instanceTypes := #[]
  staticTypes := #[]
  resolved := #[]
  callSites := []
  init := .initialized
  statics := none
  mirror := none

def pool0 : Array CpInfo := pool [(5, u "<init>"), (0, u "()V"), (1, .class_ 10), (1, u "java/lang/Object")] 113

def k0c0 : Code := { maxStack := 0, maxLocals := 1, code := object_method_1_code, exceptionTable := #[], attributes := #[] }
def k0m0 : Method := { name := "<init>", desc := "()V", sig := { parameters := [], returnType := none }, accessFlags := 1, code := some k0c0 }
/-- java/lang/Object -/
def k0 : Class := { plain "java/lang/Object" none with
  accessFlags := 33
  interfaces := #[]
  cf := some (fileOf pool0 8 #[] #[{ accessFlags := 1, nameIndex := 5, descriptorIndex := 6, attributes := #[] }] 33 0 #[] #[])
  fields := #[]
  methods := #[k0m0]
  instanceTypes := #[]
  staticTypes := #[]
  resolved := Array.replicate 124 none
  statics := none }

def pool1 : Array CpInfo := pool [(2, .class_ 4), (0, .nameAndType 5 6), (0, u "java/lang/Object"), (0, u "<init>"), (0, u "()V"), (0, .class_ 8), (0, u "com/example/interleave/interleave/check/Expansion"), (0, .methodref 7 10), (0, .nameAndType 5 11), (0, u "(II[B)V"), (0, .class_ 13), (0, u "java/util/ArrayList"), (0, .methodref 12 3), (0, .methodref 7 16), (0, .nameAndType 17 18), (0, u "tookIn"), (0, u "(Ljava/util/List;JJI)V"), (0, .methodref 7 20), (0, .nameAndType 21 22), (0, u "fresh"), (0, u "()Ljava/util/List;"), (0, .methodref 7 24), (0, .nameAndType 25 26), (0, u "generated"), (0, u "()J"), (0, .methodref 7 28), (0, .nameAndType 29 26), (0, u "distinct"), (0, .methodref 7 31), (0, .nameAndType 32 33), (0, u "depth"), (0, u "()I"), (0, .methodref 7 35), (0, .nameAndType 36 33), (0, u "sourceId"), (0, .methodref 7 38), (0, .nameAndType 39 33), (0, u "sourceParent"), (0, .methodref 7 41), (0, .nameAndType 42 43), (0, u "sourceBytes"), (0, u "()[B"), (0, .class_ 45), (0, u "com/example/interleave/interleave/check/ExpansionTookInPinLaw"), (2, u "law"), (0, u "(JJIIII)Z")] 7

def k1m0 : Method := { name := "<init>", desc := "()V", sig := { parameters := [], returnType := none }, accessFlags := 1, code := none }
def k1c1 : Code := { maxStack := 7, maxLocals := 19, code := code, exceptionTable := #[], attributes := #[] }
def k1m1 : Method := { name := "law", desc := "(JJIIII)Z", sig := { parameters := [.long, .long, .int, .int, .int, .int], returnType := some .boolean }, accessFlags := 9, code := some k1c1 }
/-- com/example/interleave/interleave/check/ExpansionTookInPinLaw -/
def k1 : Class := { plain "com/example/interleave/interleave/check/ExpansionTookInPinLaw" (some 0) with
  accessFlags := 49
  interfaces := #[]
  cf := some (fileOf pool1 44 #[] #[{ accessFlags := 1, nameIndex := 5, descriptorIndex := 6, attributes := #[] }, { accessFlags := 9, nameIndex := 48, descriptorIndex := 49, attributes := #[] }] 49 2 #[] #[])
  fields := #[]
  methods := #[k1m0, k1m1]
  instanceTypes := #[]
  staticTypes := #[]
  resolved := Array.replicate 57 none
  statics := none }

def pool2 : Array CpInfo := pool [(1, .methodref 2 3), (0, .class_ 4), (0, .nameAndType 5 6), (0, u "java/lang/Object"), (0, u "<init>"), (0, u "()V"), (0, .class_ 8), (0, u "java/util/ArrayList"), (0, .methodref 7 3), (0, .fieldref 11 12), (0, .class_ 13), (0, .nameAndType 14 15), (0, u "com/example/interleave/interleave/check/Expansion"), (0, u "found"), (0, u "Ljava/util/List;"), (0, .fieldref 11 17), (0, .nameAndType 18 15), (0, u "printed"), (0, .fieldref 11 20), (0, .nameAndType 21 22), (0, u "sourceId"), (0, u "I"), (0, .fieldref 11 24), (0, .nameAndType 25 22), (0, u "sourceParent"), (0, .fieldref 11 27), (0, .nameAndType 28 29), (0, u "sourceBytes"), (0, u "[B"), (2, u "(II[B)V"), (2, u "source"), (0, u "Lcom/example/interleave/interleave/check/Found;"), (2, u "stateBits"), (0, u "[J"), (8, u "stutterBits"), (2, u "violatingStep"), (2, u "violatedByStep"), (0, u "Lcom/example/interleave/interleave/check/Model$Check;"), (2, u "failure"), (0, u "Lcom/example/interleave/interleave/check/Failure;"), (2, u "stoppedAt"), (0, .fieldref 11 65), (0, .nameAndType 66 15), (0, u "fresh"), (0, .fieldref 11 68), (0, .nameAndType 69 70), (0, u "generated"), (0, u "J"), (0, .fieldref 11 72), (0, .nameAndType 73 70), (0, u "distinct"), (0, .fieldref 11 75), (0, .nameAndType 76 22), (0, u "depth"), (2, u "violated"), (2, u "violating"), (2, u "crash"), (0, u "Ljava/lang/Throwable;"), (2, u "expanded"), (0, u "Z"), (2, u "checked"), (10, u "()I"), (0, u "()[B"), (4, u "()Ljava/util/List;"), (6, u "tookIn"), (0, u "(Ljava/util/List;JJI)V"), (1, u "()J")] 15

def k2c0 : Code := { maxStack := 3, maxLocals := 4, code := prog_13_method_1_code, exceptionTable := #[], attributes := #[] }
def k2m0 : Method := { name := "<init>", desc := "(II[B)V", sig := { parameters := [.int, .int, (.array .byte)], returnType := none }, accessFlags := 0, code := some k2c0 }
def k2c1 : Code := { maxStack := 1, maxLocals := 1, code := prog_13_method_4_code, exceptionTable := #[], attributes := #[] }
def k2m1 : Method := { name := "sourceId", desc := "()I", sig := { parameters := [], returnType := some .int }, accessFlags := 0, code := some k2c1 }
def k2c2 : Code := { maxStack := 1, maxLocals := 1, code := prog_13_method_5_code, exceptionTable := #[], attributes := #[] }
def k2m2 : Method := { name := "sourceParent", desc := "()I", sig := { parameters := [], returnType := some .int }, accessFlags := 0, code := some k2c2 }
def k2c3 : Code := { maxStack := 1, maxLocals := 1, code := prog_13_method_6_code, exceptionTable := #[], attributes := #[] }
def k2m3 : Method := { name := "sourceBytes", desc := "()[B", sig := { parameters := [], returnType := some (.array .byte) }, accessFlags := 0, code := some k2c3 }
def k2c4 : Code := { maxStack := 3, maxLocals := 7, code := prog_13_method_21_code, exceptionTable := #[], attributes := #[] }
def k2m4 : Method := { name := "tookIn", desc := "(Ljava/util/List;JJI)V", sig := { parameters := [(.object "java/util/List"), .long, .long, .int], returnType := none }, accessFlags := 0, code := some k2c4 }
def k2c5 : Code := { maxStack := 1, maxLocals := 1, code := prog_13_method_22_code, exceptionTable := #[], attributes := #[] }
def k2m5 : Method := { name := "fresh", desc := "()Ljava/util/List;", sig := { parameters := [], returnType := some (.object "java/util/List") }, accessFlags := 0, code := some k2c5 }
def k2c6 : Code := { maxStack := 2, maxLocals := 1, code := prog_13_method_23_code, exceptionTable := #[], attributes := #[] }
def k2m6 : Method := { name := "generated", desc := "()J", sig := { parameters := [], returnType := some .long }, accessFlags := 0, code := some k2c6 }
def k2c7 : Code := { maxStack := 2, maxLocals := 1, code := prog_13_method_24_code, exceptionTable := #[], attributes := #[] }
def k2m7 : Method := { name := "distinct", desc := "()J", sig := { parameters := [], returnType := some .long }, accessFlags := 0, code := some k2c7 }
def k2c8 : Code := { maxStack := 1, maxLocals := 1, code := prog_13_method_25_code, exceptionTable := #[], attributes := #[] }
def k2m8 : Method := { name := "depth", desc := "()I", sig := { parameters := [], returnType := some .int }, accessFlags := 0, code := some k2c8 }
/-- com/example/interleave/interleave/check/Expansion -/
def k2 : Class := { plain "com/example/interleave/interleave/check/Expansion" (some 0) with
  accessFlags := 48
  interfaces := #[]
  cf := some (fileOf pool2 11 #[] #[{ accessFlags := 0, nameIndex := 5, descriptorIndex := 32, attributes := #[] }, { accessFlags := 0, nameIndex := 21, descriptorIndex := 104, attributes := #[] }, { accessFlags := 0, nameIndex := 25, descriptorIndex := 104, attributes := #[] }, { accessFlags := 0, nameIndex := 28, descriptorIndex := 105, attributes := #[] }, { accessFlags := 0, nameIndex := 117, descriptorIndex := 118, attributes := #[] }, { accessFlags := 0, nameIndex := 66, descriptorIndex := 110, attributes := #[] }, { accessFlags := 0, nameIndex := 69, descriptorIndex := 120, attributes := #[] }, { accessFlags := 0, nameIndex := 73, descriptorIndex := 120, attributes := #[] }, { accessFlags := 0, nameIndex := 76, descriptorIndex := 104, attributes := #[] }] 48 2 #[] #[{ accessFlags := 18, nameIndex := 21, descriptorIndex := 22, attributes := #[] }, { accessFlags := 18, nameIndex := 25, descriptorIndex := 22, attributes := #[] }, { accessFlags := 18, nameIndex := 28, descriptorIndex := 29, attributes := #[] }, { accessFlags := 2, nameIndex := 35, descriptorIndex := 36, attributes := #[] }, { accessFlags := 2, nameIndex := 39, descriptorIndex := 40, attributes := #[] }, { accessFlags := 18, nameIndex := 14, descriptorIndex := 15, attributes := #[] }, { accessFlags := 2, nameIndex := 49, descriptorIndex := 40, attributes := #[] }, { accessFlags := 2, nameIndex := 52, descriptorIndex := 36, attributes := #[] }, { accessFlags := 2, nameIndex := 55, descriptorIndex := 56, attributes := #[] }, { accessFlags := 2, nameIndex := 59, descriptorIndex := 60, attributes := #[] }, { accessFlags := 2, nameIndex := 63, descriptorIndex := 36, attributes := #[] }, { accessFlags := 2, nameIndex := 66, descriptorIndex := 15, attributes := #[] }, { accessFlags := 2, nameIndex := 69, descriptorIndex := 70, attributes := #[] }, { accessFlags := 2, nameIndex := 73, descriptorIndex := 70, attributes := #[] }, { accessFlags := 2, nameIndex := 76, descriptorIndex := 22, attributes := #[] }, { accessFlags := 2, nameIndex := 82, descriptorIndex := 36, attributes := #[] }, { accessFlags := 2, nameIndex := 79, descriptorIndex := 56, attributes := #[] }, { accessFlags := 18, nameIndex := 18, descriptorIndex := 15, attributes := #[] }, { accessFlags := 2, nameIndex := 85, descriptorIndex := 86, attributes := #[] }, { accessFlags := 2, nameIndex := 89, descriptorIndex := 90, attributes := #[] }, { accessFlags := 2, nameIndex := 93, descriptorIndex := 90, attributes := #[] }])
  fields := #[{ name := "sourceId", type := .int, accessFlags := 18, slot := 0, constantValue := 0 }, { name := "sourceParent", type := .int, accessFlags := 18, slot := 1, constantValue := 0 }, { name := "sourceBytes", type := (.array .byte), accessFlags := 18, slot := 2, constantValue := 0 }, { name := "source", type := (.object "com/example/interleave/interleave/check/Found"), accessFlags := 2, slot := 3, constantValue := 0 }, { name := "stateBits", type := (.array .long), accessFlags := 2, slot := 4, constantValue := 0 }, { name := "found", type := (.object "java/util/List"), accessFlags := 18, slot := 5, constantValue := 0 }, { name := "stutterBits", type := (.array .long), accessFlags := 2, slot := 6, constantValue := 0 }, { name := "violatingStep", type := (.object "com/example/interleave/interleave/check/Found"), accessFlags := 2, slot := 7, constantValue := 0 }, { name := "violatedByStep", type := (.object "com/example/interleave/interleave/check/Model$Check"), accessFlags := 2, slot := 8, constantValue := 0 }, { name := "failure", type := (.object "com/example/interleave/interleave/check/Failure"), accessFlags := 2, slot := 9, constantValue := 0 }, { name := "stoppedAt", type := (.object "com/example/interleave/interleave/check/Found"), accessFlags := 2, slot := 10, constantValue := 0 }, { name := "fresh", type := (.object "java/util/List"), accessFlags := 2, slot := 11, constantValue := 0 }, { name := "generated", type := .long, accessFlags := 2, slot := 12, constantValue := 0 }, { name := "distinct", type := .long, accessFlags := 2, slot := 13, constantValue := 0 }, { name := "depth", type := .int, accessFlags := 2, slot := 14, constantValue := 0 }, { name := "violating", type := (.object "com/example/interleave/interleave/check/Found"), accessFlags := 2, slot := 15, constantValue := 0 }, { name := "violated", type := (.object "com/example/interleave/interleave/check/Model$Check"), accessFlags := 2, slot := 16, constantValue := 0 }, { name := "printed", type := (.object "java/util/List"), accessFlags := 18, slot := 17, constantValue := 0 }, { name := "crash", type := (.object "java/lang/Throwable"), accessFlags := 2, slot := 18, constantValue := 0 }, { name := "expanded", type := .boolean, accessFlags := 2, slot := 19, constantValue := 0 }, { name := "checked", type := .boolean, accessFlags := 2, slot := 20, constantValue := 0 }]
  methods := #[k2m0, k2m1, k2m2, k2m3, k2m4, k2m5, k2m6, k2m7, k2m8]
  instanceTypes := #[.int, .int, (.array .byte), (.object "com/example/interleave/interleave/check/Found"), (.array .long), (.object "java/util/List"), (.array .long), (.object "com/example/interleave/interleave/check/Found"), (.object "com/example/interleave/interleave/check/Model$Check"), (.object "com/example/interleave/interleave/check/Failure"), (.object "com/example/interleave/interleave/check/Found"), (.object "java/util/List"), .long, .long, .int, (.object "com/example/interleave/interleave/check/Found"), (.object "com/example/interleave/interleave/check/Model$Check"), (.object "java/util/List"), (.object "java/lang/Throwable"), .boolean, .boolean]
  staticTypes := #[]
  resolved := Array.replicate 136 none
  statics := none }

def pool3 : Array CpInfo := pool [(8, .class_ 10), (1, u "java/lang/Iterable"), (24, .class_ 36), (0, u "java/lang/Object")] 25

/-- java/lang/Iterable -/
def k3 : Class := { plain "java/lang/Iterable" (some 0) with
  accessFlags := 1537
  interfaces := #[]
  cf := some (fileOf pool3 8 #[] #[] 1537 35 #[] #[])
  fields := #[]
  methods := #[]
  instanceTypes := #[]
  staticTypes := #[]
  resolved := Array.replicate 62 none
  statics := none }

def pool4 : Array CpInfo := pool [(10, .class_ 12), (1, u "java/util/Collection"), (47, .class_ 61), (0, u "java/lang/Object"), (0, .class_ 63), (0, u "java/lang/Iterable")] 51

/-- java/util/Collection -/
def k4 : Class := { plain "java/util/Collection" (some 0) with
  accessFlags := 1537
  interfaces := #[3]
  cf := some (fileOf pool4 10 #[] #[] 1537 60 #[62] #[])
  fields := #[]
  methods := #[]
  instanceTypes := #[]
  staticTypes := #[]
  resolved := Array.replicate 115 none
  statics := none }

def pool5 : Array CpInfo := pool [(1, .methodref 2 3), (0, .class_ 4), (0, .nameAndType 5 6), (0, u "java/lang/Object"), (0, u "<init>"), (0, u "()V"), (1, .class_ 10), (1, u "java/util/AbstractCollection"), (66, .class_ 78), (0, u "java/util/Collection")] 81

def k5c0 : Code := { maxStack := 1, maxLocals := 1, code := jdk_22_method_1_code, exceptionTable := #[], attributes := #[] }
def k5m0 : Method := { name := "<init>", desc := "()V", sig := { parameters := [], returnType := none }, accessFlags := 4, code := some k5c0 }
/-- java/util/AbstractCollection -/
def k5 : Class := { plain "java/util/AbstractCollection" (some 0) with
  accessFlags := 1057
  interfaces := #[4]
  cf := some (fileOf pool5 8 #[] #[{ accessFlags := 4, nameIndex := 5, descriptorIndex := 6, attributes := #[] }] 1057 2 #[77] #[])
  fields := #[]
  methods := #[k5m0]
  instanceTypes := #[]
  staticTypes := #[]
  resolved := Array.replicate 160 none
  statics := none }

def pool6 : Array CpInfo := pool [(8, .class_ 10), (1, u "java/util/SequencedCollection"), (15, .class_ 27), (0, u "java/lang/Object"), (0, .class_ 29), (0, u "java/util/Collection")] 27

/-- java/util/SequencedCollection -/
def k6 : Class := { plain "java/util/SequencedCollection" (some 0) with
  accessFlags := 1537
  interfaces := #[4]
  cf := some (fileOf pool6 8 #[] #[] 1537 26 #[28] #[])
  fields := #[]
  methods := #[]
  instanceTypes := #[]
  staticTypes := #[]
  resolved := Array.replicate 57 none
  statics := none }

def pool7 : Array CpInfo := pool [(8, .class_ 10), (1, u "java/util/List"), (92, .class_ 104), (0, u "java/lang/Object"), (15, .class_ 121), (0, u "java/util/SequencedCollection")] 129

/-- java/util/List -/
def k7 : Class := { plain "java/util/List" (some 0) with
  accessFlags := 1537
  interfaces := #[6]
  cf := some (fileOf pool7 8 #[] #[] 1537 103 #[120] #[])
  fields := #[]
  methods := #[]
  instanceTypes := #[]
  staticTypes := #[]
  resolved := Array.replicate 251 none
  statics := none }

def pool8 : Array CpInfo := pool [(1, .methodref 2 3), (0, .class_ 4), (0, .nameAndType 5 6), (0, u "java/util/AbstractCollection"), (0, u "<init>"), (0, u "()V"), (0, .fieldref 8 9), (0, .class_ 10), (0, .nameAndType 11 12), (0, u "java/util/AbstractList"), (0, u "modCount"), (0, u "I"), (64, .class_ 78), (0, u "java/util/AbstractList$Itr"), (3, .class_ 83), (0, u "java/util/AbstractList$ListItr"), (9, .class_ 94), (0, u "java/util/AbstractList$RandomAccessSubList"), (3, .class_ 99), (0, u "java/util/AbstractList$SubList"), (33, .class_ 134), (0, u "java/util/List"), (73, .class_ 209), (0, u "java/util/AbstractList$SubList$1"), (0, .class_ 211), (0, u "java/util/AbstractList$RandomAccessSpliterator")] 6

def k8c0 : Code := { maxStack := 2, maxLocals := 1, code := jdk_39_method_1_code, exceptionTable := #[], attributes := #[] }
def k8m0 : Method := { name := "<init>", desc := "()V", sig := { parameters := [], returnType := none }, accessFlags := 4, code := some k8c0 }
/-- java/util/AbstractList -/
def k8 : Class := { plain "java/util/AbstractList" (some 5) with
  accessFlags := 1057
  interfaces := #[7]
  cf := some (fileOf pool8 8 #[.nestMembers #[93, 98, 208, 210, 82, 77]] #[{ accessFlags := 4, nameIndex := 5, descriptorIndex := 6, attributes := #[] }] 1057 2 #[133] #[{ accessFlags := 132, nameIndex := 11, descriptorIndex := 12, attributes := #[] }])
  fields := #[{ name := "modCount", type := .int, accessFlags := 132, slot := 0, constantValue := 0 }]
  methods := #[k8m0]
  instanceTypes := #[.int]
  staticTypes := #[]
  resolved := Array.replicate 218 none
  statics := none }

def pool9 : Array CpInfo := pool [(1, .class_ 2), (0, u "java/util/RandomAccess"), (0, .class_ 4), (0, u "java/lang/Object")] 2

/-- java/util/RandomAccess -/
def k9 : Class := { plain "java/util/RandomAccess" (some 0) with
  accessFlags := 1537
  interfaces := #[]
  cf := some (fileOf pool9 1 #[] #[] 1537 3 #[] #[])
  fields := #[]
  methods := #[]
  instanceTypes := #[]
  staticTypes := #[]
  resolved := Array.replicate 7 none
  statics := none }

def pool10 : Array CpInfo := pool [(1, .class_ 2), (0, u "java/lang/Cloneable"), (0, .class_ 4), (0, u "java/lang/Object")] 2

/-- java/lang/Cloneable -/
def k10 : Class := { plain "java/lang/Cloneable" (some 0) with
  accessFlags := 1537
  interfaces := #[]
  cf := some (fileOf pool10 1 #[] #[] 1537 3 #[] #[])
  fields := #[]
  methods := #[]
  instanceTypes := #[]
  staticTypes := #[]
  resolved := Array.replicate 7 none
  statics := none }

def pool11 : Array CpInfo := pool [(1, .class_ 2), (0, u "java/io/Serializable"), (0, .class_ 4), (0, u "java/lang/Object")] 2

/-- java/io/Serializable -/
def k11 : Class := { plain "java/io/Serializable" (some 0) with
  accessFlags := 1537
  interfaces := #[]
  cf := some (fileOf pool11 1 #[] #[] 1537 3 #[] #[])
  fields := #[]
  methods := #[]
  instanceTypes := #[]
  staticTypes := #[]
  resolved := Array.replicate 7 none
  statics := none }

def pool12 : Array CpInfo := pool [(1, .methodref 2 3), (0, .class_ 4), (0, .nameAndType 5 6), (0, u "java/util/AbstractList"), (0, u "<init>"), (0, u "()V"), (2, .fieldref 10 11), (0, .class_ 12), (0, .nameAndType 13 14), (0, u "java/util/ArrayList"), (0, u "elementData"), (0, u "[Ljava/lang/Object;"), (2, u "EMPTY_ELEMENTDATA"), (21, .fieldref 10 40), (0, .nameAndType 41 14), (0, u "DEFAULTCAPACITY_EMPTY_ELEMENTDATA"), (8, u "size"), (0, u "I"), (96, .class_ 149), (0, u "java/util/List"), (112, .class_ 263), (0, u "java/util/ArrayList$ListItr"), (3, .class_ 268), (0, u "java/util/ArrayList$Itr"), (7, .class_ 277), (0, u "java/util/ArrayList$SubList"), (12, .class_ 291), (0, u "java/util/ArrayList$ArrayListSpliterator"), (37, .class_ 330), (0, u "java/util/RandomAccess"), (0, .class_ 332), (0, u "java/lang/Cloneable"), (0, .class_ 334), (0, u "java/io/Serializable"), (0, u "serialVersionUID"), (0, u "J"), (3, u "DEFAULT_CAPACITY"), (159, .class_ 501), (0, u "java/util/ArrayList$SubList$2"), (0, .class_ 503), (0, u "java/util/ArrayList$SubList$1")] 5

def k12c0 : Code := { maxStack := 2, maxLocals := 1, code := jdk_38_method_2_code, exceptionTable := #[], attributes := #[] }
def k12m0 : Method := { name := "<init>", desc := "()V", sig := { parameters := [], returnType := none }, accessFlags := 1, code := some k12c0 }
/-- java/util/ArrayList -/
def k12 : Class := { plain "java/util/ArrayList" (some 8) with
  accessFlags := 33
  interfaces := #[7, 9, 10, 11]
  cf := some (fileOf pool12 10 #[.nestMembers #[290, 276, 500, 502, 262, 267]] #[{ accessFlags := 1, nameIndex := 5, descriptorIndex := 6, attributes := #[] }] 33 2 #[148, 329, 331, 333] #[{ accessFlags := 26, nameIndex := 335, descriptorIndex := 336, attributes := #[] }, { accessFlags := 26, nameIndex := 340, descriptorIndex := 51, attributes := #[] }, { accessFlags := 26, nameIndex := 17, descriptorIndex := 14, attributes := #[] }, { accessFlags := 26, nameIndex := 41, descriptorIndex := 14, attributes := #[] }, { accessFlags := 128, nameIndex := 13, descriptorIndex := 14, attributes := #[] }, { accessFlags := 2, nameIndex := 50, descriptorIndex := 51, attributes := #[] }])
  fields := #[{ name := "serialVersionUID", type := .long, accessFlags := 26, slot := 0, constantValue := 0 }, { name := "DEFAULT_CAPACITY", type := .int, accessFlags := 26, slot := 1, constantValue := 0 }, { name := "EMPTY_ELEMENTDATA", type := (.array (.object "java/lang/Object")), accessFlags := 26, slot := 2, constantValue := 0 }, { name := "DEFAULTCAPACITY_EMPTY_ELEMENTDATA", type := (.array (.object "java/lang/Object")), accessFlags := 26, slot := 3, constantValue := 0 }, { name := "elementData", type := (.array (.object "java/lang/Object")), accessFlags := 128, slot := 1, constantValue := 0 }, { name := "size", type := .int, accessFlags := 2, slot := 2, constantValue := 0 }]
  methods := #[k12m0]
  instanceTypes := #[.int, (.array (.object "java/lang/Object")), .int]
  staticTypes := #[.long, .int, (.array (.object "java/lang/Object")), (.array (.object "java/lang/Object"))]
  resolved := Array.replicate 509 none
  statics := some 0 }

/-- the primitive byte -/
def k13 : Class := { plain "byte" none with kind := .primitive 'B', accessFlags := 0x411 }
/-- [B -/
def k14 : Class := { plain "[B" (some 0) with kind := .array 13 .byte, interfaces := #[10, 11], accessFlags := 1041 }

/-- the primitive int -/
def k15 : Class := { plain "int" none with kind := .primitive 'I', accessFlags := 0x411 }
/-- [I -/
def k16 : Class := { plain "[I" (some 0) with kind := .array 15 .int, interfaces := #[10, 11], accessFlags := 1041 }

/-- [Ljava/lang/Object; -/
def k17 : Class := { plain "[Ljava/lang/Object;" (some 0) with kind := .array 0 (.object "java/lang/Object"), interfaces := #[10, 11], accessFlags := 1041 }

def heap : Heap := #[{ cls := 12, slots := #[.long 0, .int 0, .ref 1, .ref 2], vm := .statics 12 },
  { cls := 17, slots := #[], vm := .none },
  { cls := 17, slots := #[], vm := .none }]
def classes : Array Class := #[k0, k1, k2, k3, k4, k5, k6, k7, k8, k9, k10, k11, k12, k13, k14, k15, k16, k17]
def interned : List (Array UInt16 × Addr) := []
def slotsUsed : Nat := 4
def theMethod : MethodId := ⟨1, 1⟩
def args0 : Array Value := #[.long 5, .long 6, .int 2, .int 1, .int 2, .int 3]
def aboutOver (below : List Frame) : State where
  vm := { classes := classes, interned := interned.toArray }
  heap := heap
  slotsUsed := slotsUsed
  threads := #[{ frames := .invoking theMethod args0 :: below }]
def below0 : List Frame := [.native { method := ⟨0, 0⟩, args := #[] }]
def about1 : State := aboutOver below0
def p0 : Program := .bare "" "" ""
def e0 : Env := launch0.env 0 0 0
theorem w_frames : about1.frames = Frame.invoking theMethod args0 :: below0 := rfl
set_option maxRecDepth 65536 in
theorem w_args : argsFit about1.vm theMethod args0 = true := by decide +kernel
set_option maxRecDepth 65536 in
theorem w_heap : heapFits about1 = true := by decide +kernel
set_option maxRecDepth 65536 in
theorem w_runnable : about1.curStatus? = some .runnable := by decide +kernel
set_option maxRecDepth 65536 in
theorem w_alone : about1.alone = true := by decide +kernel
set_option maxRecDepth 65536 in
theorem w_named : about1.methodNamed? x = some theMethod := by decide +kernel
set_option maxRecDepth 65536 in
theorem w_hears : about1.hears theMethod below0 = true := by decide +kernel
set_option maxRecDepth 65536 in
theorem w_ripe : about1.ripe theMethod args0 below0 = true := by decide +kernel
theorem w_running : about1.status = .running := rfl
set_option maxRecDepth 65536 in
theorem w_room : about1.hasRoom e0.platform room_1 = true :=
  launch0.hasRoom_least _ room_1 (by decide +kernel) (by decide +kernel) (by decide +kernel) (by decide +kernel) (by decide +kernel) (by decide +kernel)
theorem allAtoms_all (ts : List Jvm.Cond) (a : Array Jvm.Value) (st : Jvm.State) : (allAtoms ts).before a st = ts.all (fun c => c.before a st) := by
  induction ts with
  | nil => rfl
  | cons c t ih =>
    show (Jvm.Cond.and c (allAtoms t)).before a st = _
    rw [Jvm.Cond.before_and, ih, List.all_cons]
def words1 : List Jvm.Cond := Jvm.Cond.code x code maxLocals ret :: tables_1
/-- a 'code' word, met by the world's own term for the bytes: nothing is compared byte by byte -/
theorem code_word {y : MethodName} {bytes : ByteArray} {mx : Nat} {rt : Option FieldType} {a : Array Value} {s : State} {m : MethodId} {meth : Method} {c : Code} (h1 : s.methodNamed? y = some m) (h2 : s.vm.method? m = some meth) (h3 : meth.code = some c) (h4 : c.code = bytes)
    (h5 : (c.maxLocals == mx && c.exceptionTable.isEmpty && decide (c.maxStack ≤ mostOperands) && decide (meth.sig.returnType = rt) && !meth.locks && decide (parseMethodDescriptor y.desc = some meth.sig)) = true) : (Jvm.Cond.code y bytes mx rt).before a s = true := by
  simp only [Bool.and_eq_true, beq_iff_eq, Bool.not_eq_true', decide_eq_true_eq] at h5
  obtain ⟨⟨⟨⟨⟨g1, g2⟩, g3⟩, g4⟩, g5⟩, g6⟩ := h5
  simp [Cond.before, Cond.holds, Cond.value, h1, h2, h3, h4, g1, g2, g3, g4, g5, g6]
def isCode : Jvm.Cond → Bool
  | .code _ _ _ _ => true
  | _ => false
theorem all_split {L : List Jvm.Cond} {P : Jvm.Cond → Bool} (h1 : L.all (fun c => isCode c || P c) = true) (h2 : ∀ c ∈ L.filter isCode, P c = true) : L.all P = true := by
  refine List.all_eq_true.mpr fun c hc => ?_
  have h := List.all_eq_true.mp h1 c hc
  rcases Bool.eq_false_or_eq_true (isCode c) with hi | hi
  · exact h2 c (List.mem_filter.mpr ⟨hc, hi⟩)
  · simpa [hi] using h
set_option maxRecDepth 65536 in
theorem w_c0 : (Jvm.Cond.code x code maxLocals ret).before args0 about1 = true := code_word (m := ⟨1, 1⟩) (meth := k1m1) (c := k1c1) (by decide +kernel) rfl rfl rfl (by decide +kernel)
set_option maxRecDepth 65536 in
theorem w_c1 : (Jvm.Cond.code ({ cls := "com/example/interleave/interleave/check/Expansion", name := "<init>", desc := "(II[B)V" } : Jvm.MethodName) prog_13_method_1_code (4 : Nat) (Option.none : Option Jvm.ClassFile.FieldType)).before args0 about1 = true := code_word (m := ⟨2, 0⟩) (meth := k2m0) (c := k2c0) (by decide +kernel) rfl rfl rfl (by decide +kernel)
set_option maxRecDepth 65536 in
theorem w_c2 : (Jvm.Cond.code ({ cls := "java/lang/Object", name := "<init>", desc := "()V" } : Jvm.MethodName) object_method_1_code (1 : Nat) (Option.none : Option Jvm.ClassFile.FieldType)).before args0 about1 = true := code_word (m := ⟨0, 0⟩) (meth := k0m0) (c := k0c0) (by decide +kernel) rfl rfl rfl (by decide +kernel)
set_option maxRecDepth 65536 in
theorem w_c3 : (Jvm.Cond.code ({ cls := "java/util/ArrayList", name := "<init>", desc := "()V" } : Jvm.MethodName) jdk_38_method_2_code (1 : Nat) (Option.none : Option Jvm.ClassFile.FieldType)).before args0 about1 = true := code_word (m := ⟨12, 0⟩) (meth := k12m0) (c := k12c0) (by decide +kernel) rfl rfl rfl (by decide +kernel)
set_option maxRecDepth 65536 in
theorem w_c4 : (Jvm.Cond.code ({ cls := "java/util/AbstractList", name := "<init>", desc := "()V" } : Jvm.MethodName) jdk_39_method_1_code (1 : Nat) (Option.none : Option Jvm.ClassFile.FieldType)).before args0 about1 = true := code_word (m := ⟨8, 0⟩) (meth := k8m0) (c := k8c0) (by decide +kernel) rfl rfl rfl (by decide +kernel)
set_option maxRecDepth 65536 in
theorem w_c5 : (Jvm.Cond.code ({ cls := "java/util/AbstractCollection", name := "<init>", desc := "()V" } : Jvm.MethodName) jdk_22_method_1_code (1 : Nat) (Option.none : Option Jvm.ClassFile.FieldType)).before args0 about1 = true := code_word (m := ⟨5, 0⟩) (meth := k5m0) (c := k5c0) (by decide +kernel) rfl rfl rfl (by decide +kernel)
set_option maxRecDepth 65536 in
theorem w_c6 : (Jvm.Cond.code ({ cls := "com/example/interleave/interleave/check/Expansion", name := "tookIn", desc := "(Ljava/util/List;JJI)V" } : Jvm.MethodName) prog_13_method_21_code (7 : Nat) (Option.none : Option Jvm.ClassFile.FieldType)).before args0 about1 = true := code_word (m := ⟨2, 4⟩) (meth := k2m4) (c := k2c4) (by decide +kernel) rfl rfl rfl (by decide +kernel)
set_option maxRecDepth 65536 in
theorem w_c7 : (Jvm.Cond.code ({ cls := "com/example/interleave/interleave/check/Expansion", name := "fresh", desc := "()Ljava/util/List;" } : Jvm.MethodName) prog_13_method_22_code (1 : Nat) (Option.some (Jvm.ClassFile.FieldType.object "java/util/List"))).before args0 about1 = true := code_word (m := ⟨2, 5⟩) (meth := k2m5) (c := k2c5) (by decide +kernel) rfl rfl rfl (by decide +kernel)
set_option maxRecDepth 65536 in
theorem w_c8 : (Jvm.Cond.code ({ cls := "com/example/interleave/interleave/check/Expansion", name := "generated", desc := "()J" } : Jvm.MethodName) prog_13_method_23_code (1 : Nat) (Option.some Jvm.ClassFile.FieldType.long)).before args0 about1 = true := code_word (m := ⟨2, 6⟩) (meth := k2m6) (c := k2c6) (by decide +kernel) rfl rfl rfl (by decide +kernel)
set_option maxRecDepth 65536 in
theorem w_c9 : (Jvm.Cond.code ({ cls := "com/example/interleave/interleave/check/Expansion", name := "distinct", desc := "()J" } : Jvm.MethodName) prog_13_method_24_code (1 : Nat) (Option.some Jvm.ClassFile.FieldType.long)).before args0 about1 = true := code_word (m := ⟨2, 7⟩) (meth := k2m7) (c := k2c7) (by decide +kernel) rfl rfl rfl (by decide +kernel)
set_option maxRecDepth 65536 in
theorem w_c10 : (Jvm.Cond.code ({ cls := "com/example/interleave/interleave/check/Expansion", name := "depth", desc := "()I" } : Jvm.MethodName) prog_13_method_25_code (1 : Nat) (Option.some Jvm.ClassFile.FieldType.int)).before args0 about1 = true := code_word (m := ⟨2, 8⟩) (meth := k2m8) (c := k2c8) (by decide +kernel) rfl rfl rfl (by decide +kernel)
set_option maxRecDepth 65536 in
theorem w_c11 : (Jvm.Cond.code ({ cls := "com/example/interleave/interleave/check/Expansion", name := "sourceId", desc := "()I" } : Jvm.MethodName) prog_13_method_4_code (1 : Nat) (Option.some Jvm.ClassFile.FieldType.int)).before args0 about1 = true := code_word (m := ⟨2, 1⟩) (meth := k2m1) (c := k2c1) (by decide +kernel) rfl rfl rfl (by decide +kernel)
set_option maxRecDepth 65536 in
theorem w_c12 : (Jvm.Cond.code ({ cls := "com/example/interleave/interleave/check/Expansion", name := "sourceParent", desc := "()I" } : Jvm.MethodName) prog_13_method_5_code (1 : Nat) (Option.some Jvm.ClassFile.FieldType.int)).before args0 about1 = true := code_word (m := ⟨2, 2⟩) (meth := k2m2) (c := k2c2) (by decide +kernel) rfl rfl rfl (by decide +kernel)
set_option maxRecDepth 65536 in
theorem w_c13 : (Jvm.Cond.code ({ cls := "com/example/interleave/interleave/check/Expansion", name := "sourceBytes", desc := "()[B" } : Jvm.MethodName) prog_13_method_6_code (1 : Nat) (Option.some (Jvm.ClassFile.FieldType.array Jvm.ClassFile.FieldType.byte))).before args0 about1 = true := code_word (m := ⟨2, 3⟩) (meth := k2m3) (c := k2c3) (by decide +kernel) rfl rfl rfl (by decide +kernel)
def codes1 : List Jvm.Cond := [Jvm.Cond.code x code maxLocals ret, Jvm.Cond.code ({ cls := "com/example/interleave/interleave/check/Expansion", name := "<init>", desc := "(II[B)V" } : Jvm.MethodName) prog_13_method_1_code (4 : Nat) (Option.none : Option Jvm.ClassFile.FieldType), Jvm.Cond.code ({ cls := "java/lang/Object", name := "<init>", desc := "()V" } : Jvm.MethodName) object_method_1_code (1 : Nat) (Option.none : Option Jvm.ClassFile.FieldType), Jvm.Cond.code ({ cls := "java/util/ArrayList", name := "<init>", desc := "()V" } : Jvm.MethodName) jdk_38_method_2_code (1 : Nat) (Option.none : Option Jvm.ClassFile.FieldType), Jvm.Cond.code ({ cls := "java/util/AbstractList", name := "<init>", desc := "()V" } : Jvm.MethodName) jdk_39_method_1_code (1 : Nat) (Option.none : Option Jvm.ClassFile.FieldType), Jvm.Cond.code ({ cls := "java/util/AbstractCollection", name := "<init>", desc := "()V" } : Jvm.MethodName) jdk_22_method_1_code (1 : Nat) (Option.none : Option Jvm.ClassFile.FieldType), Jvm.Cond.code ({ cls := "com/example/interleave/interleave/check/Expansion", name := "tookIn", desc := "(Ljava/util/List;JJI)V" } : Jvm.MethodName) prog_13_method_21_code (7 : Nat) (Option.none : Option Jvm.ClassFile.FieldType), Jvm.Cond.code ({ cls := "com/example/interleave/interleave/check/Expansion", name := "fresh", desc := "()Ljava/util/List;" } : Jvm.MethodName) prog_13_method_22_code (1 : Nat) (Option.some (Jvm.ClassFile.FieldType.object "java/util/List")), Jvm.Cond.code ({ cls := "com/example/interleave/interleave/check/Expansion", name := "generated", desc := "()J" } : Jvm.MethodName) prog_13_method_23_code (1 : Nat) (Option.some Jvm.ClassFile.FieldType.long), Jvm.Cond.code ({ cls := "com/example/interleave/interleave/check/Expansion", name := "distinct", desc := "()J" } : Jvm.MethodName) prog_13_method_24_code (1 : Nat) (Option.some Jvm.ClassFile.FieldType.long), Jvm.Cond.code ({ cls := "com/example/interleave/interleave/check/Expansion", name := "depth", desc := "()I" } : Jvm.MethodName) prog_13_method_25_code (1 : Nat) (Option.some Jvm.ClassFile.FieldType.int), Jvm.Cond.code ({ cls := "com/example/interleave/interleave/check/Expansion", name := "sourceId", desc := "()I" } : Jvm.MethodName) prog_13_method_4_code (1 : Nat) (Option.some Jvm.ClassFile.FieldType.int), Jvm.Cond.code ({ cls := "com/example/interleave/interleave/check/Expansion", name := "sourceParent", desc := "()I" } : Jvm.MethodName) prog_13_method_5_code (1 : Nat) (Option.some Jvm.ClassFile.FieldType.int), Jvm.Cond.code ({ cls := "com/example/interleave/interleave/check/Expansion", name := "sourceBytes", desc := "()[B" } : Jvm.MethodName) prog_13_method_6_code (1 : Nat) (Option.some (Jvm.ClassFile.FieldType.array Jvm.ClassFile.FieldType.byte))]
set_option maxRecDepth 65536 in
theorem codes_eq : words1.filter isCode = codes1 := rfl
theorem w_codes : ∀ c ∈ words1.filter isCode, c.before args0 about1 = true := by
  rw [codes_eq]
  intro c hc
  simp only [codes1, List.mem_cons, List.not_mem_nil, or_false] at hc
  rcases hc with rfl | rfl | rfl | rfl | rfl | rfl | rfl | rfl | rfl | rfl | rfl | rfl | rfl | rfl
  · exact w_c0
  · exact w_c1
  · exact w_c2
  · exact w_c3
  · exact w_c4
  · exact w_c5
  · exact w_c6
  · exact w_c7
  · exact w_c8
  · exact w_c9
  · exact w_c10
  · exact w_c11
  · exact w_c12
  · exact w_c13
set_option maxRecDepth 65536 in
theorem w_t1 : (words1.take 24).all (fun c => isCode c || c.before args0 about1) = true := by decide +kernel
set_option maxRecDepth 65536 in
theorem w_t2 : ((words1.drop 24).take 24).all (fun c => isCode c || c.before args0 about1) = true := by decide +kernel
set_option maxRecDepth 65536 in
theorem w_t3 : (((words1.drop 24).drop 24).take 24).all (fun c => isCode c || c.before args0 about1) = true := by decide +kernel
set_option maxRecDepth 65536 in
theorem w_t4 : (((words1.drop 24).drop 24).drop 24).all (fun c => isCode c || c.before args0 about1) = true := by decide +kernel
theorem w_tables : (allAtoms (Jvm.Cond.code x code maxLocals ret :: tables_1)).before args0 about1 = true := by
  rw [allAtoms_all]
  show words1.all (fun c => c.before args0 about1) = true
  refine all_split ?_ w_codes
  rw [← List.take_append_drop 24 words1, List.all_append, w_t1, ← List.take_append_drop 24 (words1.drop 24), List.all_append, w_t2, ← List.take_append_drop 24 ((words1.drop 24).drop 24), List.all_append, w_t3, w_t4]
  rfl
set_option maxRecDepth 65536 in
theorem w_rest : rest_1_c.before args0 about1 = true := by decide +kernel
set_option maxRecDepth 65536 in
theorem w_case : (Jvm.Cond.and given_1 narrow_1).before args0 about1 = true := by decide +kernel
theorem w_applies : (headSpec (Jvm.Cond.code x code maxLocals ret :: tables_1) room_1).applies x e0.platform about1 = true :=
  (Spec.applies_iff w_frames).mpr ⟨w_running, w_runnable, w_alone, w_named, w_hears, w_ripe, w_room, w_tables⟩
theorem atStart : AtStart classFile x code maxLocals ret World_1 tables_1 room_1 Calls_1 rest_1 Pre_1 launch0 p0 e0 about1 theMethod args0 below0 :=
  ⟨lists_1, trivial, launch0.admits_env _ _ _, launch0.least_env, fairChoices_fair.cas, fairChoices_fair.clock, w_frames, w_args, w_heap, w_applies, trivial, w_rest, w_case⟩
end start1
theorem witness_1 : WitnessClaimed_1 := ⟨start1.p0, start1.e0, start1.about1, start1.theMethod, start1.args0, start1.below0, start1.atStart⟩
end Jvm.Pilot.@@N@@
