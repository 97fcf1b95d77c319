import JvmDerived
import JvmDerived.Pilot.@@N@@Statement
import JvmDerived.Pilot.@@N@@Code
set_option linter.unusedVariables false
set_option linter.unusedSimpArgs false
namespace Jvm.RoadKit
open Sem ClassFile Op Lib Jvm.Stand Jvm.Free Jvm.LawKit
section New
variable {p : Program} {l : Launch} {e : Env} {R : Room} {s : State} {m : MethodId} {args : Array Value} {below : List Frame} {meth : Method} {c : Code} {T : State} {locs : List Loc} {cells slots : Nat}
theorem retI (X : Stand p l e R s m args below meth c T locs cells slots) (hx : p.tables.exec = Jvm.exec) {pc : Nat} {Ls : Array Slot} {z : Int32} {rest : List Value} (hret : meth.sig.returnType = some .int) (hd : decode c.code pc = .ok (.ireturn, 1)) {fs : List Frame}
    (hl : ∀ (f : JFrame) (acts : List Action), f.method = m → f.locked = none → f.entered = [] → (doReturn e (T.setTop f) acts (some (.int z))).1 = T.setFrames fs) : Steps p.tables e below (T.setTop (mkF m pc Ls (.int z :: rest))) (T.setFrames fs) := by
  have hm' : T.vm.method? m = some meth := X.method'
  have hn : narrow .int (.int z) = .int z := rfl
  show Steps p.tables e below (T.setTop { method := m, pc := pc, locals := Ls, stack := _ :: rest, locked := none }) _
  jvm_step X.here [X.here.top, hx, hd, hm', hret, hn]
  first | (intro acts; rw [hl _ acts rfl rfl rfl]) | rw [hl _ _ rfl rfl rfl]
  exact Steps.refl _
end New
end Jvm.RoadKit
namespace Jvm.Pilot.@@N@@
open Jvm Jvm.ClassFile Sem Op Lib Jvm.Free Jvm.Stand Jvm.LawKit Jvm.RoadKit Bundle Jvm.Pilot.@@N@@.Jvm.D
theorem own_fldI {args : Array Value} {Z : State} {t : Term} {C n d : String} {k : Int32} {a : Addr} (ev : t.eval args Z none [] Z = some (.ref a)) (h : (Jvm.Cond.eq (Term.field t C n d) (Term.int k)).value args Z none Z [] = some true) : Fld Z Z.heap a C n d (.int k) := by
  obtain ⟨x, y, e1, e2, k1, k2⟩ := cmp_v (Or.inl h)
  cases (Option.some.inj e2 : Value.int k = y)
  obtain ⟨z, rfl⟩ := k2
  have q : z = k := by simpa [Jvm.Cond.value, e1, e2] using h
  subst q
  exact Fld.start (by rw [← fld_at ev]; exact e1)
theorem own_fldN {args : Array Value} {Z : State} {t : Term} {C n d : String} {a : Addr} (ev : t.eval args Z none [] Z = some (.ref a)) (h : (Jvm.Cond.eq (Term.field t C n d) Term.null).value args Z none Z [] = some true) : Fld Z Z.heap a C n d .null := Fld.start (by rw [← fld_at ev]; exact null_v h)
theorem own_fldR {args : Array Value} {Z : State} {t : Term} {C n d K : String} {a : Addr} (ev : t.eval args Z none [] Z = some (.ref a)) (h : (Jvm.Cond.exactly (Term.field t C n d) K).value args Z none Z [] = some true) : ∃ b, Fld Z Z.heap a C n d (.ref b) := by
  obtain ⟨b, e⟩ := exa_v h
  exact ⟨b, Fld.start (by rw [← fld_at ev]; exact e)⟩
theorem own_neR {args : Array Value} {Z : State} {t u : Term} {a b : Addr} (e1 : t.eval args Z none [] Z = some (.ref a)) (e2 : u.eval args Z none [] Z = some (.ref b)) (h : (Jvm.Cond.not (Jvm.Cond.eq t u)).value args Z none Z [] = some true) : a ≠ b := fun q => gotF (eq_R e1 e2 rfl rfl) (not_v h) (by rw [q])
theorem own_d_prog_122_method_2_0 : decode prog_122_method_2_code 0 = .ok (.iload_n 0, 1) := by decide +kernel
theorem own_d_prog_122_method_2_1 : decode prog_122_method_2_code 1 = .ok (.ifCond .eq 9, 3) := by decide +kernel
theorem own_d_prog_122_method_2_4 : decode prog_122_method_2_code 4 = .ok (.getstatic 13, 3) := by decide +kernel
theorem own_d_prog_122_method_2_7 : decode prog_122_method_2_code 7 = .ok (.goto 6, 3) := by decide +kernel
theorem own_d_prog_122_method_2_10 : decode prog_122_method_2_code 10 = .ok (.getstatic 17, 3) := by decide +kernel
theorem own_d_prog_122_method_2_13 : decode prog_122_method_2_code 13 = .ok (.areturn, 1) := by decide +kernel
theorem own_pn0 : plainName "com/example/interleaving/interleaving/values/BoolValue" = true := by first | (simp [plainName, overriddenIn]; done) | decide +kernel
theorem own_ef_ofT (m : MethodId)  : entryFrame m #[(.int (1 : Int32))] 1 = mkF m 0 #[.val (.int (1 : Int32))] [] := by first | (simp [entryFrame, mkF, argsToLocals, Value.category]; done) | rfl
def own_Q_ofT (Z : State) (a1 : Addr) (h0 : Heap) (n0 : Nat) (v : Option Value) (h : Heap) (L : List Loc) : Prop := v = some (.ref a1) ∧ Fr n0 L ∧ h = h0
set_option maxRecDepth 65536 in
set_option maxHeartbeats 40000000 in
theorem own_rm_ofT (l : Launch) (Z : State) (a0 : Array Value) (hw : ∀ d ∈ tables_1, d.before a0 Z = true) (ws : List Jvm.Cond) (a1 : Addr) (h0 : Heap) (n0 : Nat) (Z0 : n0 ≤ h0.size) (S0 : Sta Z h0 "com/example/interleaving/interleaving/values/BoolValue" "TRUE" "Lcom/example/interleaving/interleaving/values/BoolValue;" (.ref a1)) :
    MetFree l (⟨"com/example/interleaving/interleaving/values/BoolValue", "of", "(Z)Lcom/example/interleaving/interleaving/values/BoolValue;"⟩ : MethodName) (head1 (Jvm.Cond.code (⟨"com/example/interleaving/interleaving/values/BoolValue", "of", "(Z)Lcom/example/interleaving/interleaving/values/BoolValue;"⟩ : MethodName) prog_122_method_2_code 1 (some (.object "com/example/interleaving/interleaving/values/BoolValue")) :: ws) ({ frames := 0, cells := 0, slots := 0, locals := 0 } : Room)) (fun a U => a = #[(.int (1 : Int32))] ∧ Z.Warmed39 U.vm ∧ U.heap = h0) (fun _ _ _ _ _ => True) (fun _ U o U' => ∃ v L, o = .returned v ∧ own_Q_ofT Z a1 h0 n0 v U'.heap L ∧ FrameEnd U o U' L ({ frames := 0, cells := 0, slots := 0, locals := 0 } : Room).cells ({ frames := 0, cells := 0, slots := 0, locals := 0 } : Room).slots) := by
  refine MetFree.of_bodySF (plainFor_of_name own_pn0) hisR ?_
  intro p e s m args below meth c s₁ Bd hml0 hP hK
  obtain ⟨rfl, hZ, hh⟩ := hP
  have hx := Bd.exec
  have hby := Bd.bytes
  have hml : c.maxLocals = 1 := hml0
  have hown : s.vm.findClass "com/example/interleaving/interleaving/values/BoolValue" = some m.cls := findClass_of_methodNamed Bd.named
  have hnm := (name_of_methodNamed Bd.named Bd.method).1
  have X0 : Stand p l e ({ frames := 0, cells := 0, slots := 0, locals := 0 } : Room) s m #[(.int (1 : Int32))] below meth c s₁ [] 0 0 := Stand.of_body Bd
  have e0 : s₁.heap = h0 := by rw [← hh, Bd.state]; rfl
  have N0 := Fr.nil n0
  have K0 : Keep h0 h0 [] := Keep.refl _ _
  have pre0 : ∀ t, Steps p.tables e below (s₁.setTop (mkF m 0 #[.val (.int (1 : Int32))] [])) t → Steps p.tables e below (s₁.setTop (entryFrame m #[(.int (1 : Int32))] 1)) t := fun t k => castTop (own_ef_ofT m ) k
  obtain ⟨T1, X1, e1, st1⟩ := getS2 X0 hx hZ hown (host := "") (Or.inl (hw _ (List.mem_of_getElem? (i := 6) rfl))) Via.refl e0 S0 (g := (mkF m 4 #[.val (.int (1 : Int32))] [])) rfl (hb hby own_d_prog_122_method_2_4)
  have pre2 : ∀ t, Steps p.tables e below (T1.setTop (mkF m 13 #[.val (.int (1 : Int32))] [(.ref a1)])) t → Steps p.tables e below (s₁.setTop (entryFrame m #[(.int (1 : Int32))] 1)) t := by
    intro t kt
    refine pre0 t ?_
    show Steps p.tables e below (s₁.setTop (mkF m 0 #[.val (.int (1 : Int32))] [])) _
    refine XS.iloadN X0.here hx rfl (hb hby own_d_prog_122_method_2_0) rfl ?_
    show Steps p.tables e below (s₁.setTop (mkF m 1 #[.val (.int (1 : Int32))] [(.int (1 : Int32))])) _
    refine XS.ifNo X0.here hx rfl (hb hby own_d_prog_122_method_2_1) rfl ((if0 _ _).trans (feq (by decide : ¬ ((1 : Int32) = (0 : Int32)))).1) ?_
    show Steps p.tables e below (s₁.setTop (mkF m 4 #[.val (.int (1 : Int32))] [])) _
    refine st1 _ ?_
    show Steps p.tables e below (T1.setTop (mkF m 7 #[.val (.int (1 : Int32))] [(.ref a1)])) _
    refine XS.goto X1.here hx rfl (pc0 := 7) (pc' := 13) rfl (hb hby own_d_prog_122_method_2_7) (by decide) (by decide) ?_
    exact kt
  obtain ⟨fs, hr, hrun, hended, hW, hsame⟩ := X1.leave (v := some (.ref a1)) (fun h => by rw [Bd.returns] at h; cases h)
  refine ⟨_, _, pre2 _ ?_, hrun, hended, _, _, rfl, ?_, ⟨_, rfl⟩, hW, hsame.mono (by decide) (by decide)⟩
  · show Steps p.tables e below (T1.setTop (mkF m 13 #[.val (.int (1 : Int32))] [(.ref a1)])) _
    jvm_step X1.here [X1.here.top, hx, (hb hby own_d_prog_122_method_2_13), X1.method', Bd.returns, Value.isRef, FieldType.isReference]
    first | (intro acts; rw [hr _ acts rfl rfl rfl]) | rw [hr _ _ rfl rfl rfl]
    exact Steps.refl _
  · show own_Q_ofT Z a1 h0 n0 (some (.ref a1)) T1.heap _
    rw [e1]
    exact ⟨rfl, N0, rfl⟩
theorem own_ef_ofF (m : MethodId)  : entryFrame m #[(.int (0 : Int32))] 1 = mkF m 0 #[.val (.int (0 : Int32))] [] := by first | (simp [entryFrame, mkF, argsToLocals, Value.category]; done) | rfl
def own_Q_ofF (Z : State) (a1 : Addr) (h0 : Heap) (n0 : Nat) (v : Option Value) (h : Heap) (L : List Loc) : Prop := v = some (.ref a1) ∧ Fr n0 L ∧ h = h0
set_option maxRecDepth 65536 in
set_option maxHeartbeats 40000000 in
theorem own_rm_ofF (l : Launch) (Z : State) (a0 : Array Value) (hw : ∀ d ∈ tables_1, d.before a0 Z = true) (ws : List Jvm.Cond) (a1 : Addr) (h0 : Heap) (n0 : Nat) (Z0 : n0 ≤ h0.size) (S0 : Sta Z h0 "com/example/interleaving/interleaving/values/BoolValue" "FALSE" "Lcom/example/interleaving/interleaving/values/BoolValue;" (.ref a1)) :
    MetFree l (⟨"com/example/interleaving/interleaving/values/BoolValue", "of", "(Z)Lcom/example/interleaving/interleaving/values/BoolValue;"⟩ : MethodName) (head1 (Jvm.Cond.code (⟨"com/example/interleaving/interleaving/values/BoolValue", "of", "(Z)Lcom/example/interleaving/interleaving/values/BoolValue;"⟩ : MethodName) prog_122_method_2_code 1 (some (.object "com/example/interleaving/interleaving/values/BoolValue")) :: ws) ({ frames := 0, cells := 0, slots := 0, locals := 0 } : Room)) (fun a U => a = #[(.int (0 : Int32))] ∧ Z.Warmed39 U.vm ∧ U.heap = h0) (fun _ _ _ _ _ => True) (fun _ U o U' => ∃ v L, o = .returned v ∧ own_Q_ofF Z a1 h0 n0 v U'.heap L ∧ FrameEnd U o U' L ({ frames := 0, cells := 0, slots := 0, locals := 0 } : Room).cells ({ frames := 0, cells := 0, slots := 0, locals := 0 } : Room).slots) := by
  refine MetFree.of_bodySF (plainFor_of_name own_pn0) hisR ?_
  intro p e s m args below meth c s₁ Bd hml0 hP hK
  obtain ⟨rfl, hZ, hh⟩ := hP
  have hx := Bd.exec
  have hby := Bd.bytes
  have hml : c.maxLocals = 1 := hml0
  have hown : s.vm.findClass "com/example/interleaving/interleaving/values/BoolValue" = some m.cls := findClass_of_methodNamed Bd.named
  have hnm := (name_of_methodNamed Bd.named Bd.method).1
  have X0 : Stand p l e ({ frames := 0, cells := 0, slots := 0, locals := 0 } : Room) s m #[(.int (0 : Int32))] below meth c s₁ [] 0 0 := Stand.of_body Bd
  have e0 : s₁.heap = h0 := by rw [← hh, Bd.state]; rfl
  have N0 := Fr.nil n0
  have K0 : Keep h0 h0 [] := Keep.refl _ _
  have pre0 : ∀ t, Steps p.tables e below (s₁.setTop (mkF m 0 #[.val (.int (0 : Int32))] [])) t → Steps p.tables e below (s₁.setTop (entryFrame m #[(.int (0 : Int32))] 1)) t := fun t k => castTop (own_ef_ofF m ) k
  obtain ⟨T1, X1, e1, st1⟩ := getS2 X0 hx hZ hown (host := "") (Or.inl (hw _ (List.mem_of_getElem? (i := 4) rfl))) Via.refl e0 S0 (g := (mkF m 10 #[.val (.int (0 : Int32))] [])) rfl (hb hby own_d_prog_122_method_2_10)
  have pre2 : ∀ t, Steps p.tables e below (T1.setTop (mkF m 13 #[.val (.int (0 : Int32))] [(.ref a1)])) t → Steps p.tables e below (s₁.setTop (entryFrame m #[(.int (0 : Int32))] 1)) t := by
    intro t kt
    refine pre0 t ?_
    show Steps p.tables e below (s₁.setTop (mkF m 0 #[.val (.int (0 : Int32))] [])) _
    refine XS.iloadN X0.here hx rfl (hb hby own_d_prog_122_method_2_0) rfl ?_
    show Steps p.tables e below (s₁.setTop (mkF m 1 #[.val (.int (0 : Int32))] [(.int (0 : Int32))])) _
    refine XS.ifYes X0.here hx rfl (pc0 := 1) (pc' := 10) rfl (hb hby own_d_prog_122_method_2_1) rfl ((if0 _ _).trans (teq (rfl : (0 : Int32) = (0 : Int32))).1) (by decide) (by decide) ?_
    show Steps p.tables e below (s₁.setTop (mkF m 10 #[.val (.int (0 : Int32))] [])) _
    refine st1 _ ?_
    exact kt
  obtain ⟨fs, hr, hrun, hended, hW, hsame⟩ := X1.leave (v := some (.ref a1)) (fun h => by rw [Bd.returns] at h; cases h)
  refine ⟨_, _, pre2 _ ?_, hrun, hended, _, _, rfl, ?_, ⟨_, rfl⟩, hW, hsame.mono (by decide) (by decide)⟩
  · show Steps p.tables e below (T1.setTop (mkF m 13 #[.val (.int (0 : Int32))] [(.ref a1)])) _
    jvm_step X1.here [X1.here.top, hx, (hb hby own_d_prog_122_method_2_13), X1.method', Bd.returns, Value.isRef, FieldType.isReference]
    first | (intro acts; rw [hr _ acts rfl rfl rfl]) | rw [hr _ _ rfl rfl rfl]
    exact Steps.refl _
  · show own_Q_ofF Z a1 h0 n0 (some (.ref a1)) T1.heap _
    rw [e1]
    exact ⟨rfl, N0, rfl⟩
theorem own_d_prog_122_method_3_0 : decode prog_122_method_3_code 0 = .ok (.aload_n 0, 1) := by decide +kernel
theorem own_d_prog_122_method_3_1 : decode prog_122_method_3_code 1 = .ok (.getfield 7, 3) := by decide +kernel
theorem own_d_prog_122_method_3_4 : decode prog_122_method_3_code 4 = .ok (.ireturn, 1) := by decide +kernel
theorem own_ef_asT (m : MethodId) (a1 : Addr) : entryFrame m #[(.ref a1)] 1 = mkF m 0 #[.val (.ref a1)] [] := by first | (simp [entryFrame, mkF, argsToLocals, Value.category]; done) | rfl
def own_Q_asT (Z : State) (a1 : Addr) (h0 : Heap) (n0 : Nat) (v : Option Value) (h : Heap) (L : List Loc) : Prop := v = some (.int 1) ∧ Fr n0 L ∧ h = h0
set_option maxRecDepth 65536 in
set_option maxHeartbeats 40000000 in
theorem own_rm_asT (l : Launch) (Z : State) (a0 : Array Value) (hw : ∀ d ∈ tables_1, d.before a0 Z = true) (ws : List Jvm.Cond) (a1 : Addr) (h0 : Heap) (n0 : Nat) (Z0 : n0 ≤ h0.size) (F0 : Fld Z h0 a1 "com/example/interleaving/interleaving/values/BoolValue" "truth" "Z" (.int (1 : Int32))) :
    MetFree l (⟨"com/example/interleaving/interleaving/values/BoolValue", "isTrue", "()Z"⟩ : MethodName) (head1 (Jvm.Cond.code (⟨"com/example/interleaving/interleaving/values/BoolValue", "isTrue", "()Z"⟩ : MethodName) prog_122_method_3_code 1 (some .boolean) :: ws) ({ frames := 0, cells := 0, slots := 0, locals := 0 } : Room)) (fun a U => a = #[(.ref a1)] ∧ Z.Warmed39 U.vm ∧ U.heap = h0) (fun _ _ _ _ _ => True) (fun _ U o U' => ∃ v L, o = .returned v ∧ own_Q_asT Z a1 h0 n0 v U'.heap L ∧ FrameEnd U o U' L ({ frames := 0, cells := 0, slots := 0, locals := 0 } : Room).cells ({ frames := 0, cells := 0, slots := 0, locals := 0 } : Room).slots) := by
  refine MetFree.of_bodySF (plainFor_of_name own_pn0) hisR ?_
  intro p e s m args below meth c s₁ Bd hml0 hP hK
  obtain ⟨rfl, hZ, hh⟩ := hP
  have hx := Bd.exec
  have hby := Bd.bytes
  have hml : c.maxLocals = 1 := hml0
  have hown : s.vm.findClass "com/example/interleaving/interleaving/values/BoolValue" = some m.cls := findClass_of_methodNamed Bd.named
  have hnm := (name_of_methodNamed Bd.named Bd.method).1
  have X0 : Stand p l e ({ frames := 0, cells := 0, slots := 0, locals := 0 } : Room) s m #[(.ref a1)] below meth c s₁ [] 0 0 := Stand.of_body Bd
  have e0 : s₁.heap = h0 := by rw [← hh, Bd.state]; rfl
  have N0 := Fr.nil n0
  have K0 : Keep h0 h0 [] := Keep.refl _ _
  have pre0 : ∀ t, Steps p.tables e below (s₁.setTop (mkF m 0 #[.val (.ref a1)] [])) t → Steps p.tables e below (s₁.setTop (entryFrame m #[(.ref a1)] 1)) t := fun t k => castTop (own_ef_asT m a1) k
  obtain ⟨T1, X1, e1, st1⟩ := getF X0 hx hZ hown (host := "") (Or.inl (hw _ (List.mem_of_getElem? (i := 15) rfl))) Via.refl e0 F0 (g := (mkF m 1 #[.val (.ref a1)] [(.ref a1)])) rfl rfl (hb hby own_d_prog_122_method_3_1)
  have pre2 : ∀ t, Steps p.tables e below (T1.setTop (mkF m 4 #[.val (.ref a1)] [(.int (1 : Int32))])) t → Steps p.tables e below (s₁.setTop (entryFrame m #[(.ref a1)] 1)) t := by
    intro t kt
    refine pre0 t ?_
    show Steps p.tables e below (s₁.setTop (mkF m 0 #[.val (.ref a1)] [])) _
    refine XS.aloadN X0.here hx rfl (hb hby own_d_prog_122_method_3_0) rfl rfl ?_
    show Steps p.tables e below (s₁.setTop (mkF m 1 #[.val (.ref a1)] [(.ref a1)])) _
    refine st1 _ ?_
    exact kt
  obtain ⟨fs, hr, hrun, hended, hW, hsame⟩ := X1.leave (v := some (.int (1 : Int32))) (fun h => by rw [Bd.returns] at h; cases h)
  refine ⟨_, _, pre2 _ ?_, hrun, hended, _, _, rfl, ?_, ⟨_, rfl⟩, hW, hsame.mono (by decide) (by decide)⟩
  · show Steps p.tables e below (T1.setTop (mkF m 4 #[.val (.ref a1)] [(.int (1 : Int32))])) _
    exact retN X1 hx (t := .boolean) Bd.returns (by simp) (hb hby own_d_prog_122_method_3_4) hr
  · show own_Q_asT Z a1 h0 n0 (some (.int (1 : Int32))) T1.heap _
    rw [e1]
    exact ⟨rfl, N0, rfl⟩
theorem own_ef_asF (m : MethodId) (a1 : Addr) : entryFrame m #[(.ref a1)] 1 = mkF m 0 #[.val (.ref a1)] [] := by first | (simp [entryFrame, mkF, argsToLocals, Value.category]; done) | rfl
def own_Q_asF (Z : State) (a1 : Addr) (h0 : Heap) (n0 : Nat) (v : Option Value) (h : Heap) (L : List Loc) : Prop := v = some (.int 0) ∧ Fr n0 L ∧ h = h0
set_option maxRecDepth 65536 in
set_option maxHeartbeats 40000000 in
theorem own_rm_asF (l : Launch) (Z : State) (a0 : Array Value) (hw : ∀ d ∈ tables_1, d.before a0 Z = true) (ws : List Jvm.Cond) (a1 : Addr) (h0 : Heap) (n0 : Nat) (Z0 : n0 ≤ h0.size) (F0 : Fld Z h0 a1 "com/example/interleaving/interleaving/values/BoolValue" "truth" "Z" (.int (0 : Int32))) :
    MetFree l (⟨"com/example/interleaving/interleaving/values/BoolValue", "isTrue", "()Z"⟩ : MethodName) (head1 (Jvm.Cond.code (⟨"com/example/interleaving/interleaving/values/BoolValue", "isTrue", "()Z"⟩ : MethodName) prog_122_method_3_code 1 (some .boolean) :: ws) ({ frames := 0, cells := 0, slots := 0, locals := 0 } : Room)) (fun a U => a = #[(.ref a1)] ∧ Z.Warmed39 U.vm ∧ U.heap = h0) (fun _ _ _ _ _ => True) (fun _ U o U' => ∃ v L, o = .returned v ∧ own_Q_asF Z a1 h0 n0 v U'.heap L ∧ FrameEnd U o U' L ({ frames := 0, cells := 0, slots := 0, locals := 0 } : Room).cells ({ frames := 0, cells := 0, slots := 0, locals := 0 } : Room).slots) := by
  refine MetFree.of_bodySF (plainFor_of_name own_pn0) hisR ?_
  intro p e s m args below meth c s₁ Bd hml0 hP hK
  obtain ⟨rfl, hZ, hh⟩ := hP
  have hx := Bd.exec
  have hby := Bd.bytes
  have hml : c.maxLocals = 1 := hml0
  have hown : s.vm.findClass "com/example/interleaving/interleaving/values/BoolValue" = some m.cls := findClass_of_methodNamed Bd.named
  have hnm := (name_of_methodNamed Bd.named Bd.method).1
  have X0 : Stand p l e ({ frames := 0, cells := 0, slots := 0, locals := 0 } : Room) s m #[(.ref a1)] below meth c s₁ [] 0 0 := Stand.of_body Bd
  have e0 : s₁.heap = h0 := by rw [← hh, Bd.state]; rfl
  have N0 := Fr.nil n0
  have K0 : Keep h0 h0 [] := Keep.refl _ _
  have pre0 : ∀ t, Steps p.tables e below (s₁.setTop (mkF m 0 #[.val (.ref a1)] [])) t → Steps p.tables e below (s₁.setTop (entryFrame m #[(.ref a1)] 1)) t := fun t k => castTop (own_ef_asF m a1) k
  obtain ⟨T1, X1, e1, st1⟩ := getF X0 hx hZ hown (host := "") (Or.inl (hw _ (List.mem_of_getElem? (i := 15) rfl))) Via.refl e0 F0 (g := (mkF m 1 #[.val (.ref a1)] [(.ref a1)])) rfl rfl (hb hby own_d_prog_122_method_3_1)
  have pre2 : ∀ t, Steps p.tables e below (T1.setTop (mkF m 4 #[.val (.ref a1)] [(.int (0 : Int32))])) t → Steps p.tables e below (s₁.setTop (entryFrame m #[(.ref a1)] 1)) t := by
    intro t kt
    refine pre0 t ?_
    show Steps p.tables e below (s₁.setTop (mkF m 0 #[.val (.ref a1)] [])) _
    refine XS.aloadN X0.here hx rfl (hb hby own_d_prog_122_method_3_0) rfl rfl ?_
    show Steps p.tables e below (s₁.setTop (mkF m 1 #[.val (.ref a1)] [(.ref a1)])) _
    refine st1 _ ?_
    exact kt
  obtain ⟨fs, hr, hrun, hended, hW, hsame⟩ := X1.leave (v := some (.int (0 : Int32))) (fun h => by rw [Bd.returns] at h; cases h)
  refine ⟨_, _, pre2 _ ?_, hrun, hended, _, _, rfl, ?_, ⟨_, rfl⟩, hW, hsame.mono (by decide) (by decide)⟩
  · show Steps p.tables e below (T1.setTop (mkF m 4 #[.val (.ref a1)] [(.int (0 : Int32))])) _
    exact retN X1 hx (t := .boolean) Bd.returns (by simp) (hb hby own_d_prog_122_method_3_4) hr
  · show own_Q_asF Z a1 h0 n0 (some (.int (0 : Int32))) T1.heap _
    rw [e1]
    exact ⟨rfl, N0, rfl⟩
theorem own_d_prog_122_method_4_0 : decode prog_122_method_4_code 0 = .ok (.getstatic 20, 3) := by decide +kernel
theorem own_d_prog_122_method_4_3 : decode prog_122_method_4_code 3 = .ok (.areturn, 1) := by decide +kernel
theorem own_ef_kind (m : MethodId) (a1 : Addr) : entryFrame m #[(.ref a1)] 1 = mkF m 0 #[.val (.ref a1)] [] := by first | (simp [entryFrame, mkF, argsToLocals, Value.category]; done) | rfl
def own_Q_kind (Z : State) (a1 : Addr) (a2 : Addr) (h0 : Heap) (n0 : Nat) (v : Option Value) (h : Heap) (L : List Loc) : Prop := v = some (.ref a2) ∧ Fr n0 L ∧ h = h0
set_option maxRecDepth 65536 in
set_option maxHeartbeats 40000000 in
theorem own_rm_kind (l : Launch) (Z : State) (a0 : Array Value) (hw : ∀ d ∈ tables_1, d.before a0 Z = true) (ws : List Jvm.Cond) (a1 : Addr) (a2 : Addr) (h0 : Heap) (n0 : Nat) (Z0 : n0 ≤ h0.size) (S0 : Sta Z h0 "com/example/interleaving/interleaving/values/Value$Kind" "BOOLEAN" "Lcom/example/interleaving/interleaving/values/Value$Kind;" (.ref a2)) :
    MetFree l (⟨"com/example/interleaving/interleaving/values/BoolValue", "kind", "()Lcom/example/interleaving/interleaving/values/Value$Kind;"⟩ : MethodName) (head1 (Jvm.Cond.code (⟨"com/example/interleaving/interleaving/values/BoolValue", "kind", "()Lcom/example/interleaving/interleaving/values/Value$Kind;"⟩ : MethodName) prog_122_method_4_code 1 (some (.object "com/example/interleaving/interleaving/values/Value$Kind")) :: ws) ({ frames := 0, cells := 0, slots := 0, locals := 0 } : Room)) (fun a U => a = #[(.ref a1)] ∧ Z.Warmed39 U.vm ∧ U.heap = h0) (fun _ _ _ _ _ => True) (fun _ U o U' => ∃ v L, o = .returned v ∧ own_Q_kind Z a1 a2 h0 n0 v U'.heap L ∧ FrameEnd U o U' L ({ frames := 0, cells := 0, slots := 0, locals := 0 } : Room).cells ({ frames := 0, cells := 0, slots := 0, locals := 0 } : Room).slots) := by
  refine MetFree.of_bodySF (plainFor_of_name own_pn0) hisR ?_
  intro p e s m args below meth c s₁ Bd hml0 hP hK
  obtain ⟨rfl, hZ, hh⟩ := hP
  have hx := Bd.exec
  have hby := Bd.bytes
  have hml : c.maxLocals = 1 := hml0
  have hown : s.vm.findClass "com/example/interleaving/interleaving/values/BoolValue" = some m.cls := findClass_of_methodNamed Bd.named
  have hnm := (name_of_methodNamed Bd.named Bd.method).1
  have X0 : Stand p l e ({ frames := 0, cells := 0, slots := 0, locals := 0 } : Room) s m #[(.ref a1)] below meth c s₁ [] 0 0 := Stand.of_body Bd
  have e0 : s₁.heap = h0 := by rw [← hh, Bd.state]; rfl
  have N0 := Fr.nil n0
  have K0 : Keep h0 h0 [] := Keep.refl _ _
  have pre0 : ∀ t, Steps p.tables e below (s₁.setTop (mkF m 0 #[.val (.ref a1)] [])) t → Steps p.tables e below (s₁.setTop (entryFrame m #[(.ref a1)] 1)) t := fun t k => castTop (own_ef_kind m a1) k
  obtain ⟨T1, X1, e1, st1⟩ := getS2 X0 hx hZ hown (host := "") (Or.inl (hw _ (List.mem_of_getElem? (i := 22) rfl))) Via.refl e0 S0 (g := (mkF m 0 #[.val (.ref a1)] [])) rfl (hb hby own_d_prog_122_method_4_0)
  have pre2 : ∀ t, Steps p.tables e below (T1.setTop (mkF m 3 #[.val (.ref a1)] [(.ref a2)])) t → Steps p.tables e below (s₁.setTop (entryFrame m #[(.ref a1)] 1)) t := by
    intro t kt
    refine pre0 t ?_
    show Steps p.tables e below (s₁.setTop (mkF m 0 #[.val (.ref a1)] [])) _
    refine st1 _ ?_
    exact kt
  obtain ⟨fs, hr, hrun, hended, hW, hsame⟩ := X1.leave (v := some (.ref a2)) (fun h => by rw [Bd.returns] at h; cases h)
  refine ⟨_, _, pre2 _ ?_, hrun, hended, _, _, rfl, ?_, ⟨_, rfl⟩, hW, hsame.mono (by decide) (by decide)⟩
  · show Steps p.tables e below (T1.setTop (mkF m 3 #[.val (.ref a1)] [(.ref a2)])) _
    jvm_step X1.here [X1.here.top, hx, (hb hby own_d_prog_122_method_4_3), X1.method', Bd.returns, Value.isRef, FieldType.isReference]
    first | (intro acts; rw [hr _ acts rfl rfl rfl]) | rw [hr _ _ rfl rfl rfl]
    exact Steps.refl _
  · show own_Q_kind Z a1 a2 h0 n0 (some (.ref a2)) T1.heap _
    rw [e1]
    exact ⟨rfl, N0, rfl⟩
theorem own_pd0 : parseMethodDescriptor "(Z)Lcom/example/interleaving/interleaving/values/BoolValue;" = some ⟨[.boolean], some (.object "com/example/interleaving/interleaving/values/BoolValue")⟩ := by decide +kernel
theorem own_pd1 : parseMethodDescriptor "()Z" = some ⟨[], some .boolean⟩ := by decide +kernel
theorem own_pd2 : parseMethodDescriptor "()Lcom/example/interleaving/interleaving/values/Value$Kind;" = some ⟨[], some (.object "com/example/interleaving/interleaving/values/Value$Kind")⟩ := by decide +kernel
theorem own_pn1 : plainName "com/example/interleaving/interleaving/values/BoolValueOfPinLaw" = true := by first | (simp [plainName, overriddenIn]; done) | decide +kernel
theorem own_ef_law (m : MethodId) (p0 : Int32) : entryFrame m #[(.int p0)] maxLocals = mkF m 0 #[.val (.int p0), .unset, .unset, .unset, .unset, .unset, .unset, .unset] [] := by first | (simp [entryFrame, mkF, argsToLocals, Value.category, maxLocals]; done) | rfl
def own_Q_law (Z : State) (p0 : Int32) (aT : Addr) (aF : Addr) (aB : Addr) (h0 : Heap) (n0 : Nat) (v : Option Value) (h : Heap) (L : List Loc) : Prop := v = some (.int 1) ∧ Fr n0 L
set_option maxRecDepth 65536 in
set_option maxHeartbeats 40000000 in
theorem own_rm_law (l : Launch) (Z : State) (a0 : Array Value) (hw : ∀ d ∈ tables_1, d.before a0 Z = true) (ws : List Jvm.Cond) (p0 : Int32) (aT : Addr) (aF : Addr) (aB : Addr) (h0 : Heap) (n0 : Nat) (Z0 : n0 ≤ h0.size) (S_T : Sta Z h0 "com/example/interleaving/interleaving/values/BoolValue" "TRUE" "Lcom/example/interleaving/interleaving/values/BoolValue;" (.ref aT)) (S_F : Sta Z h0 "com/example/interleaving/interleaving/values/BoolValue" "FALSE" "Lcom/example/interleaving/interleaving/values/BoolValue;" (.ref aF)) (S_B : Sta Z h0 "com/example/interleaving/interleaving/values/Value$Kind" "BOOLEAN" "Lcom/example/interleaving/interleaving/values/Value$Kind;" (.ref aB)) (E_T : Exa Z h0 aT "com/example/interleaving/interleaving/values/BoolValue") (E_F : Exa Z h0 aF "com/example/interleaving/interleaving/values/BoolValue") (F_T : Fld Z h0 aT "com/example/interleaving/interleaving/values/BoolValue" "truth" "Z" (.int (1 : Int32))) (F_F : Fld Z h0 aF "com/example/interleaving/interleaving/values/BoolValue" "truth" "Z" (.int (0 : Int32))) (neq : aF ≠ aT) :
    MetFree l x (head1 (Jvm.Cond.code x code maxLocals ret :: ws) room_1) (fun a U => a = #[(.int p0)] ∧ Z.Warmed39 U.vm ∧ U.heap = h0) (fun _ _ _ _ _ => True) (fun _ U o U' => ∃ v L, o = .returned v ∧ own_Q_law Z p0 aT aF aB h0 n0 v U'.heap L ∧ FrameEnd U o U' L room_1.cells room_1.slots) := by
  refine MetFree.of_bodySF (plainFor_of_name own_pn1) hisR ?_
  intro p e s m args below meth c s₁ Bd hml0 hP hK
  obtain ⟨rfl, hZ, hh⟩ := hP
  have hx := Bd.exec
  have hby := Bd.bytes
  have hml : c.maxLocals = 8 := hml0
  have hown : s.vm.findClass "com/example/interleaving/interleaving/values/BoolValueOfPinLaw" = some m.cls := findClass_of_methodNamed Bd.named
  have hnm := (name_of_methodNamed Bd.named Bd.method).1
  have X0 : Stand p l e room_1 s m #[(.int p0)] below meth c s₁ [] 0 0 := Stand.of_body Bd
  have e0 : s₁.heap = h0 := by rw [← hh, Bd.state]; rfl
  have N0 := Fr.nil n0
  have K0 : Keep h0 h0 [] := Keep.refl _ _
  have pre0 : ∀ t, Steps p.tables e below (s₁.setTop (mkF m 0 #[.val (.int p0), .unset, .unset, .unset, .unset, .unset, .unset, .unset] [])) t → Steps p.tables e below (s₁.setTop (entryFrame m #[(.int p0)] maxLocals)) t := fun t k => castTop (own_ef_law m p0) k
  have pre1 : ∀ t, Steps p.tables e below (s₁.setTop (mkF m 3 #[.val (.int p0), .unset, .unset, .unset, .unset, .unset, .unset, .unset] [(.int (p0 &&& (1 : Int32)))])) t → Steps p.tables e below (s₁.setTop (entryFrame m #[(.int p0)] maxLocals)) t := by
    intro t kt
    refine pre0 t ?_
    show Steps p.tables e below (s₁.setTop (mkF m 0 #[.val (.int p0), .unset, .unset, .unset, .unset, .unset, .unset, .unset] [])) _
    refine XS.iloadN X0.here hx rfl (hb hby at_0) rfl ?_
    show Steps p.tables e below (s₁.setTop (mkF m 1 #[.val (.int p0), .unset, .unset, .unset, .unset, .unset, .unset, .unset] [(.int p0)])) _
    refine XS.iconst X0.here hx rfl (hb hby at_1) ?_
    show Steps p.tables e below (s₁.setTop (mkF m 2 #[.val (.int p0), .unset, .unset, .unset, .unset, .unset, .unset, .unset] [(.int (1 : Int32)), (.int p0)])) _
    refine XS.iand X0.here hx rfl (hb hby at_2) rfl ?_
    exact kt
  by_cases hc2 : (p0 &&& (1 : Int32)) = (0 : Int32)
  · have zs3 : n0 ≤ h0.size := Nat.le_trans Z0 K0.1
    obtain ⟨_, _, ⟨T4, L4, k4, n4⟩, -, X4, ⟨Lc4, hQ4, l4, y4, z4⟩, st4⟩ := Jvm.LawKit.callS X0 hx (y := (⟨"com/example/interleaving/interleaving/values/BoolValue", "of", "(Z)Lcom/example/interleaving/interleaving/values/BoolValue;"⟩ : MethodName)) hown (mvT hZ (hw _ (List.mem_of_getElem? (i := 0) rfl))) (mvT hZ (hw _ (List.mem_of_getElem? (i := 1) rfl))) (mvT hZ (hw _ (List.mem_of_getElem? (i := 2) rfl))) (mvT hZ (hw _ (List.mem_of_getElem? (i := 3) rfl))) (by decide) (backOf (W := 0) (own_rm_ofF l Z a0 hw [] aF h0 n0 zs3 S_F) hZ (hw _ (List.mem_of_getElem? (i := 3) rfl)) (hw _ (List.mem_of_getElem? (i := 2) rfl)) (by decide) (by decide)) (g := (mkF m 13 #[.val (.int p0), .val (.int (0 : Int32)), .unset, .unset, .unset, .unset, .unset, .unset] [(.int (0 : Int32))])) rfl (by rw [hml]; rfl) (argsL := [(.int (0 : Int32))]) (rest := []) (lenOf own_pd0 rfl) rfl (by show 2 * 0 + _ ≤ _; exact Nat.le_of_eq rfl) (hb hby at_13) (fun _ _ => ⟨rfl, e0, (by decide : 0 + 0 ≤ _), (by decide : 0 + 0 ≤ _)⟩)
    dsimp only [Pt.U, Pt.locs, Pt.cells, Pt.slots] at X4 l4 y4 z4 st4 hQ4
    rw [l4, (y4 : k4 = 0), (z4 : n4 = 0)] at X4
    clear l4 y4 z4
    obtain ⟨rfl, N5, eq5⟩ := hQ4
    have nf6 := Fr.app N0 N5
    have zs7 : n0 ≤ h0.size := Nat.le_trans Z0 K0.1
    obtain ⟨_, _, ⟨T8, L8, k8, n8⟩, -, X8, ⟨Lc8, hQ8, l8, y8, z8⟩, st8⟩ := Jvm.LawKit.callS X4 hx (y := (⟨"com/example/interleaving/interleaving/values/BoolValue", "of", "(Z)Lcom/example/interleaving/interleaving/values/BoolValue;"⟩ : MethodName)) hown (mvT hZ (hw _ (List.mem_of_getElem? (i := 0) rfl))) (mvT hZ (hw _ (List.mem_of_getElem? (i := 1) rfl))) (mvT hZ (hw _ (List.mem_of_getElem? (i := 2) rfl))) (mvT hZ (hw _ (List.mem_of_getElem? (i := 3) rfl))) (by decide) (backOf (W := 0) (own_rm_ofT l Z a0 hw [] aT h0 n0 zs7 S_T) hZ (hw _ (List.mem_of_getElem? (i := 3) rfl)) (hw _ (List.mem_of_getElem? (i := 2) rfl)) (by decide) (by decide)) (g := (mkF m 26 #[.val (.int p0), .val (.int (0 : Int32)), .val (.ref aF), .unset, .unset, .unset, .unset, .unset] [(.int (1 : Int32))])) rfl (by rw [hml]; rfl) (argsL := [(.int (1 : Int32))]) (rest := []) (lenOf own_pd0 rfl) rfl (by show 2 * 0 + _ ≤ _; exact Nat.le_of_eq rfl) (hb hby at_26) (fun _ _ => ⟨rfl, eq5, (by decide : 0 + 0 ≤ _), (by decide : 0 + 0 ≤ _)⟩)
    dsimp only [Pt.U, Pt.locs, Pt.cells, Pt.slots] at X8 l8 y8 z8 st8 hQ8
    rw [l8, (y8 : k8 = 0), (z8 : n8 = 0)] at X8
    clear l8 y8 z8
    obtain ⟨rfl, N9, eq9⟩ := hQ8
    have nf10 := Fr.app nf6 N9
    have pre11 : ∀ t, Steps p.tables e below (T8.setTop (mkF m 30 #[.val (.int p0), .val (.int (0 : Int32)), .val (.ref aF), .val (.ref aT), .unset, .unset, .unset, .unset] [])) t → Steps p.tables e below (s₁.setTop (entryFrame m #[(.int p0)] maxLocals)) t := by
      intro t kt
      refine pre1 t ?_
      show Steps p.tables e below (s₁.setTop (mkF m 3 #[.val (.int p0), .unset, .unset, .unset, .unset, .unset, .unset, .unset] [(.int (p0 &&& (1 : Int32)))])) _
      refine XS.ifYes X0.here hx rfl (pc0 := 3) (pc' := 10) rfl (hb hby at_3) rfl ((if0 _ _).trans (teq hc2).1) (by decide) (by decide) ?_
      show Steps p.tables e below (s₁.setTop (mkF m 10 #[.val (.int p0), .unset, .unset, .unset, .unset, .unset, .unset, .unset] [])) _
      refine XS.iconst X0.here hx rfl (hb hby at_10) ?_
      show Steps p.tables e below (s₁.setTop (mkF m 11 #[.val (.int p0), .unset, .unset, .unset, .unset, .unset, .unset, .unset] [(.int (0 : Int32))])) _
      refine XS.istoreN X0.here hx rfl (hb hby at_11) rfl (l' := #[.val (.int p0), .val (.int (0 : Int32)), .unset, .unset, .unset, .unset, .unset, .unset]) rfl ?_
      show Steps p.tables e below (s₁.setTop (mkF m 12 #[.val (.int p0), .val (.int (0 : Int32)), .unset, .unset, .unset, .unset, .unset, .unset] [])) _
      refine XS.iloadN X0.here hx rfl (hb hby at_12) rfl ?_
      show Steps p.tables e below (s₁.setTop (mkF m 13 #[.val (.int p0), .val (.int (0 : Int32)), .unset, .unset, .unset, .unset, .unset, .unset] [(.int (0 : Int32))])) _
      refine st4 _ ?_
      show Steps p.tables e below (T4.setTop (mkF m 16 #[.val (.int p0), .val (.int (0 : Int32)), .unset, .unset, .unset, .unset, .unset, .unset] [(.ref aF)])) _
      refine XS.astoreN X4.here hx rfl (hb hby at_16) rfl rfl (l' := #[.val (.int p0), .val (.int (0 : Int32)), .val (.ref aF), .unset, .unset, .unset, .unset, .unset]) rfl ?_
      show Steps p.tables e below (T4.setTop (mkF m 17 #[.val (.int p0), .val (.int (0 : Int32)), .val (.ref aF), .unset, .unset, .unset, .unset, .unset] [])) _
      refine XS.iloadN X4.here hx rfl (hb hby at_17) rfl ?_
      show Steps p.tables e below (T4.setTop (mkF m 18 #[.val (.int p0), .val (.int (0 : Int32)), .val (.ref aF), .unset, .unset, .unset, .unset, .unset] [(.int (0 : Int32))])) _
      refine XS.ifNo X4.here hx rfl (hb hby at_18) rfl ((if0 _ _).trans (teq (rfl : (0 : Int32) = (0 : Int32))).2) ?_
      show Steps p.tables e below (T4.setTop (mkF m 21 #[.val (.int p0), .val (.int (0 : Int32)), .val (.ref aF), .unset, .unset, .unset, .unset, .unset] [])) _
      refine XS.iconst X4.here hx rfl (hb hby at_21) ?_
      show Steps p.tables e below (T4.setTop (mkF m 22 #[.val (.int p0), .val (.int (0 : Int32)), .val (.ref aF), .unset, .unset, .unset, .unset, .unset] [(.int (1 : Int32))])) _
      refine XS.goto X4.here hx rfl (pc0 := 22) (pc' := 26) rfl (hb hby at_22) (by decide) (by decide) ?_
      show Steps p.tables e below (T4.setTop (mkF m 26 #[.val (.int p0), .val (.int (0 : Int32)), .val (.ref aF), .unset, .unset, .unset, .unset, .unset] [(.int (1 : Int32))])) _
      refine st8 _ ?_
      show Steps p.tables e below (T8.setTop (mkF m 29 #[.val (.int p0), .val (.int (0 : Int32)), .val (.ref aF), .unset, .unset, .unset, .unset, .unset] [(.ref aT)])) _
      refine XS.astoreN X8.here hx rfl (hb hby at_29) rfl rfl (l' := #[.val (.int p0), .val (.int (0 : Int32)), .val (.ref aF), .val (.ref aT), .unset, .unset, .unset, .unset]) rfl ?_
      exact kt
    obtain ⟨T12, X12, e12, st12⟩ := getS2 X8 hx hZ hown (host := "") (Or.inl (hw _ (List.mem_of_getElem? (i := 8) rfl))) Via.refl eq9 S_T (g := (mkF m 31 #[.val (.int p0), .val (.int (0 : Int32)), .val (.ref aF), .val (.ref aT), .unset, .unset, .unset, .unset] [(.ref aF)])) rfl (hb hby at_31)
    obtain ⟨T13, X13, e13, st13⟩ := getS2 X12 hx hZ hown (host := "") (Or.inl (hw _ (List.mem_of_getElem? (i := 9) rfl))) Via.refl e12 S_F (g := (mkF m 38 #[.val (.int p0), .val (.int (0 : Int32)), .val (.ref aF), .val (.ref aT), .unset, .unset, .unset, .unset] [(.ref aF)])) rfl (hb hby at_38)
    have zs14 : n0 ≤ h0.size := Nat.le_trans Z0 K0.1
    obtain ⟨cq16, kq16, q16a, q16b, q16c⟩ := isOf hZ e13 E_F
    obtain ⟨_, _, ⟨T15, L15, k15, n15⟩, -, X15, ⟨Lc15, hQ15, l15, y15, z15⟩, st15⟩ := X13.virtualBack hx (y := (⟨"com/example/interleaving/interleaving/values/BoolValue", "isTrue", "()Z"⟩ : MethodName)) (z := (⟨"com/example/interleaving/interleaving/values/BoolValue", "isTrue", "()Z"⟩ : MethodName)) hown (mvT hZ (hw _ (List.mem_of_getElem? (i := 10) rfl))) (mvT hZ (hw _ (List.mem_of_getElem? (i := 11) rfl))) (notFace_of_selects (args := #[]) (mvT hZ (hw _ (List.mem_of_getElem? (i := 13) rfl)))) (mvT hZ (hw _ (List.mem_of_getElem? (i := 13) rfl))) (mvT hZ (hw _ (List.mem_of_getElem? (i := 12) rfl))) (by decide) (backOf (W := 0) (own_rm_asF l Z a0 hw [] aF h0 n0 zs14 F_F) hZ (hw _ (List.mem_of_getElem? (i := 14) rfl)) (hw _ (List.mem_of_getElem? (i := 2) rfl)) (by decide) (by decide)) q16a q16c (g := (mkF m 52 #[.val (.int p0), .val (.int (0 : Int32)), .val (.ref aF), .val (.ref aT), .val (.int (1 : Int32)), .unset, .unset, .unset] [(.ref aF)])) rfl (by rw [hml]; rfl) (Steps.refl _) (argsL := []) (rest := []) (lenOf own_pd1 rfl) rfl (by show 2 * 0 + _ ≤ _; exact Nat.le_of_eq rfl) (hb hby at_52) (fun _ _ => ⟨rfl, e13, (by decide : 0 + 0 ≤ _), (by decide : 0 + 0 ≤ _)⟩)
    dsimp only [Pt.U, Pt.locs, Pt.cells, Pt.slots] at X15 l15 y15 z15 st15 hQ15
    rw [l15, (y15 : k15 = 0), (z15 : n15 = 0)] at X15
    clear l15 y15 z15
    obtain ⟨rfl, N17, eq17⟩ := hQ15
    have nf18 := Fr.app nf10 N17
    have pre19 : ∀ t, Steps p.tables e below (T15.setTop (mkF m 56 #[.val (.int p0), .val (.int (0 : Int32)), .val (.ref aF), .val (.ref aT), .val (.int (1 : Int32)), .unset, .unset, .unset] [(.int (0 : Int32)), (.int (0 : Int32))])) t → Steps p.tables e below (s₁.setTop (entryFrame m #[(.int p0)] maxLocals)) t := by
      intro t kt
      refine pre11 t ?_
      show Steps p.tables e below (T8.setTop (mkF m 30 #[.val (.int p0), .val (.int (0 : Int32)), .val (.ref aF), .val (.ref aT), .unset, .unset, .unset, .unset] [])) _
      refine XS.aloadN X8.here hx rfl (hb hby at_30) rfl rfl ?_
      show Steps p.tables e below (T8.setTop (mkF m 31 #[.val (.int p0), .val (.int (0 : Int32)), .val (.ref aF), .val (.ref aT), .unset, .unset, .unset, .unset] [(.ref aF)])) _
      refine st12 _ ?_
      show Steps p.tables e below (T12.setTop (mkF m 34 #[.val (.int p0), .val (.int (0 : Int32)), .val (.ref aF), .val (.ref aT), .unset, .unset, .unset, .unset] [(.ref aT), (.ref aF)])) _
      refine Jvm.RoadKit.acmp (g := (mkF m 34 #[.val (.int p0), .val (.int (0 : Int32)), .val (.ref aF), .val (.ref aT), .unset, .unset, .unset, .unset] [(.ref aT), (.ref aF)])) X12 hx rfl rfl rfl (pc0 := 34) (pc' := 37) (same := false) rfl (hb hby at_34) rfl (decide_eq_false fun q => neq (Value.ref.inj q)) (by decide) (by decide) ?_
      show Steps p.tables e below (T12.setTop (mkF m 37 #[.val (.int p0), .val (.int (0 : Int32)), .val (.ref aF), .val (.ref aT), .unset, .unset, .unset, .unset] [])) _
      refine XS.aloadN X12.here hx rfl (hb hby at_37) rfl rfl ?_
      show Steps p.tables e below (T12.setTop (mkF m 38 #[.val (.int p0), .val (.int (0 : Int32)), .val (.ref aF), .val (.ref aT), .unset, .unset, .unset, .unset] [(.ref aF)])) _
      refine st13 _ ?_
      show Steps p.tables e below (T13.setTop (mkF m 41 #[.val (.int p0), .val (.int (0 : Int32)), .val (.ref aF), .val (.ref aT), .unset, .unset, .unset, .unset] [(.ref aF), (.ref aF)])) _
      refine Jvm.RoadKit.acmp (g := (mkF m 41 #[.val (.int p0), .val (.int (0 : Int32)), .val (.ref aF), .val (.ref aT), .unset, .unset, .unset, .unset] [(.ref aF), (.ref aF)])) X13 hx rfl rfl rfl (pc0 := 41) (pc' := 44) (same := true) rfl (hb hby at_41) rfl (decide_eq_true rfl) (by decide) (by decide) ?_
      show Steps p.tables e below (T13.setTop (mkF m 44 #[.val (.int p0), .val (.int (0 : Int32)), .val (.ref aF), .val (.ref aT), .unset, .unset, .unset, .unset] [])) _
      refine XS.iconst X13.here hx rfl (hb hby at_44) ?_
      show Steps p.tables e below (T13.setTop (mkF m 45 #[.val (.int p0), .val (.int (0 : Int32)), .val (.ref aF), .val (.ref aT), .unset, .unset, .unset, .unset] [(.int (1 : Int32))])) _
      refine XS.goto X13.here hx rfl (pc0 := 45) (pc' := 49) rfl (hb hby at_45) (by decide) (by decide) ?_
      show Steps p.tables e below (T13.setTop (mkF m 49 #[.val (.int p0), .val (.int (0 : Int32)), .val (.ref aF), .val (.ref aT), .unset, .unset, .unset, .unset] [(.int (1 : Int32))])) _
      refine XS.istore X13.here hx rfl (hb hby at_49) rfl (l' := #[.val (.int p0), .val (.int (0 : Int32)), .val (.ref aF), .val (.ref aT), .val (.int (1 : Int32)), .unset, .unset, .unset]) rfl ?_
      show Steps p.tables e below (T13.setTop (mkF m 51 #[.val (.int p0), .val (.int (0 : Int32)), .val (.ref aF), .val (.ref aT), .val (.int (1 : Int32)), .unset, .unset, .unset] [])) _
      refine XS.aloadN X13.here hx rfl (hb hby at_51) rfl rfl ?_
      show Steps p.tables e below (T13.setTop (mkF m 52 #[.val (.int p0), .val (.int (0 : Int32)), .val (.ref aF), .val (.ref aT), .val (.int (1 : Int32)), .unset, .unset, .unset] [(.ref aF)])) _
      refine st15.trans ?_
      show Steps p.tables e below (T15.setTop (mkF m 55 #[.val (.int p0), .val (.int (0 : Int32)), .val (.ref aF), .val (.ref aT), .val (.int (1 : Int32)), .unset, .unset, .unset] [(.int (0 : Int32))])) _
      refine XS.iloadN X15.here hx rfl (hb hby at_55) rfl ?_
      exact kt
    have zs20 : n0 ≤ h0.size := Nat.le_trans Z0 K0.1
    obtain ⟨cq22, kq22, q22a, q22b, q22c⟩ := isOf hZ eq17 E_F
    obtain ⟨_, _, ⟨T21, L21, k21, n21⟩, -, X21, ⟨Lc21, hQ21, l21, y21, z21⟩, st21⟩ := X15.virtualBack hx (y := (⟨"com/example/interleaving/interleaving/values/BoolValue", "kind", "()Lcom/example/interleaving/interleaving/values/Value$Kind;"⟩ : MethodName)) (z := (⟨"com/example/interleaving/interleaving/values/BoolValue", "kind", "()Lcom/example/interleaving/interleaving/values/Value$Kind;"⟩ : MethodName)) hown (mvT hZ (hw _ (List.mem_of_getElem? (i := 17) rfl))) (mvT hZ (hw _ (List.mem_of_getElem? (i := 18) rfl))) (notFace_of_selects (args := #[]) (mvT hZ (hw _ (List.mem_of_getElem? (i := 20) rfl)))) (mvT hZ (hw _ (List.mem_of_getElem? (i := 20) rfl))) (mvT hZ (hw _ (List.mem_of_getElem? (i := 19) rfl))) (by decide) (backOf (W := 0) (own_rm_kind l Z a0 hw [] aF aB h0 n0 zs20 S_B) hZ (hw _ (List.mem_of_getElem? (i := 21) rfl)) (hw _ (List.mem_of_getElem? (i := 2) rfl)) (by decide) (by decide)) q22a q22c (g := (mkF m 79 #[.val (.int p0), .val (.int (0 : Int32)), .val (.ref aF), .val (.ref aT), .val (.int (1 : Int32)), .val (.int (1 : Int32)), .val (.int (1 : Int32)), .unset] [(.ref aF)])) rfl (by rw [hml]; rfl) (Steps.refl _) (argsL := []) (rest := []) (lenOf own_pd2 rfl) rfl (by show 2 * 0 + _ ≤ _; exact Nat.le_of_eq rfl) (hb hby at_79) (fun _ _ => ⟨rfl, eq17, (by decide : 0 + 0 ≤ _), (by decide : 0 + 0 ≤ _)⟩)
    dsimp only [Pt.U, Pt.locs, Pt.cells, Pt.slots] at X21 l21 y21 z21 st21 hQ21
    rw [l21, (y21 : k21 = 0), (z21 : n21 = 0)] at X21
    clear l21 y21 z21
    obtain ⟨rfl, N23, eq23⟩ := hQ21
    have nf24 := Fr.app nf18 N23
    have pre25 : ∀ t, Steps p.tables e below (T21.setTop (mkF m 82 #[.val (.int p0), .val (.int (0 : Int32)), .val (.ref aF), .val (.ref aT), .val (.int (1 : Int32)), .val (.int (1 : Int32)), .val (.int (1 : Int32)), .unset] [(.ref aB)])) t → Steps p.tables e below (s₁.setTop (entryFrame m #[(.int p0)] maxLocals)) t := by
      intro t kt
      refine pre19 t ?_
      show Steps p.tables e below (T15.setTop (mkF m 56 #[.val (.int p0), .val (.int (0 : Int32)), .val (.ref aF), .val (.ref aT), .val (.int (1 : Int32)), .unset, .unset, .unset] [(.int (0 : Int32)), (.int (0 : Int32))])) _
      refine XS.icmpNo X15.here hx rfl (hb hby at_56) rfl (teq (rfl : (0 : Int32) = (0 : Int32))).2 ?_
      show Steps p.tables e below (T15.setTop (mkF m 59 #[.val (.int p0), .val (.int (0 : Int32)), .val (.ref aF), .val (.ref aT), .val (.int (1 : Int32)), .unset, .unset, .unset] [])) _
      refine XS.iconst X15.here hx rfl (hb hby at_59) ?_
      show Steps p.tables e below (T15.setTop (mkF m 60 #[.val (.int p0), .val (.int (0 : Int32)), .val (.ref aF), .val (.ref aT), .val (.int (1 : Int32)), .unset, .unset, .unset] [(.int (1 : Int32))])) _
      refine XS.goto X15.here hx rfl (pc0 := 60) (pc' := 64) rfl (hb hby at_60) (by decide) (by decide) ?_
      show Steps p.tables e below (T15.setTop (mkF m 64 #[.val (.int p0), .val (.int (0 : Int32)), .val (.ref aF), .val (.ref aT), .val (.int (1 : Int32)), .unset, .unset, .unset] [(.int (1 : Int32))])) _
      refine XS.istore X15.here hx rfl (hb hby at_64) rfl (l' := #[.val (.int p0), .val (.int (0 : Int32)), .val (.ref aF), .val (.ref aT), .val (.int (1 : Int32)), .val (.int (1 : Int32)), .unset, .unset]) rfl ?_
      show Steps p.tables e below (T15.setTop (mkF m 66 #[.val (.int p0), .val (.int (0 : Int32)), .val (.ref aF), .val (.ref aT), .val (.int (1 : Int32)), .val (.int (1 : Int32)), .unset, .unset] [])) _
      refine XS.aloadN X15.here hx rfl (hb hby at_66) rfl rfl ?_
      show Steps p.tables e below (T15.setTop (mkF m 67 #[.val (.int p0), .val (.int (0 : Int32)), .val (.ref aF), .val (.ref aT), .val (.int (1 : Int32)), .val (.int (1 : Int32)), .unset, .unset] [(.ref aF)])) _
      refine XS.aloadN X15.here hx rfl (hb hby at_67) rfl rfl ?_
      show Steps p.tables e below (T15.setTop (mkF m 68 #[.val (.int p0), .val (.int (0 : Int32)), .val (.ref aF), .val (.ref aT), .val (.int (1 : Int32)), .val (.int (1 : Int32)), .unset, .unset] [(.ref aT), (.ref aF)])) _
      refine Jvm.RoadKit.acmp (g := (mkF m 68 #[.val (.int p0), .val (.int (0 : Int32)), .val (.ref aF), .val (.ref aT), .val (.int (1 : Int32)), .val (.int (1 : Int32)), .unset, .unset] [(.ref aT), (.ref aF)])) X15 hx rfl rfl rfl (pc0 := 68) (pc' := 71) (same := false) rfl (hb hby at_68) rfl (decide_eq_false fun q => neq (Value.ref.inj q)) (by decide) (by decide) ?_
      show Steps p.tables e below (T15.setTop (mkF m 71 #[.val (.int p0), .val (.int (0 : Int32)), .val (.ref aF), .val (.ref aT), .val (.int (1 : Int32)), .val (.int (1 : Int32)), .unset, .unset] [])) _
      refine XS.iconst X15.here hx rfl (hb hby at_71) ?_
      show Steps p.tables e below (T15.setTop (mkF m 72 #[.val (.int p0), .val (.int (0 : Int32)), .val (.ref aF), .val (.ref aT), .val (.int (1 : Int32)), .val (.int (1 : Int32)), .unset, .unset] [(.int (1 : Int32))])) _
      refine XS.goto X15.here hx rfl (pc0 := 72) (pc' := 76) rfl (hb hby at_72) (by decide) (by decide) ?_
      show Steps p.tables e below (T15.setTop (mkF m 76 #[.val (.int p0), .val (.int (0 : Int32)), .val (.ref aF), .val (.ref aT), .val (.int (1 : Int32)), .val (.int (1 : Int32)), .unset, .unset] [(.int (1 : Int32))])) _
      refine XS.istore X15.here hx rfl (hb hby at_76) rfl (l' := #[.val (.int p0), .val (.int (0 : Int32)), .val (.ref aF), .val (.ref aT), .val (.int (1 : Int32)), .val (.int (1 : Int32)), .val (.int (1 : Int32)), .unset]) rfl ?_
      show Steps p.tables e below (T15.setTop (mkF m 78 #[.val (.int p0), .val (.int (0 : Int32)), .val (.ref aF), .val (.ref aT), .val (.int (1 : Int32)), .val (.int (1 : Int32)), .val (.int (1 : Int32)), .unset] [])) _
      refine XS.aloadN X15.here hx rfl (hb hby at_78) rfl rfl ?_
      show Steps p.tables e below (T15.setTop (mkF m 79 #[.val (.int p0), .val (.int (0 : Int32)), .val (.ref aF), .val (.ref aT), .val (.int (1 : Int32)), .val (.int (1 : Int32)), .val (.int (1 : Int32)), .unset] [(.ref aF)])) _
      refine st21.trans ?_
      exact kt
    obtain ⟨T26, X26, e26, st26⟩ := getS2 X21 hx hZ hown (host := "") (Or.inl (hw _ (List.mem_of_getElem? (i := 25) rfl))) Via.refl eq23 S_B (g := (mkF m 82 #[.val (.int p0), .val (.int (0 : Int32)), .val (.ref aF), .val (.ref aT), .val (.int (1 : Int32)), .val (.int (1 : Int32)), .val (.int (1 : Int32)), .unset] [(.ref aB)])) rfl (hb hby at_82)
    have pre27 : ∀ t, Steps p.tables e below (T26.setTop (mkF m 112 #[.val (.int p0), .val (.int (0 : Int32)), .val (.ref aF), .val (.ref aT), .val (.int (1 : Int32)), .val (.int (1 : Int32)), .val (.int (1 : Int32)), .val (.int (1 : Int32))] [(.int (1 : Int32))])) t → Steps p.tables e below (s₁.setTop (entryFrame m #[(.int p0)] maxLocals)) t := by
      intro t kt
      refine pre25 t ?_
      show Steps p.tables e below (T21.setTop (mkF m 82 #[.val (.int p0), .val (.int (0 : Int32)), .val (.ref aF), .val (.ref aT), .val (.int (1 : Int32)), .val (.int (1 : Int32)), .val (.int (1 : Int32)), .unset] [(.ref aB)])) _
      refine st26 _ ?_
      show Steps p.tables e below (T26.setTop (mkF m 85 #[.val (.int p0), .val (.int (0 : Int32)), .val (.ref aF), .val (.ref aT), .val (.int (1 : Int32)), .val (.int (1 : Int32)), .val (.int (1 : Int32)), .unset] [(.ref aB), (.ref aB)])) _
      refine Jvm.RoadKit.acmp (g := (mkF m 85 #[.val (.int p0), .val (.int (0 : Int32)), .val (.ref aF), .val (.ref aT), .val (.int (1 : Int32)), .val (.int (1 : Int32)), .val (.int (1 : Int32)), .unset] [(.ref aB), (.ref aB)])) X26 hx rfl rfl rfl (pc0 := 85) (pc' := 88) (same := true) rfl (hb hby at_85) rfl (decide_eq_true rfl) (by decide) (by decide) ?_
      show Steps p.tables e below (T26.setTop (mkF m 88 #[.val (.int p0), .val (.int (0 : Int32)), .val (.ref aF), .val (.ref aT), .val (.int (1 : Int32)), .val (.int (1 : Int32)), .val (.int (1 : Int32)), .unset] [])) _
      refine XS.iconst X26.here hx rfl (hb hby at_88) ?_
      show Steps p.tables e below (T26.setTop (mkF m 89 #[.val (.int p0), .val (.int (0 : Int32)), .val (.ref aF), .val (.ref aT), .val (.int (1 : Int32)), .val (.int (1 : Int32)), .val (.int (1 : Int32)), .unset] [(.int (1 : Int32))])) _
      refine XS.goto X26.here hx rfl (pc0 := 89) (pc' := 93) rfl (hb hby at_89) (by decide) (by decide) ?_
      show Steps p.tables e below (T26.setTop (mkF m 93 #[.val (.int p0), .val (.int (0 : Int32)), .val (.ref aF), .val (.ref aT), .val (.int (1 : Int32)), .val (.int (1 : Int32)), .val (.int (1 : Int32)), .unset] [(.int (1 : Int32))])) _
      refine XS.istore X26.here hx rfl (hb hby at_93) rfl (l' := #[.val (.int p0), .val (.int (0 : Int32)), .val (.ref aF), .val (.ref aT), .val (.int (1 : Int32)), .val (.int (1 : Int32)), .val (.int (1 : Int32)), .val (.int (1 : Int32))]) rfl ?_
      show Steps p.tables e below (T26.setTop (mkF m 95 #[.val (.int p0), .val (.int (0 : Int32)), .val (.ref aF), .val (.ref aT), .val (.int (1 : Int32)), .val (.int (1 : Int32)), .val (.int (1 : Int32)), .val (.int (1 : Int32))] [])) _
      refine XS.iload X26.here hx rfl (hb hby at_95) rfl ?_
      show Steps p.tables e below (T26.setTop (mkF m 97 #[.val (.int p0), .val (.int (0 : Int32)), .val (.ref aF), .val (.ref aT), .val (.int (1 : Int32)), .val (.int (1 : Int32)), .val (.int (1 : Int32)), .val (.int (1 : Int32))] [(.int (1 : Int32))])) _
      refine XS.ifNo X26.here hx rfl (hb hby at_97) rfl ((if0 _ _).trans (feq (by decide : ¬ ((1 : Int32) = (0 : Int32)))).1) ?_
      show Steps p.tables e below (T26.setTop (mkF m 100 #[.val (.int p0), .val (.int (0 : Int32)), .val (.ref aF), .val (.ref aT), .val (.int (1 : Int32)), .val (.int (1 : Int32)), .val (.int (1 : Int32)), .val (.int (1 : Int32))] [])) _
      refine XS.iload X26.here hx rfl (hb hby at_100) rfl ?_
      show Steps p.tables e below (T26.setTop (mkF m 102 #[.val (.int p0), .val (.int (0 : Int32)), .val (.ref aF), .val (.ref aT), .val (.int (1 : Int32)), .val (.int (1 : Int32)), .val (.int (1 : Int32)), .val (.int (1 : Int32))] [(.int (1 : Int32))])) _
      refine XS.ifNo X26.here hx rfl (hb hby at_102) rfl ((if0 _ _).trans (feq (by decide : ¬ ((1 : Int32) = (0 : Int32)))).1) ?_
      show Steps p.tables e below (T26.setTop (mkF m 105 #[.val (.int p0), .val (.int (0 : Int32)), .val (.ref aF), .val (.ref aT), .val (.int (1 : Int32)), .val (.int (1 : Int32)), .val (.int (1 : Int32)), .val (.int (1 : Int32))] [])) _
      refine XS.iload X26.here hx rfl (hb hby at_105) rfl ?_
      show Steps p.tables e below (T26.setTop (mkF m 107 #[.val (.int p0), .val (.int (0 : Int32)), .val (.ref aF), .val (.ref aT), .val (.int (1 : Int32)), .val (.int (1 : Int32)), .val (.int (1 : Int32)), .val (.int (1 : Int32))] [(.int (1 : Int32))])) _
      refine XS.ifNo X26.here hx rfl (hb hby at_107) rfl ((if0 _ _).trans (feq (by decide : ¬ ((1 : Int32) = (0 : Int32)))).1) ?_
      show Steps p.tables e below (T26.setTop (mkF m 110 #[.val (.int p0), .val (.int (0 : Int32)), .val (.ref aF), .val (.ref aT), .val (.int (1 : Int32)), .val (.int (1 : Int32)), .val (.int (1 : Int32)), .val (.int (1 : Int32))] [])) _
      refine XS.iload X26.here hx rfl (hb hby at_110) rfl ?_
      exact kt
    have pre28 : ∀ t, Steps p.tables e below (T26.setTop (mkF m 120 #[.val (.int p0), .val (.int (0 : Int32)), .val (.ref aF), .val (.ref aT), .val (.int (1 : Int32)), .val (.int (1 : Int32)), .val (.int (1 : Int32)), .val (.int (1 : Int32))] [(.int (1 : Int32))])) t → Steps p.tables e below (s₁.setTop (entryFrame m #[(.int p0)] maxLocals)) t := by
      intro t kt
      refine pre27 t ?_
      show Steps p.tables e below (T26.setTop (mkF m 112 #[.val (.int p0), .val (.int (0 : Int32)), .val (.ref aF), .val (.ref aT), .val (.int (1 : Int32)), .val (.int (1 : Int32)), .val (.int (1 : Int32)), .val (.int (1 : Int32))] [(.int (1 : Int32))])) _
      refine XS.ifNo X26.here hx rfl (hb hby at_112) rfl ((if0 _ _).trans (feq (by decide : ¬ ((1 : Int32) = (0 : Int32)))).1) ?_
      show Steps p.tables e below (T26.setTop (mkF m 115 #[.val (.int p0), .val (.int (0 : Int32)), .val (.ref aF), .val (.ref aT), .val (.int (1 : Int32)), .val (.int (1 : Int32)), .val (.int (1 : Int32)), .val (.int (1 : Int32))] [])) _
      refine XS.iconst X26.here hx rfl (hb hby at_115) ?_
      show Steps p.tables e below (T26.setTop (mkF m 116 #[.val (.int p0), .val (.int (0 : Int32)), .val (.ref aF), .val (.ref aT), .val (.int (1 : Int32)), .val (.int (1 : Int32)), .val (.int (1 : Int32)), .val (.int (1 : Int32))] [(.int (1 : Int32))])) _
      refine XS.goto X26.here hx rfl (pc0 := 116) (pc' := 120) rfl (hb hby at_116) (by decide) (by decide) ?_
      exact kt
    obtain ⟨fs, hr, hrun, hended, hW, hsame⟩ := X26.leave (v := some (.int (1 : Int32))) (fun h => by rw [Bd.returns] at h; cases h)
    refine ⟨_, _, pre28 _ ?_, hrun, hended, _, _, rfl, ?_, ⟨_, rfl⟩, hW, hsame.mono (by decide) (by decide)⟩
    · show Steps p.tables e below (T26.setTop (mkF m 120 #[.val (.int p0), .val (.int (0 : Int32)), .val (.ref aF), .val (.ref aT), .val (.int (1 : Int32)), .val (.int (1 : Int32)), .val (.int (1 : Int32)), .val (.int (1 : Int32))] [(.int (1 : Int32))])) _
      exact retN X26 hx (t := .boolean) Bd.returns (by simp) (hb hby at_120) hr
    · show own_Q_law Z p0 aT aF aB h0 n0 (some (.int (1 : Int32))) T26.heap _
      rw [e26]
      exact ⟨rfl, nf24⟩
  · have zs29 : n0 ≤ h0.size := Nat.le_trans Z0 K0.1
    obtain ⟨_, _, ⟨T30, L30, k30, n30⟩, -, X30, ⟨Lc30, hQ30, l30, y30, z30⟩, st30⟩ := Jvm.LawKit.callS X0 hx (y := (⟨"com/example/interleaving/interleaving/values/BoolValue", "of", "(Z)Lcom/example/interleaving/interleaving/values/BoolValue;"⟩ : MethodName)) hown (mvT hZ (hw _ (List.mem_of_getElem? (i := 0) rfl))) (mvT hZ (hw _ (List.mem_of_getElem? (i := 1) rfl))) (mvT hZ (hw _ (List.mem_of_getElem? (i := 2) rfl))) (mvT hZ (hw _ (List.mem_of_getElem? (i := 3) rfl))) (by decide) (backOf (W := 0) (own_rm_ofT l Z a0 hw [] aT h0 n0 zs29 S_T) hZ (hw _ (List.mem_of_getElem? (i := 3) rfl)) (hw _ (List.mem_of_getElem? (i := 2) rfl)) (by decide) (by decide)) (g := (mkF m 13 #[.val (.int p0), .val (.int (1 : Int32)), .unset, .unset, .unset, .unset, .unset, .unset] [(.int (1 : Int32))])) rfl (by rw [hml]; rfl) (argsL := [(.int (1 : Int32))]) (rest := []) (lenOf own_pd0 rfl) rfl (by show 2 * 0 + _ ≤ _; exact Nat.le_of_eq rfl) (hb hby at_13) (fun _ _ => ⟨rfl, e0, (by decide : 0 + 0 ≤ _), (by decide : 0 + 0 ≤ _)⟩)
    dsimp only [Pt.U, Pt.locs, Pt.cells, Pt.slots] at X30 l30 y30 z30 st30 hQ30
    rw [l30, (y30 : k30 = 0), (z30 : n30 = 0)] at X30
    clear l30 y30 z30
    obtain ⟨rfl, N31, eq31⟩ := hQ30
    have nf32 := Fr.app N0 N31
    have zs33 : n0 ≤ h0.size := Nat.le_trans Z0 K0.1
    obtain ⟨_, _, ⟨T34, L34, k34, n34⟩, -, X34, ⟨Lc34, hQ34, l34, y34, z34⟩, st34⟩ := Jvm.LawKit.callS X30 hx (y := (⟨"com/example/interleaving/interleaving/values/BoolValue", "of", "(Z)Lcom/example/interleaving/interleaving/values/BoolValue;"⟩ : MethodName)) hown (mvT hZ (hw _ (List.mem_of_getElem? (i := 0) rfl))) (mvT hZ (hw _ (List.mem_of_getElem? (i := 1) rfl))) (mvT hZ (hw _ (List.mem_of_getElem? (i := 2) rfl))) (mvT hZ (hw _ (List.mem_of_getElem? (i := 3) rfl))) (by decide) (backOf (W := 0) (own_rm_ofF l Z a0 hw [] aF h0 n0 zs33 S_F) hZ (hw _ (List.mem_of_getElem? (i := 3) rfl)) (hw _ (List.mem_of_getElem? (i := 2) rfl)) (by decide) (by decide)) (g := (mkF m 26 #[.val (.int p0), .val (.int (1 : Int32)), .val (.ref aT), .unset, .unset, .unset, .unset, .unset] [(.int (0 : Int32))])) rfl (by rw [hml]; rfl) (argsL := [(.int (0 : Int32))]) (rest := []) (lenOf own_pd0 rfl) rfl (by show 2 * 0 + _ ≤ _; exact Nat.le_of_eq rfl) (hb hby at_26) (fun _ _ => ⟨rfl, eq31, (by decide : 0 + 0 ≤ _), (by decide : 0 + 0 ≤ _)⟩)
    dsimp only [Pt.U, Pt.locs, Pt.cells, Pt.slots] at X34 l34 y34 z34 st34 hQ34
    rw [l34, (y34 : k34 = 0), (z34 : n34 = 0)] at X34
    clear l34 y34 z34
    obtain ⟨rfl, N35, eq35⟩ := hQ34
    have nf36 := Fr.app nf32 N35
    have pre37 : ∀ t, Steps p.tables e below (T34.setTop (mkF m 30 #[.val (.int p0), .val (.int (1 : Int32)), .val (.ref aT), .val (.ref aF), .unset, .unset, .unset, .unset] [])) t → Steps p.tables e below (s₁.setTop (entryFrame m #[(.int p0)] maxLocals)) t := by
      intro t kt
      refine pre1 t ?_
      show Steps p.tables e below (s₁.setTop (mkF m 3 #[.val (.int p0), .unset, .unset, .unset, .unset, .unset, .unset, .unset] [(.int (p0 &&& (1 : Int32)))])) _
      refine XS.ifNo X0.here hx rfl (hb hby at_3) rfl ((if0 _ _).trans (feq hc2).1) ?_
      show Steps p.tables e below (s₁.setTop (mkF m 6 #[.val (.int p0), .unset, .unset, .unset, .unset, .unset, .unset, .unset] [])) _
      refine XS.iconst X0.here hx rfl (hb hby at_6) ?_
      show Steps p.tables e below (s₁.setTop (mkF m 7 #[.val (.int p0), .unset, .unset, .unset, .unset, .unset, .unset, .unset] [(.int (1 : Int32))])) _
      refine XS.goto X0.here hx rfl (pc0 := 7) (pc' := 11) rfl (hb hby at_7) (by decide) (by decide) ?_
      show Steps p.tables e below (s₁.setTop (mkF m 11 #[.val (.int p0), .unset, .unset, .unset, .unset, .unset, .unset, .unset] [(.int (1 : Int32))])) _
      refine XS.istoreN X0.here hx rfl (hb hby at_11) rfl (l' := #[.val (.int p0), .val (.int (1 : Int32)), .unset, .unset, .unset, .unset, .unset, .unset]) rfl ?_
      show Steps p.tables e below (s₁.setTop (mkF m 12 #[.val (.int p0), .val (.int (1 : Int32)), .unset, .unset, .unset, .unset, .unset, .unset] [])) _
      refine XS.iloadN X0.here hx rfl (hb hby at_12) rfl ?_
      show Steps p.tables e below (s₁.setTop (mkF m 13 #[.val (.int p0), .val (.int (1 : Int32)), .unset, .unset, .unset, .unset, .unset, .unset] [(.int (1 : Int32))])) _
      refine st30 _ ?_
      show Steps p.tables e below (T30.setTop (mkF m 16 #[.val (.int p0), .val (.int (1 : Int32)), .unset, .unset, .unset, .unset, .unset, .unset] [(.ref aT)])) _
      refine XS.astoreN X30.here hx rfl (hb hby at_16) rfl rfl (l' := #[.val (.int p0), .val (.int (1 : Int32)), .val (.ref aT), .unset, .unset, .unset, .unset, .unset]) rfl ?_
      show Steps p.tables e below (T30.setTop (mkF m 17 #[.val (.int p0), .val (.int (1 : Int32)), .val (.ref aT), .unset, .unset, .unset, .unset, .unset] [])) _
      refine XS.iloadN X30.here hx rfl (hb hby at_17) rfl ?_
      show Steps p.tables e below (T30.setTop (mkF m 18 #[.val (.int p0), .val (.int (1 : Int32)), .val (.ref aT), .unset, .unset, .unset, .unset, .unset] [(.int (1 : Int32))])) _
      refine XS.ifYes X30.here hx rfl (pc0 := 18) (pc' := 25) rfl (hb hby at_18) rfl ((if0 _ _).trans (feq (by decide : ¬ ((1 : Int32) = (0 : Int32)))).2) (by decide) (by decide) ?_
      show Steps p.tables e below (T30.setTop (mkF m 25 #[.val (.int p0), .val (.int (1 : Int32)), .val (.ref aT), .unset, .unset, .unset, .unset, .unset] [])) _
      refine XS.iconst X30.here hx rfl (hb hby at_25) ?_
      show Steps p.tables e below (T30.setTop (mkF m 26 #[.val (.int p0), .val (.int (1 : Int32)), .val (.ref aT), .unset, .unset, .unset, .unset, .unset] [(.int (0 : Int32))])) _
      refine st34 _ ?_
      show Steps p.tables e below (T34.setTop (mkF m 29 #[.val (.int p0), .val (.int (1 : Int32)), .val (.ref aT), .unset, .unset, .unset, .unset, .unset] [(.ref aF)])) _
      refine XS.astoreN X34.here hx rfl (hb hby at_29) rfl rfl (l' := #[.val (.int p0), .val (.int (1 : Int32)), .val (.ref aT), .val (.ref aF), .unset, .unset, .unset, .unset]) rfl ?_
      exact kt
    obtain ⟨T38, X38, e38, st38⟩ := getS2 X34 hx hZ hown (host := "") (Or.inl (hw _ (List.mem_of_getElem? (i := 8) rfl))) Via.refl eq35 S_T (g := (mkF m 31 #[.val (.int p0), .val (.int (1 : Int32)), .val (.ref aT), .val (.ref aF), .unset, .unset, .unset, .unset] [(.ref aT)])) rfl (hb hby at_31)
    have zs39 : n0 ≤ h0.size := Nat.le_trans Z0 K0.1
    obtain ⟨cq41, kq41, q41a, q41b, q41c⟩ := isOf hZ e38 E_T
    obtain ⟨_, _, ⟨T40, L40, k40, n40⟩, -, X40, ⟨Lc40, hQ40, l40, y40, z40⟩, st40⟩ := X38.virtualBack hx (y := (⟨"com/example/interleaving/interleaving/values/BoolValue", "isTrue", "()Z"⟩ : MethodName)) (z := (⟨"com/example/interleaving/interleaving/values/BoolValue", "isTrue", "()Z"⟩ : MethodName)) hown (mvT hZ (hw _ (List.mem_of_getElem? (i := 10) rfl))) (mvT hZ (hw _ (List.mem_of_getElem? (i := 11) rfl))) (notFace_of_selects (args := #[]) (mvT hZ (hw _ (List.mem_of_getElem? (i := 13) rfl)))) (mvT hZ (hw _ (List.mem_of_getElem? (i := 13) rfl))) (mvT hZ (hw _ (List.mem_of_getElem? (i := 12) rfl))) (by decide) (backOf (W := 0) (own_rm_asT l Z a0 hw [] aT h0 n0 zs39 F_T) hZ (hw _ (List.mem_of_getElem? (i := 14) rfl)) (hw _ (List.mem_of_getElem? (i := 2) rfl)) (by decide) (by decide)) q41a q41c (g := (mkF m 52 #[.val (.int p0), .val (.int (1 : Int32)), .val (.ref aT), .val (.ref aF), .val (.int (1 : Int32)), .unset, .unset, .unset] [(.ref aT)])) rfl (by rw [hml]; rfl) (Steps.refl _) (argsL := []) (rest := []) (lenOf own_pd1 rfl) rfl (by show 2 * 0 + _ ≤ _; exact Nat.le_of_eq rfl) (hb hby at_52) (fun _ _ => ⟨rfl, e38, (by decide : 0 + 0 ≤ _), (by decide : 0 + 0 ≤ _)⟩)
    dsimp only [Pt.U, Pt.locs, Pt.cells, Pt.slots] at X40 l40 y40 z40 st40 hQ40
    rw [l40, (y40 : k40 = 0), (z40 : n40 = 0)] at X40
    clear l40 y40 z40
    obtain ⟨rfl, N42, eq42⟩ := hQ40
    have nf43 := Fr.app nf36 N42
    have pre44 : ∀ t, Steps p.tables e below (T40.setTop (mkF m 64 #[.val (.int p0), .val (.int (1 : Int32)), .val (.ref aT), .val (.ref aF), .val (.int (1 : Int32)), .unset, .unset, .unset] [(.int (1 : Int32))])) t → Steps p.tables e below (s₁.setTop (entryFrame m #[(.int p0)] maxLocals)) t := by
      intro t kt
      refine pre37 t ?_
      show Steps p.tables e below (T34.setTop (mkF m 30 #[.val (.int p0), .val (.int (1 : Int32)), .val (.ref aT), .val (.ref aF), .unset, .unset, .unset, .unset] [])) _
      refine XS.aloadN X34.here hx rfl (hb hby at_30) rfl rfl ?_
      show Steps p.tables e below (T34.setTop (mkF m 31 #[.val (.int p0), .val (.int (1 : Int32)), .val (.ref aT), .val (.ref aF), .unset, .unset, .unset, .unset] [(.ref aT)])) _
      refine st38 _ ?_
      show Steps p.tables e below (T38.setTop (mkF m 34 #[.val (.int p0), .val (.int (1 : Int32)), .val (.ref aT), .val (.ref aF), .unset, .unset, .unset, .unset] [(.ref aT), (.ref aT)])) _
      refine Jvm.RoadKit.acmp (g := (mkF m 34 #[.val (.int p0), .val (.int (1 : Int32)), .val (.ref aT), .val (.ref aF), .unset, .unset, .unset, .unset] [(.ref aT), (.ref aT)])) X38 hx rfl rfl rfl (pc0 := 34) (pc' := 44) (same := true) rfl (hb hby at_34) rfl (decide_eq_true rfl) (by decide) (by decide) ?_
      show Steps p.tables e below (T38.setTop (mkF m 44 #[.val (.int p0), .val (.int (1 : Int32)), .val (.ref aT), .val (.ref aF), .unset, .unset, .unset, .unset] [])) _
      refine XS.iconst X38.here hx rfl (hb hby at_44) ?_
      show Steps p.tables e below (T38.setTop (mkF m 45 #[.val (.int p0), .val (.int (1 : Int32)), .val (.ref aT), .val (.ref aF), .unset, .unset, .unset, .unset] [(.int (1 : Int32))])) _
      refine XS.goto X38.here hx rfl (pc0 := 45) (pc' := 49) rfl (hb hby at_45) (by decide) (by decide) ?_
      show Steps p.tables e below (T38.setTop (mkF m 49 #[.val (.int p0), .val (.int (1 : Int32)), .val (.ref aT), .val (.ref aF), .unset, .unset, .unset, .unset] [(.int (1 : Int32))])) _
      refine XS.istore X38.here hx rfl (hb hby at_49) rfl (l' := #[.val (.int p0), .val (.int (1 : Int32)), .val (.ref aT), .val (.ref aF), .val (.int (1 : Int32)), .unset, .unset, .unset]) rfl ?_
      show Steps p.tables e below (T38.setTop (mkF m 51 #[.val (.int p0), .val (.int (1 : Int32)), .val (.ref aT), .val (.ref aF), .val (.int (1 : Int32)), .unset, .unset, .unset] [])) _
      refine XS.aloadN X38.here hx rfl (hb hby at_51) rfl rfl ?_
      show Steps p.tables e below (T38.setTop (mkF m 52 #[.val (.int p0), .val (.int (1 : Int32)), .val (.ref aT), .val (.ref aF), .val (.int (1 : Int32)), .unset, .unset, .unset] [(.ref aT)])) _
      refine st40.trans ?_
      show Steps p.tables e below (T40.setTop (mkF m 55 #[.val (.int p0), .val (.int (1 : Int32)), .val (.ref aT), .val (.ref aF), .val (.int (1 : Int32)), .unset, .unset, .unset] [(.int (1 : Int32))])) _
      refine XS.iloadN X40.here hx rfl (hb hby at_55) rfl ?_
      show Steps p.tables e below (T40.setTop (mkF m 56 #[.val (.int p0), .val (.int (1 : Int32)), .val (.ref aT), .val (.ref aF), .val (.int (1 : Int32)), .unset, .unset, .unset] [(.int (1 : Int32)), (.int (1 : Int32))])) _
      refine XS.icmpNo X40.here hx rfl (hb hby at_56) rfl (teq (rfl : (1 : Int32) = (1 : Int32))).2 ?_
      show Steps p.tables e below (T40.setTop (mkF m 59 #[.val (.int p0), .val (.int (1 : Int32)), .val (.ref aT), .val (.ref aF), .val (.int (1 : Int32)), .unset, .unset, .unset] [])) _
      refine XS.iconst X40.here hx rfl (hb hby at_59) ?_
      show Steps p.tables e below (T40.setTop (mkF m 60 #[.val (.int p0), .val (.int (1 : Int32)), .val (.ref aT), .val (.ref aF), .val (.int (1 : Int32)), .unset, .unset, .unset] [(.int (1 : Int32))])) _
      refine XS.goto X40.here hx rfl (pc0 := 60) (pc' := 64) rfl (hb hby at_60) (by decide) (by decide) ?_
      exact kt
    have zs45 : n0 ≤ h0.size := Nat.le_trans Z0 K0.1
    obtain ⟨cq47, kq47, q47a, q47b, q47c⟩ := isOf hZ eq42 E_T
    obtain ⟨_, _, ⟨T46, L46, k46, n46⟩, -, X46, ⟨Lc46, hQ46, l46, y46, z46⟩, st46⟩ := X40.virtualBack hx (y := (⟨"com/example/interleaving/interleaving/values/BoolValue", "kind", "()Lcom/example/interleaving/interleaving/values/Value$Kind;"⟩ : MethodName)) (z := (⟨"com/example/interleaving/interleaving/values/BoolValue", "kind", "()Lcom/example/interleaving/interleaving/values/Value$Kind;"⟩ : MethodName)) hown (mvT hZ (hw _ (List.mem_of_getElem? (i := 17) rfl))) (mvT hZ (hw _ (List.mem_of_getElem? (i := 18) rfl))) (notFace_of_selects (args := #[]) (mvT hZ (hw _ (List.mem_of_getElem? (i := 20) rfl)))) (mvT hZ (hw _ (List.mem_of_getElem? (i := 20) rfl))) (mvT hZ (hw _ (List.mem_of_getElem? (i := 19) rfl))) (by decide) (backOf (W := 0) (own_rm_kind l Z a0 hw [] aT aB h0 n0 zs45 S_B) hZ (hw _ (List.mem_of_getElem? (i := 21) rfl)) (hw _ (List.mem_of_getElem? (i := 2) rfl)) (by decide) (by decide)) q47a q47c (g := (mkF m 79 #[.val (.int p0), .val (.int (1 : Int32)), .val (.ref aT), .val (.ref aF), .val (.int (1 : Int32)), .val (.int (1 : Int32)), .val (.int (1 : Int32)), .unset] [(.ref aT)])) rfl (by rw [hml]; rfl) (Steps.refl _) (argsL := []) (rest := []) (lenOf own_pd2 rfl) rfl (by show 2 * 0 + _ ≤ _; exact Nat.le_of_eq rfl) (hb hby at_79) (fun _ _ => ⟨rfl, eq42, (by decide : 0 + 0 ≤ _), (by decide : 0 + 0 ≤ _)⟩)
    dsimp only [Pt.U, Pt.locs, Pt.cells, Pt.slots] at X46 l46 y46 z46 st46 hQ46
    rw [l46, (y46 : k46 = 0), (z46 : n46 = 0)] at X46
    clear l46 y46 z46
    obtain ⟨rfl, N48, eq48⟩ := hQ46
    have nf49 := Fr.app nf43 N48
    obtain ⟨T50, X50, e50, st50⟩ := getS2 X46 hx hZ hown (host := "") (Or.inl (hw _ (List.mem_of_getElem? (i := 25) rfl))) Via.refl eq48 S_B (g := (mkF m 82 #[.val (.int p0), .val (.int (1 : Int32)), .val (.ref aT), .val (.ref aF), .val (.int (1 : Int32)), .val (.int (1 : Int32)), .val (.int (1 : Int32)), .unset] [(.ref aB)])) rfl (hb hby at_82)
    have pre51 : ∀ t, Steps p.tables e below (T50.setTop (mkF m 89 #[.val (.int p0), .val (.int (1 : Int32)), .val (.ref aT), .val (.ref aF), .val (.int (1 : Int32)), .val (.int (1 : Int32)), .val (.int (1 : Int32)), .unset] [(.int (1 : Int32))])) t → Steps p.tables e below (s₁.setTop (entryFrame m #[(.int p0)] maxLocals)) t := by
      intro t kt
      refine pre44 t ?_
      show Steps p.tables e below (T40.setTop (mkF m 64 #[.val (.int p0), .val (.int (1 : Int32)), .val (.ref aT), .val (.ref aF), .val (.int (1 : Int32)), .unset, .unset, .unset] [(.int (1 : Int32))])) _
      refine XS.istore X40.here hx rfl (hb hby at_64) rfl (l' := #[.val (.int p0), .val (.int (1 : Int32)), .val (.ref aT), .val (.ref aF), .val (.int (1 : Int32)), .val (.int (1 : Int32)), .unset, .unset]) rfl ?_
      show Steps p.tables e below (T40.setTop (mkF m 66 #[.val (.int p0), .val (.int (1 : Int32)), .val (.ref aT), .val (.ref aF), .val (.int (1 : Int32)), .val (.int (1 : Int32)), .unset, .unset] [])) _
      refine XS.aloadN X40.here hx rfl (hb hby at_66) rfl rfl ?_
      show Steps p.tables e below (T40.setTop (mkF m 67 #[.val (.int p0), .val (.int (1 : Int32)), .val (.ref aT), .val (.ref aF), .val (.int (1 : Int32)), .val (.int (1 : Int32)), .unset, .unset] [(.ref aT)])) _
      refine XS.aloadN X40.here hx rfl (hb hby at_67) rfl rfl ?_
      show Steps p.tables e below (T40.setTop (mkF m 68 #[.val (.int p0), .val (.int (1 : Int32)), .val (.ref aT), .val (.ref aF), .val (.int (1 : Int32)), .val (.int (1 : Int32)), .unset, .unset] [(.ref aF), (.ref aT)])) _
      refine Jvm.RoadKit.acmp (g := (mkF m 68 #[.val (.int p0), .val (.int (1 : Int32)), .val (.ref aT), .val (.ref aF), .val (.int (1 : Int32)), .val (.int (1 : Int32)), .unset, .unset] [(.ref aF), (.ref aT)])) X40 hx rfl rfl rfl (pc0 := 68) (pc' := 71) (same := false) rfl (hb hby at_68) rfl (decide_eq_false fun q => (Ne.symm neq) (Value.ref.inj q)) (by decide) (by decide) ?_
      show Steps p.tables e below (T40.setTop (mkF m 71 #[.val (.int p0), .val (.int (1 : Int32)), .val (.ref aT), .val (.ref aF), .val (.int (1 : Int32)), .val (.int (1 : Int32)), .unset, .unset] [])) _
      refine XS.iconst X40.here hx rfl (hb hby at_71) ?_
      show Steps p.tables e below (T40.setTop (mkF m 72 #[.val (.int p0), .val (.int (1 : Int32)), .val (.ref aT), .val (.ref aF), .val (.int (1 : Int32)), .val (.int (1 : Int32)), .unset, .unset] [(.int (1 : Int32))])) _
      refine XS.goto X40.here hx rfl (pc0 := 72) (pc' := 76) rfl (hb hby at_72) (by decide) (by decide) ?_
      show Steps p.tables e below (T40.setTop (mkF m 76 #[.val (.int p0), .val (.int (1 : Int32)), .val (.ref aT), .val (.ref aF), .val (.int (1 : Int32)), .val (.int (1 : Int32)), .unset, .unset] [(.int (1 : Int32))])) _
      refine XS.istore X40.here hx rfl (hb hby at_76) rfl (l' := #[.val (.int p0), .val (.int (1 : Int32)), .val (.ref aT), .val (.ref aF), .val (.int (1 : Int32)), .val (.int (1 : Int32)), .val (.int (1 : Int32)), .unset]) rfl ?_
      show Steps p.tables e below (T40.setTop (mkF m 78 #[.val (.int p0), .val (.int (1 : Int32)), .val (.ref aT), .val (.ref aF), .val (.int (1 : Int32)), .val (.int (1 : Int32)), .val (.int (1 : Int32)), .unset] [])) _
      refine XS.aloadN X40.here hx rfl (hb hby at_78) rfl rfl ?_
      show Steps p.tables e below (T40.setTop (mkF m 79 #[.val (.int p0), .val (.int (1 : Int32)), .val (.ref aT), .val (.ref aF), .val (.int (1 : Int32)), .val (.int (1 : Int32)), .val (.int (1 : Int32)), .unset] [(.ref aT)])) _
      refine st46.trans ?_
      show Steps p.tables e below (T46.setTop (mkF m 82 #[.val (.int p0), .val (.int (1 : Int32)), .val (.ref aT), .val (.ref aF), .val (.int (1 : Int32)), .val (.int (1 : Int32)), .val (.int (1 : Int32)), .unset] [(.ref aB)])) _
      refine st50 _ ?_
      show Steps p.tables e below (T50.setTop (mkF m 85 #[.val (.int p0), .val (.int (1 : Int32)), .val (.ref aT), .val (.ref aF), .val (.int (1 : Int32)), .val (.int (1 : Int32)), .val (.int (1 : Int32)), .unset] [(.ref aB), (.ref aB)])) _
      refine Jvm.RoadKit.acmp (g := (mkF m 85 #[.val (.int p0), .val (.int (1 : Int32)), .val (.ref aT), .val (.ref aF), .val (.int (1 : Int32)), .val (.int (1 : Int32)), .val (.int (1 : Int32)), .unset] [(.ref aB), (.ref aB)])) X50 hx rfl rfl rfl (pc0 := 85) (pc' := 88) (same := true) rfl (hb hby at_85) rfl (decide_eq_true rfl) (by decide) (by decide) ?_
      show Steps p.tables e below (T50.setTop (mkF m 88 #[.val (.int p0), .val (.int (1 : Int32)), .val (.ref aT), .val (.ref aF), .val (.int (1 : Int32)), .val (.int (1 : Int32)), .val (.int (1 : Int32)), .unset] [])) _
      refine XS.iconst X50.here hx rfl (hb hby at_88) ?_
      exact kt
    have pre52 : ∀ t, Steps p.tables e below (T50.setTop (mkF m 120 #[.val (.int p0), .val (.int (1 : Int32)), .val (.ref aT), .val (.ref aF), .val (.int (1 : Int32)), .val (.int (1 : Int32)), .val (.int (1 : Int32)), .val (.int (1 : Int32))] [(.int (1 : Int32))])) t → Steps p.tables e below (s₁.setTop (entryFrame m #[(.int p0)] maxLocals)) t := by
      intro t kt
      refine pre51 t ?_
      show Steps p.tables e below (T50.setTop (mkF m 89 #[.val (.int p0), .val (.int (1 : Int32)), .val (.ref aT), .val (.ref aF), .val (.int (1 : Int32)), .val (.int (1 : Int32)), .val (.int (1 : Int32)), .unset] [(.int (1 : Int32))])) _
      refine XS.goto X50.here hx rfl (pc0 := 89) (pc' := 93) rfl (hb hby at_89) (by decide) (by decide) ?_
      show Steps p.tables e below (T50.setTop (mkF m 93 #[.val (.int p0), .val (.int (1 : Int32)), .val (.ref aT), .val (.ref aF), .val (.int (1 : Int32)), .val (.int (1 : Int32)), .val (.int (1 : Int32)), .unset] [(.int (1 : Int32))])) _
      refine XS.istore X50.here hx rfl (hb hby at_93) rfl (l' := #[.val (.int p0), .val (.int (1 : Int32)), .val (.ref aT), .val (.ref aF), .val (.int (1 : Int32)), .val (.int (1 : Int32)), .val (.int (1 : Int32)), .val (.int (1 : Int32))]) rfl ?_
      show Steps p.tables e below (T50.setTop (mkF m 95 #[.val (.int p0), .val (.int (1 : Int32)), .val (.ref aT), .val (.ref aF), .val (.int (1 : Int32)), .val (.int (1 : Int32)), .val (.int (1 : Int32)), .val (.int (1 : Int32))] [])) _
      refine XS.iload X50.here hx rfl (hb hby at_95) rfl ?_
      show Steps p.tables e below (T50.setTop (mkF m 97 #[.val (.int p0), .val (.int (1 : Int32)), .val (.ref aT), .val (.ref aF), .val (.int (1 : Int32)), .val (.int (1 : Int32)), .val (.int (1 : Int32)), .val (.int (1 : Int32))] [(.int (1 : Int32))])) _
      refine XS.ifNo X50.here hx rfl (hb hby at_97) rfl ((if0 _ _).trans (feq (by decide : ¬ ((1 : Int32) = (0 : Int32)))).1) ?_
      show Steps p.tables e below (T50.setTop (mkF m 100 #[.val (.int p0), .val (.int (1 : Int32)), .val (.ref aT), .val (.ref aF), .val (.int (1 : Int32)), .val (.int (1 : Int32)), .val (.int (1 : Int32)), .val (.int (1 : Int32))] [])) _
      refine XS.iload X50.here hx rfl (hb hby at_100) rfl ?_
      show Steps p.tables e below (T50.setTop (mkF m 102 #[.val (.int p0), .val (.int (1 : Int32)), .val (.ref aT), .val (.ref aF), .val (.int (1 : Int32)), .val (.int (1 : Int32)), .val (.int (1 : Int32)), .val (.int (1 : Int32))] [(.int (1 : Int32))])) _
      refine XS.ifNo X50.here hx rfl (hb hby at_102) rfl ((if0 _ _).trans (feq (by decide : ¬ ((1 : Int32) = (0 : Int32)))).1) ?_
      show Steps p.tables e below (T50.setTop (mkF m 105 #[.val (.int p0), .val (.int (1 : Int32)), .val (.ref aT), .val (.ref aF), .val (.int (1 : Int32)), .val (.int (1 : Int32)), .val (.int (1 : Int32)), .val (.int (1 : Int32))] [])) _
      refine XS.iload X50.here hx rfl (hb hby at_105) rfl ?_
      show Steps p.tables e below (T50.setTop (mkF m 107 #[.val (.int p0), .val (.int (1 : Int32)), .val (.ref aT), .val (.ref aF), .val (.int (1 : Int32)), .val (.int (1 : Int32)), .val (.int (1 : Int32)), .val (.int (1 : Int32))] [(.int (1 : Int32))])) _
      refine XS.ifNo X50.here hx rfl (hb hby at_107) rfl ((if0 _ _).trans (feq (by decide : ¬ ((1 : Int32) = (0 : Int32)))).1) ?_
      show Steps p.tables e below (T50.setTop (mkF m 110 #[.val (.int p0), .val (.int (1 : Int32)), .val (.ref aT), .val (.ref aF), .val (.int (1 : Int32)), .val (.int (1 : Int32)), .val (.int (1 : Int32)), .val (.int (1 : Int32))] [])) _
      refine XS.iload X50.here hx rfl (hb hby at_110) rfl ?_
      show Steps p.tables e below (T50.setTop (mkF m 112 #[.val (.int p0), .val (.int (1 : Int32)), .val (.ref aT), .val (.ref aF), .val (.int (1 : Int32)), .val (.int (1 : Int32)), .val (.int (1 : Int32)), .val (.int (1 : Int32))] [(.int (1 : Int32))])) _
      refine XS.ifNo X50.here hx rfl (hb hby at_112) rfl ((if0 _ _).trans (feq (by decide : ¬ ((1 : Int32) = (0 : Int32)))).1) ?_
      show Steps p.tables e below (T50.setTop (mkF m 115 #[.val (.int p0), .val (.int (1 : Int32)), .val (.ref aT), .val (.ref aF), .val (.int (1 : Int32)), .val (.int (1 : Int32)), .val (.int (1 : Int32)), .val (.int (1 : Int32))] [])) _
      refine XS.iconst X50.here hx rfl (hb hby at_115) ?_
      show Steps p.tables e below (T50.setTop (mkF m 116 #[.val (.int p0), .val (.int (1 : Int32)), .val (.ref aT), .val (.ref aF), .val (.int (1 : Int32)), .val (.int (1 : Int32)), .val (.int (1 : Int32)), .val (.int (1 : Int32))] [(.int (1 : Int32))])) _
      refine XS.goto X50.here hx rfl (pc0 := 116) (pc' := 120) rfl (hb hby at_116) (by decide) (by decide) ?_
      exact kt
    obtain ⟨fs, hr, hrun, hended, hW, hsame⟩ := X50.leave (v := some (.int (1 : Int32))) (fun h => by rw [Bd.returns] at h; cases h)
    refine ⟨_, _, pre52 _ ?_, hrun, hended, _, _, rfl, ?_, ⟨_, rfl⟩, hW, hsame.mono (by decide) (by decide)⟩
    · show Steps p.tables e below (T50.setTop (mkF m 120 #[.val (.int p0), .val (.int (1 : Int32)), .val (.ref aT), .val (.ref aF), .val (.int (1 : Int32)), .val (.int (1 : Int32)), .val (.int (1 : Int32)), .val (.int (1 : Int32))] [(.int (1 : Int32))])) _
      exact retN X50 hx (t := .boolean) Bd.returns (by simp) (hb hby at_120) hr
    · show own_Q_law Z p0 aT aF aB h0 n0 (some (.int (1 : Int32))) T50.heap _
      rw [e50]
      exact ⟨rfl, nf49⟩
set_option maxRecDepth 65536 in
set_option maxHeartbeats 40000000 in
theorem own_comes {Post : Tables → Env → Array Value → State → Outcome → State → Prop} (hpost : ∀ tb e args s v u, (limb_1_1.after args s (.returned v) u = true ∧ limb_1_2.after args s (.returned v) u = true ∧ True) → FrameEnd s (.returned v) u (Jvm.fieldLocs frame_1_writes args s ++ Jvm.arrayLocs frame_1_arrays args s ++ Jvm.staticLocs frame_1_statics s) 0 0 → Post tb e args s (.returned v) u) :
    ArmFor flags0 classFile x code maxLocals ret World_1 tables_1 room_1 Calls_1 rest_1 Pre_1 Post := by
  intro l hfl _ _ p e ha hc hk s m args below hf hA hF happ hP
  obtain ⟨hcalls, hrest, hpre⟩ := hP
  obtain ⟨-, -, -, hnamed, -, -, -, hat⟩ := (Spec.applies_iff hf).mp happ
  obtain ⟨hg, hn⟩ := and_e (Cond.before_iff.mp (show (Jvm.Cond.and given_1 narrow_1).before args s = true from hpre))
  obtain ⟨hcount, hq0⟩ := and_e hg
  have hi0 := hq0
  obtain ⟨w0, rfl⟩ : ∃ w0 : Value, args = #[w0] := by
    have hs : args.size = 1 := by simpa [Cond.value, given_1] using hcount
    obtain ⟨L⟩ := args
    match L, hs with
    | [w0], _ => exact ⟨w0, rfl⟩
  have hw := fun d (hd : d ∈ tables_1) => atoms_spec (ws := Jvm.Cond.code x code maxLocals ret :: tables_1) hat d (List.mem_cons_of_mem _ hd)
  have hfit : Fit s := fun {y c} hc i hi => by
    obtain ⟨ha, rfl⟩ := Array.getElem?_eq_some_iff.mp hc
    have q := List.all_eq_true.mp ((Array.all_eq_true_iff_forall_mem.mp hF) _ (Array.getElem_mem ha)) i (List.mem_range.mpr hi)
    simpa [Array.getElem?_eq_getElem hi] using q
  obtain ⟨i0, ei0⟩ := is_v hi0
  obtain rfl : w0 = (.int i0) := Option.some.inj ei0
  obtain ⟨c1, r1⟩ := and_e hn
  obtain ⟨c2, r2⟩ := and_e r1
  obtain ⟨c3, r3⟩ := and_e r2
  obtain ⟨c4, r4⟩ := and_e r3
  obtain ⟨c5, c6⟩ := and_e r4
  obtain ⟨aF, evF⟩ := exa_v c1
  obtain ⟨aT, evT⟩ := exa_v c2
  obtain ⟨aB, evB⟩ := exa_v c5
  have S_B := Sta.start evB (Or.inr ⟨(hw _ (List.mem_of_getElem? (i := 23) rfl)), (hw _ (List.mem_of_getElem? (i := 24) rfl))⟩)
  have S_F := Sta.start evF (Or.inr ⟨(hw _ (List.mem_of_getElem? (i := 2) rfl)), (hw _ (List.mem_of_getElem? (i := 5) rfl))⟩)
  have E_F := Exa.start evF c1
  have F_F := own_fldI evF c4
  have S_T := Sta.start evT (Or.inr ⟨(hw _ (List.mem_of_getElem? (i := 2) rfl)), (hw _ (List.mem_of_getElem? (i := 7) rfl))⟩)
  have E_T := Exa.start evT c2
  have F_T := own_fldI evT c6
  have neq := own_neR evF evT c3
  obtain ⟨n, o, h1, h2, h3, _, L, rfl, ⟨rfl, N⟩, hq⟩ := own_rm_law l s _ hw tables_1 i0 aT aF aB s.heap s.heap.size (Nat.le_refl _) S_T S_F S_B E_T E_F F_T F_F neq p e ha hc hk s m _ below hf ((Spec.applies_iff_loose hf).mp happ).1 ⟨rfl, State.Warmed39.refl s, rfl⟩ trivial
  refine ⟨n, _, h1, h2, h3, hpost _ _ _ _ _ _ ⟨Cond.after_iff.mpr rfl, Cond.after_iff.mpr (eq_i res_at (Term.int_eval (1)) rfl), trivial⟩ ⟨hq.1, hq.2.1, (hq.2.2.sift fun y hy => Or.inr (N y hy)).mono (by decide) (by decide)⟩⟩
theorem main_1_1 : Claimed_1_1 := own_comes fun _ _ _ _ _ _ h hF => ⟨h.1, hF⟩
theorem main_1_2 : Claimed_1_2 := own_comes fun _ _ _ _ _ _ h hF => ⟨h.2.1, hF⟩
end Jvm.Pilot.@@N@@
namespace Jvm.Pilot.@@N@@
open Jvm Jvm.ClassFile Sem Op Lib Jvm.Free Jvm.Stand Jvm.Pilot.@@N@@.Jvm.D
/-! MADE BY PROGRAM (witnessworld.py) out of the Statement's table words and the real class files: 14 classes; the members and pool entries that the words name. The judged class is class 1, her method 1. -/
namespace start1
open Jvm.ClassFile
def u (s : String) : CpInfo := .utf8 (stringToUtf16 s)
/-- a pool by its gaps: so many unusable entries, then the entry; so many at the end -/
def gap : Nat → List CpInfo → List CpInfo
  | 0, r => r
  | n + 1, r => .unusable :: gap n r
def poolList (es : List (Nat × CpInfo)) (last : Nat) : List CpInfo := es.foldr (fun e r => gap e.1 (e.2 :: r)) (gap last [])
def pool (es : List (Nat × CpInfo)) (last : Nat) : Array CpInfo := ⟨poolList es last⟩
def fileOf (pool : Array CpInfo) (this : Nat) (attrs : Array Attribute := #[]) (ms : Array MethodInfo := #[]) (fl : Nat := 33) (sup : Nat := 0) (ifs : Array Nat := #[]) (fds : Array FieldInfo := #[]) : ClassFile where
  minorVersion := 0
  majorVersion := 65
  constantPool := pool
  accessFlags := fl
  thisClass := this
  superClass := sup
  interfaces := ifs
  fields := fds
  methods := ms
  attributes := attrs
def plain (name : String) (sup : Option ClassId) : Class where
  name := name
  kind := .ordinary
  loader := none
  accessFlags := 33
  super := sup
  interfaces := #[]
  cf := none
  fields := #[]
  methods := #[]
  instanceTypes := #[]
  staticTypes := #[]
  resolved := #[]
  callSites := []
  init := .initialized
  statics := none
  mirror := none

def pool0 : Array CpInfo := pool [(5, u "<init>"), (0, u "()V"), (1, .class_ 10), (1, u "java/lang/Object")] 113

def k0m0 : Method := { name := "<init>", desc := "()V", sig := { parameters := [], returnType := none }, accessFlags := 1, code := none }
/-- java/lang/Object -/
def k0 : Class := { plain "java/lang/Object" none with
  accessFlags := 33
  interfaces := #[]
  cf := some (fileOf pool0 8 #[] #[{ accessFlags := 1, nameIndex := 5, descriptorIndex := 6, attributes := #[] }] 33 0 #[] #[])
  fields := #[]
  methods := #[k0m0]
  instanceTypes := #[]
  staticTypes := #[]
  resolved := Array.replicate 124 none
  statics := none }

def pool1 : Array CpInfo := pool [(2, .class_ 4), (1, u "java/lang/Object"), (0, u "<init>"), (0, u "()V"), (0, .methodref 8 9), (0, .class_ 10), (0, .nameAndType 11 12), (0, u "com/example/interleaving/interleaving/values/BoolValue"), (0, u "of"), (0, u "(Z)Lcom/example/interleaving/interleaving/values/BoolValue;"), (0, .fieldref 8 14), (0, .nameAndType 15 16), (0, u "TRUE"), (0, u "Lcom/example/interleaving/interleaving/values/BoolValue;"), (0, .fieldref 8 18), (0, .nameAndType 19 16), (0, u "FALSE"), (0, .methodref 8 21), (0, .nameAndType 22 23), (0, u "isTrue"), (0, u "()Z"), (0, .methodref 8 25), (0, .nameAndType 26 27), (0, u "kind"), (0, u "()Lcom/example/interleaving/interleaving/values/Value$Kind;"), (0, .fieldref 29 30), (0, .class_ 31), (0, .nameAndType 32 33), (0, u "com/example/interleaving/interleaving/values/Value$Kind"), (0, u "BOOLEAN"), (0, u "Lcom/example/interleaving/interleaving/values/Value$Kind;"), (0, .class_ 35), (0, u "com/example/interleaving/interleaving/values/BoolValueOfPinLaw"), (2, u "law"), (0, u "(I)Z")] 7

def k1m0 : Method := { name := "<init>", desc := "()V", sig := { parameters := [], returnType := none }, accessFlags := 2, code := none }
def k1c1 : Code := { maxStack := 2, maxLocals := 8, code := code, exceptionTable := #[], attributes := #[] }
def k1m1 : Method := { name := "law", desc := "(I)Z", sig := { parameters := [.int], returnType := some .boolean }, accessFlags := 9, code := some k1c1 }
/-- com/example/interleaving/interleaving/values/BoolValueOfPinLaw -/
def k1 : Class := { plain "com/example/interleaving/interleaving/values/BoolValueOfPinLaw" (some 0) with
  accessFlags := 49
  interfaces := #[]
  cf := some (fileOf pool1 34 #[] #[{ accessFlags := 2, nameIndex := 5, descriptorIndex := 6, attributes := #[] }, { accessFlags := 9, nameIndex := 38, descriptorIndex := 39, attributes := #[] }] 49 2 #[] #[])
  fields := #[]
  methods := #[k1m0, k1m1]
  instanceTypes := #[]
  staticTypes := #[]
  resolved := Array.replicate 47 none
  statics := none }

def pool2 : Array CpInfo := pool [(2, .class_ 4), (1, u "com/example/interleaving/interleaving/values/Value"), (3, .class_ 10), (1, u "com/example/interleaving/interleaving/values/Value$Kind"), (2, .class_ 14), (0, u "java/lang/Object")] 10

/-- com/example/interleaving/interleaving/values/Value -/
def k2 : Class := { plain "com/example/interleaving/interleaving/values/Value" (some 0) with
  accessFlags := 1537
  interfaces := #[]
  cf := some (fileOf pool2 2 #[.nestMembers #[8]] #[] 1537 13 #[] #[])
  fields := #[]
  methods := #[]
  instanceTypes := #[]
  staticTypes := #[]
  resolved := Array.replicate 25 none
  statics := none }

def pool3 : Array CpInfo := pool [(2, .class_ 4), (1, u "java/lang/Object"), (2, .fieldref 8 9), (0, .class_ 10), (0, .nameAndType 11 12), (0, u "com/example/interleaving/interleaving/values/BoolValue"), (0, u "truth"), (0, u "Z"), (0, .fieldref 8 14), (0, .nameAndType 15 16), (0, u "TRUE"), (0, u "Lcom/example/interleaving/interleaving/values/BoolValue;"), (0, .fieldref 8 18), (0, .nameAndType 19 16), (0, u "FALSE"), (0, .fieldref 21 22), (0, .class_ 23), (0, .nameAndType 24 25), (0, u "com/example/interleaving/interleaving/values/Value$Kind"), (0, u "BOOLEAN"), (0, u "Lcom/example/interleaving/interleaving/values/Value$Kind;"), (11, .class_ 38), (0, u "com/example/interleaving/interleaving/values/Value"), (2, u "of"), (0, u "(Z)Lcom/example/interleaving/interleaving/values/BoolValue;"), (1, u "isTrue"), (0, u "()Z"), (0, u "kind"), (0, u "()Lcom/example/interleaving/interleaving/values/Value$Kind;")] 12

def k3c0 : Code := { maxStack := 1, maxLocals := 1, code := prog_122_method_2_code, exceptionTable := #[], attributes := #[] }
def k3m0 : Method := { name := "of", desc := "(Z)Lcom/example/interleaving/interleaving/values/BoolValue;", sig := { parameters := [.boolean], returnType := some (.object "com/example/interleaving/interleaving/values/BoolValue") }, accessFlags := 9, code := some k3c0 }
def k3c1 : Code := { maxStack := 1, maxLocals := 1, code := prog_122_method_3_code, exceptionTable := #[], attributes := #[] }
def k3m1 : Method := { name := "isTrue", desc := "()Z", sig := { parameters := [], returnType := some .boolean }, accessFlags := 1, code := some k3c1 }
def k3c2 : Code := { maxStack := 1, maxLocals := 1, code := prog_122_method_4_code, exceptionTable := #[], attributes := #[] }
def k3m2 : Method := { name := "kind", desc := "()Lcom/example/interleaving/interleaving/values/Value$Kind;", sig := { parameters := [], returnType := some (.object "com/example/interleaving/interleaving/values/Value$Kind") }, accessFlags := 1, code := some k3c2 }
/-- com/example/interleaving/interleaving/values/BoolValue -/
def k3 : Class := { plain "com/example/interleaving/interleaving/values/BoolValue" (some 0) with
  accessFlags := 33
  interfaces := #[2]
  cf := some (fileOf pool3 8 #[] #[{ accessFlags := 9, nameIndex := 41, descriptorIndex := 42, attributes := #[] }, { accessFlags := 1, nameIndex := 44, descriptorIndex := 45, attributes := #[] }, { accessFlags := 1, nameIndex := 46, descriptorIndex := 47, attributes := #[] }] 33 2 #[37] #[{ accessFlags := 25, nameIndex := 15, descriptorIndex := 16, attributes := #[] }, { accessFlags := 25, nameIndex := 19, descriptorIndex := 16, attributes := #[] }, { accessFlags := 18, nameIndex := 11, descriptorIndex := 12, attributes := #[] }])
  fields := #[{ name := "TRUE", type := (.object "com/example/interleaving/interleaving/values/BoolValue"), accessFlags := 25, slot := 0, constantValue := 0 }, { name := "FALSE", type := (.object "com/example/interleaving/interleaving/values/BoolValue"), accessFlags := 25, slot := 1, constantValue := 0 }, { name := "truth", type := .boolean, accessFlags := 18, slot := 0, constantValue := 0 }]
  methods := #[k3m0, k3m1, k3m2]
  instanceTypes := #[.boolean]
  staticTypes := #[(.object "com/example/interleaving/interleaving/values/BoolValue"), (.object "com/example/interleaving/interleaving/values/BoolValue")]
  resolved := Array.replicate 60 none
  statics := some 0 }

def pool4 : Array CpInfo := pool [(1, .class_ 2), (0, u "java/lang/constant/Constable"), (0, .class_ 4), (0, u "java/lang/Object")] 6

/-- java/lang/constant/Constable -/
def k4 : Class := { plain "java/lang/constant/Constable" (some 0) with
  accessFlags := 1537
  interfaces := #[]
  cf := some (fileOf pool4 1 #[] #[] 1537 3 #[] #[])
  fields := #[]
  methods := #[]
  instanceTypes := #[]
  staticTypes := #[]
  resolved := Array.replicate 11 none
  statics := none }

def pool5 : Array CpInfo := pool [(1, .class_ 2), (0, u "java/lang/Comparable"), (0, .class_ 4), (0, u "java/lang/Object")] 7

/-- java/lang/Comparable -/
def k5 : Class := { plain "java/lang/Comparable" (some 0) with
  accessFlags := 1537
  interfaces := #[]
  cf := some (fileOf pool5 1 #[] #[] 1537 3 #[] #[])
  fields := #[]
  methods := #[]
  instanceTypes := #[]
  staticTypes := #[]
  resolved := Array.replicate 12 none
  statics := none }

def pool6 : Array CpInfo := pool [(1, .class_ 2), (0, u "java/io/Serializable"), (0, .class_ 4), (0, u "java/lang/Object")] 2

/-- java/io/Serializable -/
def k6 : Class := { plain "java/io/Serializable" (some 0) with
  accessFlags := 1537
  interfaces := #[]
  cf := some (fileOf pool6 1 #[] #[] 1537 3 #[] #[])
  fields := #[]
  methods := #[]
  instanceTypes := #[]
  staticTypes := #[]
  resolved := Array.replicate 7 none
  statics := none }

def pool7 : Array CpInfo := pool [(2, .class_ 4), (1, u "java/lang/Enum"), (0, u "name"), (0, u "Ljava/lang/String;"), (2, u "ordinal"), (0, u "I"), (1, .class_ 14), (1, u "java/lang/Object"), (4, u "hash"), (86, .class_ 108), (1, u "java/lang/Enum$EnumDesc"), (2, .class_ 112), (0, u "java/lang/constant/Constable"), (0, .class_ 114), (0, u "java/lang/Comparable"), (0, .class_ 116), (0, u "java/io/Serializable")] 87

/-- java/lang/Enum -/
def k7 : Class := { plain "java/lang/Enum" (some 0) with
  accessFlags := 1057
  interfaces := #[4, 5, 6]
  cf := some (fileOf pool7 2 #[.nestMembers #[106]] #[] 1057 12 #[111, 113, 115] #[{ accessFlags := 18, nameIndex := 5, descriptorIndex := 6, attributes := #[] }, { accessFlags := 18, nameIndex := 9, descriptorIndex := 10, attributes := #[] }, { accessFlags := 2, nameIndex := 19, descriptorIndex := 10, attributes := #[] }])
  fields := #[{ name := "name", type := (.object "java/lang/String"), accessFlags := 18, slot := 0, constantValue := 0 }, { name := "ordinal", type := .int, accessFlags := 18, slot := 1, constantValue := 0 }, { name := "hash", type := .int, accessFlags := 2, slot := 2, constantValue := 0 }]
  methods := #[]
  instanceTypes := #[(.object "java/lang/String"), .int, .int]
  staticTypes := #[]
  resolved := Array.replicate 204 none
  statics := none }

def pool8 : Array CpInfo := pool [(1, .class_ 2), (0, u "com/example/interleaving/interleaving/values/Value$Kind"), (2, u "BOOLEAN"), (0, u "Lcom/example/interleaving/interleaving/values/Value$Kind;"), (2, u "INTEGER"), (2, u "STRING"), (2, u "MODEL_VALUE"), (2, u "FUNCTION"), (2, u "SET"), (2, u "$VALUES"), (0, u "[Lcom/example/interleaving/interleaving/values/Value$Kind;"), (6, .class_ 34), (1, u "java/lang/Enum"), (29, .class_ 65), (0, u "com/example/interleaving/interleaving/values/Value")] 2

/-- com/example/interleaving/interleaving/values/Value$Kind -/
def k8 : Class := { plain "com/example/interleaving/interleaving/values/Value$Kind" (some 7) with
  accessFlags := 16433
  interfaces := #[]
  cf := some (fileOf pool8 1 #[.nestHost 64] #[] 16433 32 #[] #[{ accessFlags := 16409, nameIndex := 5, descriptorIndex := 6, attributes := #[] }, { accessFlags := 16409, nameIndex := 9, descriptorIndex := 6, attributes := #[] }, { accessFlags := 16409, nameIndex := 12, descriptorIndex := 6, attributes := #[] }, { accessFlags := 16409, nameIndex := 15, descriptorIndex := 6, attributes := #[] }, { accessFlags := 16409, nameIndex := 18, descriptorIndex := 6, attributes := #[] }, { accessFlags := 16409, nameIndex := 21, descriptorIndex := 6, attributes := #[] }, { accessFlags := 4122, nameIndex := 24, descriptorIndex := 25, attributes := #[] }])
  fields := #[{ name := "BOOLEAN", type := (.object "com/example/interleaving/interleaving/values/Value$Kind"), accessFlags := 16409, slot := 0, constantValue := 0 }, { name := "INTEGER", type := (.object "com/example/interleaving/interleaving/values/Value$Kind"), accessFlags := 16409, slot := 1, constantValue := 0 }, { name := "STRING", type := (.object "com/example/interleaving/interleaving/values/Value$Kind"), accessFlags := 16409, slot := 2, constantValue := 0 }, { name := "MODEL_VALUE", type := (.object "com/example/interleaving/interleaving/values/Value$Kind"), accessFlags := 16409, slot := 3, constantValue := 0 }, { name := "FUNCTION", type := (.object "com/example/interleaving/interleaving/values/Value$Kind"), accessFlags := 16409, slot := 4, constantValue := 0 }, { name := "SET", type := (.object "com/example/interleaving/interleaving/values/Value$Kind"), accessFlags := 16409, slot := 5, constantValue := 0 }, { name := "$VALUES", type := (.array (.object "com/example/interleaving/interleaving/values/Value$Kind")), accessFlags := 4122, slot := 6, constantValue := 0 }]
  methods := #[]
  instanceTypes := #[(.object "java/lang/String"), .int, .int]
  staticTypes := #[(.object "com/example/interleaving/interleaving/values/Value$Kind"), (.object "com/example/interleaving/interleaving/values/Value$Kind"), (.object "com/example/interleaving/interleaving/values/Value$Kind"), (.object "com/example/interleaving/interleaving/values/Value$Kind"), (.object "com/example/interleaving/interleaving/values/Value$Kind"), (.object "com/example/interleaving/interleaving/values/Value$Kind"), (.array (.object "com/example/interleaving/interleaving/values/Value$Kind"))]
  resolved := Array.replicate 68 none
  statics := some 1 }

def pool9 : Array CpInfo := pool [(1, u "java/lang/Cloneable"), (0, .class_ 1), (0, u "java/lang/Object"), (0, .class_ 3)] 3

/-- java/lang/Cloneable -/
def k9 : Class := { plain "java/lang/Cloneable" (some 0) with
  accessFlags := 1537
  interfaces := #[]
  cf := some (fileOf pool9 2 #[] #[] 1537 4 #[] #[])
  fields := #[]
  methods := #[]
  instanceTypes := #[]
  staticTypes := #[]
  resolved := Array.replicate 8 none
  statics := none }

/-- the primitive byte -/
def k10 : Class := { plain "byte" none with kind := .primitive 'B', accessFlags := 0x411 }
/-- [B -/
def k11 : Class := { plain "[B" (some 0) with kind := .array 10 .byte, interfaces := #[9, 6], accessFlags := 1041 }

/-- the primitive int -/
def k12 : Class := { plain "int" none with kind := .primitive 'I', accessFlags := 0x411 }
/-- [I -/
def k13 : Class := { plain "[I" (some 0) with kind := .array 12 .int, interfaces := #[9, 6], accessFlags := 1041 }

def heap : Heap := #[{ cls := 3, slots := #[.ref 2, .ref 3], vm := .statics 3 },
  { cls := 8, slots := #[.ref 4, .null, .null, .null, .null, .null, .null], vm := .statics 8 },
  { cls := 3, slots := #[.int 1], vm := .none },
  { cls := 3, slots := #[.int 0], vm := .none },
  { cls := 8, slots := #[.null, .int 0, .int 0], vm := .none }]
def classes : Array Class := #[k0, k1, k2, k3, k4, k5, k6, k7, k8, k9, k10, k11, k12, k13]
def interned : List (Array UInt16 × Addr) := []
def slotsUsed : Nat := 14
def theMethod : MethodId := ⟨1, 1⟩
def args0 : Array Value := #[.int 5]
def aboutOver (below : List Frame) : State where
  vm := { classes := classes, interned := interned.toArray }
  heap := heap
  slotsUsed := slotsUsed
  threads := #[{ frames := .invoking theMethod args0 :: below }]
def below0 : List Frame := [.native { method := ⟨0, 0⟩, args := #[] }]
def about1 : State := aboutOver below0
def p0 : Program := .bare "" "" ""
def e0 : Env := launch0.env 0 0 0
theorem w_frames : about1.frames = Frame.invoking theMethod args0 :: below0 := rfl
set_option maxRecDepth 65536 in
theorem w_args : argsFit about1.vm theMethod args0 = true := by decide +kernel
set_option maxRecDepth 65536 in
theorem w_heap : heapFits about1 = true := by decide +kernel
set_option maxRecDepth 65536 in
theorem w_runnable : about1.curStatus? = some .runnable := by decide +kernel
set_option maxRecDepth 65536 in
theorem w_alone : about1.alone = true := by decide +kernel
set_option maxRecDepth 65536 in
theorem w_named : about1.methodNamed? x = some theMethod := by decide +kernel
set_option maxRecDepth 65536 in
theorem w_hears : about1.hears theMethod below0 = true := by decide +kernel
set_option maxRecDepth 65536 in
theorem w_ripe : about1.ripe theMethod args0 below0 = true := by decide +kernel
theorem w_running : about1.status = .running := rfl
set_option maxRecDepth 65536 in
theorem w_room : about1.hasRoom e0.platform room_1 = true :=
  launch0.hasRoom_least _ room_1 (by decide +kernel) (by decide +kernel) (by decide +kernel) (by decide +kernel) (by decide +kernel) (by decide +kernel)
theorem allAtoms_all (ts : List Jvm.Cond) (a : Array Jvm.Value) (st : Jvm.State) : (allAtoms ts).before a st = ts.all (fun c => c.before a st) := by
  induction ts with
  | nil => rfl
  | cons c t ih =>
    show (Jvm.Cond.and c (allAtoms t)).before a st = _
    rw [Jvm.Cond.before_and, ih, List.all_cons]
def words1 : List Jvm.Cond := Jvm.Cond.code x code maxLocals ret :: tables_1
/-- a 'code' word, met by the world's own term for the bytes: nothing is compared byte by byte -/
theorem code_word {y : MethodName} {bytes : ByteArray} {mx : Nat} {rt : Option FieldType} {a : Array Value} {s : State} {m : MethodId} {meth : Method} {c : Code} (h1 : s.methodNamed? y = some m) (h2 : s.vm.method? m = some meth) (h3 : meth.code = some c) (h4 : c.code = bytes)
    (h5 : (c.maxLocals == mx && c.exceptionTable.isEmpty && decide (c.maxStack ≤ mostOperands) && decide (meth.sig.returnType = rt) && !meth.locks && decide (parseMethodDescriptor y.desc = some meth.sig)) = true) : (Jvm.Cond.code y bytes mx rt).before a s = true := by
  simp only [Bool.and_eq_true, beq_iff_eq, Bool.not_eq_true', decide_eq_true_eq] at h5
  obtain ⟨⟨⟨⟨⟨g1, g2⟩, g3⟩, g4⟩, g5⟩, g6⟩ := h5
  simp [Cond.before, Cond.holds, Cond.value, h1, h2, h3, h4, g1, g2, g3, g4, g5, g6]
def isCode : Jvm.Cond → Bool
  | .code _ _ _ _ => true
  | _ => false
theorem all_split {L : List Jvm.Cond} {P : Jvm.Cond → Bool} (h1 : L.all (fun c => isCode c || P c) = true) (h2 : ∀ c ∈ L.filter isCode, P c = true) : L.all P = true := by
  refine List.all_eq_true.mpr fun c hc => ?_
  have h := List.all_eq_true.mp h1 c hc
  rcases Bool.eq_false_or_eq_true (isCode c) with hi | hi
  · exact h2 c (List.mem_filter.mpr ⟨hc, hi⟩)
  · simpa [hi] using h
set_option maxRecDepth 65536 in
theorem w_c0 : (Jvm.Cond.code x code maxLocals ret).before args0 about1 = true := code_word (m := ⟨1, 1⟩) (meth := k1m1) (c := k1c1) (by decide +kernel) rfl rfl rfl (by decide +kernel)
set_option maxRecDepth 65536 in
theorem w_c1 : (Jvm.Cond.code ({ cls := "com/example/interleaving/interleaving/values/BoolValue", name := "of", desc := "(Z)Lcom/example/interleaving/interleaving/values/BoolValue;" } : Jvm.MethodName) prog_122_method_2_code (1 : Nat) (Option.some (Jvm.ClassFile.FieldType.object "com/example/interleaving/interleaving/values/BoolValue"))).before args0 about1 = true := code_word (m := ⟨3, 0⟩) (meth := k3m0) (c := k3c0) (by decide +kernel) rfl rfl rfl (by decide +kernel)
set_option maxRecDepth 65536 in
theorem w_c2 : (Jvm.Cond.code ({ cls := "com/example/interleaving/interleaving/values/BoolValue", name := "isTrue", desc := "()Z" } : Jvm.MethodName) prog_122_method_3_code (1 : Nat) (Option.some Jvm.ClassFile.FieldType.boolean)).before args0 about1 = true := code_word (m := ⟨3, 1⟩) (meth := k3m1) (c := k3c1) (by decide +kernel) rfl rfl rfl (by decide +kernel)
set_option maxRecDepth 65536 in
theorem w_c3 : (Jvm.Cond.code ({ cls := "com/example/interleaving/interleaving/values/BoolValue", name := "kind", desc := "()Lcom/example/interleaving/interleaving/values/Value$Kind;" } : Jvm.MethodName) prog_122_method_4_code (1 : Nat) (Option.some (Jvm.ClassFile.FieldType.object "com/example/interleaving/interleaving/values/Value$Kind"))).before args0 about1 = true := code_word (m := ⟨3, 2⟩) (meth := k3m2) (c := k3c2) (by decide +kernel) rfl rfl rfl (by decide +kernel)
def codes1 : List Jvm.Cond := [Jvm.Cond.code x code maxLocals ret, Jvm.Cond.code ({ cls := "com/example/interleaving/interleaving/values/BoolValue", name := "of", desc := "(Z)Lcom/example/interleaving/interleaving/values/BoolValue;" } : Jvm.MethodName) prog_122_method_2_code (1 : Nat) (Option.some (Jvm.ClassFile.FieldType.object "com/example/interleaving/interleaving/values/BoolValue")), Jvm.Cond.code ({ cls := "com/example/interleaving/interleaving/values/BoolValue", name := "isTrue", desc := "()Z" } : Jvm.MethodName) prog_122_method_3_code (1 : Nat) (Option.some Jvm.ClassFile.FieldType.boolean), Jvm.Cond.code ({ cls := "com/example/interleaving/interleaving/values/BoolValue", name := "kind", desc := "()Lcom/example/interleaving/interleaving/values/Value$Kind;" } : Jvm.MethodName) prog_122_method_4_code (1 : Nat) (Option.some (Jvm.ClassFile.FieldType.object "com/example/interleaving/interleaving/values/Value$Kind"))]
set_option maxRecDepth 65536 in
theorem codes_eq : words1.filter isCode = codes1 := rfl
theorem w_codes : ∀ c ∈ words1.filter isCode, c.before args0 about1 = true := by
  rw [codes_eq]
  intro c hc
  simp only [codes1, List.mem_cons, List.not_mem_nil, or_false] at hc
  rcases hc with rfl | rfl | rfl | rfl
  · exact w_c0
  · exact w_c1
  · exact w_c2
  · exact w_c3
set_option maxRecDepth 65536 in
theorem w_t1 : (words1.take 24).all (fun c => isCode c || c.before args0 about1) = true := by decide +kernel
set_option maxRecDepth 65536 in
theorem w_t2 : (words1.drop 24).all (fun c => isCode c || c.before args0 about1) = true := by decide +kernel
theorem w_tables : (allAtoms (Jvm.Cond.code x code maxLocals ret :: tables_1)).before args0 about1 = true := by
  rw [allAtoms_all]
  show words1.all (fun c => c.before args0 about1) = true
  refine all_split ?_ w_codes
  rw [← List.take_append_drop 24 words1, List.all_append, w_t1, w_t2]
  rfl
set_option maxRecDepth 65536 in
theorem w_case : (Jvm.Cond.and given_1 narrow_1).before args0 about1 = true := by decide +kernel
theorem w_applies : (headSpec (Jvm.Cond.code x code maxLocals ret :: tables_1) room_1).applies x e0.platform about1 = true :=
  (Spec.applies_iff w_frames).mpr ⟨w_running, w_runnable, w_alone, w_named, w_hears, w_ripe, w_room, w_tables⟩
theorem atStart : AtStart classFile x code maxLocals ret World_1 tables_1 room_1 Calls_1 rest_1 Pre_1 launch0 p0 e0 about1 theMethod args0 below0 :=
  ⟨lists_1, trivial, launch0.admits_env _ _ _, launch0.least_env, fairChoices_fair.cas, fairChoices_fair.clock, w_frames, w_args, w_heap, w_applies, trivial, trivial, w_case⟩
end start1
theorem witness_1 : WitnessClaimed_1 := ⟨start1.p0, start1.e0, start1.about1, start1.theMethod, start1.args0, start1.below0, start1.atStart⟩
end Jvm.Pilot.@@N@@
