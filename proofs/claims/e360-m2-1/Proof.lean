import JvmDerived
import JvmDerived.Pilot.@@N@@Statement
import JvmDerived.Pilot.@@N@@Code
set_option linter.unusedVariables false
set_option linter.unusedSimpArgs false
namespace Jvm.RoadKit
open Sem ClassFile Op Lib Jvm.Stand Jvm.Free Jvm.LawKit
section New
variable {p : Program} {l : Launch} {e : Env} {R : Room} {s : State} {m : MethodId} {args : Array Value} {below : List Frame} {meth : Method} {c : Code} {T : State} {locs : List Loc} {cells slots : Nat}
theorem retI (X : Stand p l e R s m args below meth c T locs cells slots) (hx : p.tables.exec = Jvm.exec) {pc : Nat} {Ls : Array Slot} {z : Int32} {rest : List Value} (hret : meth.sig.returnType = some .int) (hd : decode c.code pc = .ok (.ireturn, 1)) {fs : List Frame}
    (hl : ∀ (f : JFrame) (acts : List Action), f.method = m → f.locked = none → f.entered = [] → (doReturn e (T.setTop f) acts (some (.int z))).1 = T.setFrames fs) : Steps p.tables e below (T.setTop (mkF m pc Ls (.int z :: rest))) (T.setFrames fs) := by
  have hm' : T.vm.method? m = some meth := X.method'
  have hn : narrow .int (.int z) = .int z := rfl
  show Steps p.tables e below (T.setTop { method := m, pc := pc, locals := Ls, stack := _ :: rest, locked := none }) _
  jvm_step X.here [X.here.top, hx, hd, hm', hret, hn]
  first | (intro acts; rw [hl _ acts rfl rfl rfl]) | rw [hl _ _ rfl rfl rfl]
  exact Steps.refl _
end New
end Jvm.RoadKit
namespace Jvm.Pilot.@@N@@
open Jvm Jvm.ClassFile Sem Op Lib Jvm.Free Jvm.Stand Jvm.LawKit Jvm.RoadKit Bundle Jvm.Pilot.@@N@@.Jvm.D
def own_A (Z : State) (h : Heap) (a : Addr) (n : Nat) (f : Nat → Int32) : Prop := ∃ c : Cell, Arr Z h a c .int ∧ c.slots.size = n ∧ ∀ j, j < n → c.slots[j]? = some (.int (f j))
def own_upd (f : Nat → Int32) (i : Nat) (x : Int32) : Nat → Int32 := fun j => if j = i then x else f j
section OwnA
variable {Z : State} {h h' : Heap} {a b : Addr} {n : Nat} {f g : Nat → Int32} {sl : Nat} {v : Value} {ws : List Addr} {c : Cell} {j x z : Int32}
theorem own_A.lt (F : own_A Z h a n f) : a < h.size := by obtain ⟨c, A, -⟩ := F; exact A.lt
theorem own_A.ext (F : own_A Z h a n f) (E : Ext h h') : own_A Z h' a n f := by obtain ⟨c, A, r⟩ := F; exact ⟨c, A.ext E, r⟩
theorem own_A.other (F : own_A Z h b n f) (W : Wr h h' a sl v) (q : b ≠ a) : own_A Z h' b n f := by obtain ⟨c, A, r⟩ := F; exact ⟨c, A.other W q, r⟩
theorem own_A.keep (F : own_A Z h a n f) (K : Keep h h' ws) (q : a ∉ ws) : own_A Z h' a n f := by obtain ⟨c, A, r⟩ := F; exact ⟨c, ⟨K.2.1 a c A.1 q, A.2⟩, r⟩
theorem own_A.set {i : Nat} (F : own_A Z h a n f) (W : Wr h h' a i (.int x)) : own_A Z h' a n (own_upd f i x) := by
  obtain ⟨c, A, S, H⟩ := F
  have hi : i < c.slots.size := by obtain ⟨c2, e1, -, e3, -⟩ := W; cases A.1.symm.trans e1; exact e3
  refine ⟨_, A.same W, by rw [sz_set]; exact S, fun k hk => ?_⟩
  by_cases u : k = i
  · subst u; simp [Cell.setSlot, own_upd, hi]
  · simp only [Cell.setSlot, own_upd, if_neg u]; rw [Array.getElem?_setIfInBounds_ne (Ne.symm u)]; exact H k hk
theorem own_A.congr (F : own_A Z h a n f) (q : ∀ j, j < n → f j = g j) : own_A Z h a n g := by obtain ⟨c, A, S, H⟩ := F; exact ⟨c, A, S, fun j hj => by rw [← q j hj]; exact H j hj⟩
theorem own_A.new {k : ClassId} (A : Arr Z h a (newA k .int z) .int) (e : z.toNatClampNeg = n) : own_A Z h a n (fun _ => 0) := ⟨_, A, by rw [sz_new]; exact e, fun i hi => by simp [newA, e, hi, defaultValue]⟩
theorem own_inb (S : c.slots.size = n) (q1 : ¬ j < 0) (q2 : j.toNatClampNeg < n) : ¬ (j < 0 ∨ c.slots.size ≤ j.toNatClampNeg) := by rw [S]; intro y; rcases y with y | y; exact q1 y; omega
theorem own_len (S : c.slots.size = n) (q : n.toInt32 = z) : c.slots.size.toInt32 = z := by rw [S]; exact q
theorem own_A.arv (F : own_A Z h a n f) (hn : n < 2 ^ 31) : ∃ k, Arv Z h a k .int (Int32.ofNat n) ((List.range n).map fun j => .int (f j)) (.int 0) := by
  obtain ⟨c, A, S, H⟩ := F
  have e : (Int32.ofNat n).toInt = n := Int32.toInt_ofNat_of_lt (by omega)
  have gt : ∀ i, i < n → ((List.range n).map fun j => Value.int (f j)).getD i (.int 0) = .int (f i) := fun i hi => by simp [List.getD_eq_getElem?_getD, hi]
  refine ⟨c.cls, c, A, rfl, by simp only [Int32.toNatClampNeg, e]; omega, by rw [Int32.lt_iff_toInt_lt, e]; show ¬ (n : Int) < 0; omega, fun i hi => ?_, fun i hi => ?_⟩
  · rw [gt i (by omega)]; exact H i (by omega)
  · rw [gt i (by omega)]; rfl
end OwnA
section OwnCp
variable {p : Program} {l : Launch} {e : Env} {R : Room} {s : State} {m : MethodId} {args : Array Value} {below : List Frame} {meth : Method} {c : Code} {T : State} {locs : List Loc} {cells slots : Nat} {Z : State} {h : Heap} {a b : Addr}
theorem own_cp (X : Stand p l e R s m args below meth c T locs cells slots) (hx : p.tables.exec = Jvm.exec) (hZ : Z.Warmed39 s.vm) {a0 : Array Value} {own : String} {index : Nat} (hown : s.vm.findClass own = some m.cls)
    (w1 : (Jvm.Cond.methodLink own index Jvm.Stand.acN).before a0 Z = true) (w2 : (Jvm.Cond.native Jvm.Stand.acN).before a0 Z = true) (w3 : (Jvm.Cond.static Jvm.Stand.acN).before a0 Z = true) (w4 : (Jvm.Cond.initialized "java/lang/System").before a0 Z = true) (eT : T.heap = h)
    {N M k : Nat} {f g' : Nat → Int32} {nn : Int32} (A : own_A Z h a N f) (B : own_A Z h b M g') (hN : N < 2 ^ 31) (hM : M < 2 ^ 31) (h3 : ¬ nn < 0) (hk : nn.toNatClampNeg = k) (h4 : k ≤ N) (h5 : k ≤ M) {n0 : Nat} (Nf : Fr n0 locs) (ge : n0 ≤ b)
    {g : JFrame} (hg : g.method = m) (hsize : g.locals.size = c.maxLocals) {rest : List Value} (hs : g.stack = .int nn :: .int 0 :: .ref b :: .int 0 :: .ref a :: rest) (hd : decode c.code g.pc = .ok (.invokestatic index, 3))
    (hf : 1 ≤ R.frames) {W : Nat} (hW : 2 * g.monitorRoom + (rest.map fun v => v.category).sum ≤ W) (hlo : W + (nativeFrameWords "java/lang/System" "arraycopy" 5 + 11) ≤ R.locals) :
    ∃ T' h' L, Stand p l e R s m args below meth c T' L cells slots ∧ T'.heap = h' ∧ Fr n0 L ∧ Keep h h' [b] ∧ own_A Z h' b M (fun j => if j < k then f j else g' j) ∧
      ∀ target, Steps p.tables e below (T'.setTop { g with pc := g.pc + 3, stack := rest }) target → Steps p.tables e below (T.setTop g) target := by
  obtain ⟨ka, Aa⟩ := A.arv hN
  obtain ⟨kb, Ab⟩ := B.arv hM
  have eN : (Int32.ofNat N).toNatClampNeg = N := by have := @Int32.toInt_ofNat_of_lt N (by omega); simp only [Int32.toNatClampNeg, this]; omega
  have eM : (Int32.ofNat M).toNatClampNeg = M := by have := @Int32.toInt_ofNat_of_lt M (by omega); simp only [Int32.toNatClampNeg, this]; omega
  have z0 : (0 : Int32).toNatClampNeg = 0 := rfl
  obtain ⟨T', h', L, X', e', F', K', A', st⟩ := cpA X hx hZ hown w1 w2 w3 w4 eT (us := (List.range k).map fun j => .int (f j)) Aa Ab (Or.inl ⟨rfl, rfl⟩) (sp := 0) (dp := 0) (nn := nn) (by decide) (by decide) h3 (by rw [z0, eN, hk]; omega) (by rw [z0, eM, hk]; omega)
    (by
      rw [hk, z0]
      refine List.map_congr_left fun i hi => ?_
      have hi' := List.mem_range.mp hi
      simp [List.getD_eq_getElem?_getD, show i < N by omega])
    (by rw [z0, hk]; simp; omega) Nf ge hg hsize hs hd hf hW hlo
  refine ⟨T', h', L, X', e', F', K', ?_, st⟩
  obtain ⟨cl, Ar, -, S, -, H, -⟩ := A'
  rw [eM] at S
  refine ⟨cl, Ar, S, fun j hj => ?_⟩
  rw [H j (by omega), z0, hk]
  congr 1
  simp only [List.getD_eq_getElem?_getD, List.take_zero, List.nil_append, Nat.zero_add]
  by_cases u : j < k
  · rw [List.getElem?_append_left (by simp; exact u)]; simp [u]
  · rw [List.getElem?_append_right (by simp; omega)]; simp only [List.length_map, List.length_range, List.getElem?_drop]
    rw [show k + (j - k) = j by omega]; simp [u, hj]
theorem own_cl (X : Stand p l e R s m args below meth c T locs cells slots) (hx : p.tables.exec = Jvm.exec) (hZ : Z.Warmed39 s.vm) {a0 : Array Value} {own ad : String} {index : Nat} (hown : s.vm.findClass own = some m.cls)
    (w1 : (Jvm.Cond.methodLink own index ⟨ad, "clone", "()Ljava/lang/Object;"⟩).before a0 Z = true) (w2 : (Jvm.Cond.sameMethod ad "java/lang/Object" "clone" "()Ljava/lang/Object;").before a0 Z = true) (w3 : (Jvm.Cond.native ⟨"java/lang/Object", "clone", "()Ljava/lang/Object;"⟩).before a0 Z = true)
    (w4 : (Jvm.Cond.instanceMethod ⟨"java/lang/Object", "clone", "()Ljava/lang/Object;"⟩).before a0 Z = true) (w5 : (Jvm.Cond.selects ad ⟨ad, "clone", "()Ljava/lang/Object;"⟩ ⟨"java/lang/Object", "clone", "()Ljava/lang/Object;"⟩).before a0 Z = true) (w6 : (Jvm.Cond.castable ad "java/lang/Cloneable").before a0 Z = true)
    (eT : T.heap = h) {N : Nat} {f : Nat → Int32} (A : own_A Z h a N f) (hN : N < 2 ^ 31) (E : Exa Z h a ad) {g : JFrame} (hg : g.method = m) (hsize : g.locals.size = c.maxLocals) {rest : List Value} (hst : g.stack = .ref a :: rest) (hd : decode c.code g.pc = .ok (.invokevirtual index, 3))
    (hf : 1 ≤ R.frames) {W cap : Nat} (hW : 2 * g.monitorRoom + (rest.map fun v => v.category).sum ≤ W) (hl : W + 14 ≤ R.locals) (hcap : N ≤ cap) (hc : cells + 1 ≤ R.cells) (hsl : slots + cap ≤ R.slots) :
    ∃ T' h', Stand p l e R s m args below meth c T' locs (cells + 1) (slots + cap) ∧ T'.heap = h' ∧ Ext h h' ∧ own_A Z h' h.size N f ∧ Exa Z h' h.size ad ∧
      ∀ target, Steps p.tables e below (T'.setTop { g with pc := g.pc + 3, stack := .ref h.size :: rest }) target → Steps p.tables e below (T.setTop g) target := by
  obtain ⟨ka, Aa⟩ := A.arv hN
  have eN : (Int32.ofNat N).toNatClampNeg = N := by have := @Int32.toInt_ofNat_of_lt N (by omega); simp only [Int32.toNatClampNeg, this]; omega
  obtain ⟨T', h', X', e', ex, A', E', st⟩ := cloneH X hx hZ hown w1 w2 w3 w4 w5 w6 eT Aa.arh E hg hsize hst hd hf hW hl (by rw [eN]; exact hcap) hc hsl
  refine ⟨T', h', X', e', ex, ?_, E', st⟩
  obtain ⟨cl, Ar, -, S, -, H, -⟩ := A'
  rw [eN] at S
  refine ⟨cl, Ar, S, fun j hj => ?_⟩
  rw [H j (by omega)]
  simp [getH, List.getD_eq_getElem?_getD, hj]
end OwnCp
def own_min (x y : Int32) : Int32 := if y < x then y else x
theorem own_ofI {m : Nat} (h : m ≤ 32) : (Int32.ofNat m).toInt = m := Int32.toInt_ofNat_of_lt (by omega)
theorem own_ofN {m : Nat} (h : m ≤ 32) : (Int32.ofNat m).toNatClampNeg = m := by simp only [Int32.toNatClampNeg, own_ofI h]; omega
theorem own_of0 {m : Nat} (h : m ≤ 32) : ¬ Int32.ofNat m < 0 := by rw [Int32.lt_iff_toInt_lt, own_ofI h]; show ¬ (m : Int) < 0; omega
theorem own_inj {m n : Nat} (hm : m ≤ 32) (hn : n ≤ 32) (e : Int32.ofNat m = Int32.ofNat n) : m = n := by
  have := congrArg Int32.toInt e; rw [own_ofI hm, own_ofI hn] at this; omega
theorem own_zne {z : Int32} {N m : Nat} (hz : z = Int32.ofNat m) (hne : ¬ N = m) (hN : N ≤ 32) (hm : m ≤ 32) : ¬ z = Int32.ofNat N := fun e => hne (own_inj hm hN (hz.symm.trans e)).symm
theorem own_zeq {z : Int32} {N m : Nat} (hz : z = Int32.ofNat m) (hc : z = Int32.ofNat N) (hN : N ≤ 32) (hm : m ≤ 32) : N = m := (own_inj hm hN (hz.symm.trans hc)).symm
theorem own_mn {z : Int32} {N m : Nat} (hz : z = Int32.ofNat m) (hN : N ≤ 32) (hm : m ≤ 32) : own_min (Int32.ofNat N) z = Int32.ofNat (min N m) := by
  subst hz; simp only [own_min, Int32.lt_iff_toInt_lt, own_ofI hN, own_ofI hm]
  by_cases u : m < N
  · rw [if_pos (by omega), Nat.min_eq_right (by omega)]
  · rw [if_neg (by omega), Nat.min_eq_left (by omega)]
theorem own_mn0 {z : Int32} {N m : Nat} (hz : z = Int32.ofNat m) (hN : N ≤ 32) (hm : m ≤ 32) : ¬ own_min (Int32.ofNat N) z < 0 := by rw [own_mn hz hN hm]; exact own_of0 (by omega)
theorem own_mnk {z : Int32} {N m : Nat} (hz : z = Int32.ofNat m) (hN : N ≤ 32) (hm : m ≤ 32) : (own_min (Int32.ofNat N) z).toNatClampNeg = min N m := by rw [own_mn hz hN hm]; exact own_ofN (by omega)
theorem own_of1 (k : Nat) : Int32.ofNat k + 1 = Int32.ofNat (k + 1) := (Int32.ofNat_add k 1).symm
theorem own_d_jdk_29_method_69_0 : decode jdk_29_method_69_code 0 = .ok (.iload_n 0, 1) := by decide +kernel
theorem own_d_jdk_29_method_69_1 : decode jdk_29_method_69_code 1 = .ok (.iload_n 1, 1) := by decide +kernel
theorem own_d_jdk_29_method_69_2 : decode jdk_29_method_69_code 2 = .ok (.if_icmp .gt 7, 3) := by decide +kernel
theorem own_d_jdk_29_method_69_5 : decode jdk_29_method_69_code 5 = .ok (.iload_n 0, 1) := by decide +kernel
theorem own_d_jdk_29_method_69_6 : decode jdk_29_method_69_code 6 = .ok (.goto 4, 3) := by decide +kernel
theorem own_d_jdk_29_method_69_9 : decode jdk_29_method_69_code 9 = .ok (.iload_n 1, 1) := by decide +kernel
theorem own_d_jdk_29_method_69_10 : decode jdk_29_method_69_code 10 = .ok (.ireturn, 1) := by decide +kernel
theorem own_ef_min (m : MethodId) (p1 : Int32) (p2 : Int32) : entryFrame m #[(.int p1), (.int p2)] 2 = mkF m 0 #[.val (.int p1), .val (.int p2)] [] := by first | (simp [entryFrame, mkF, argsToLocals, Value.category]; done) | rfl
def own_Q_min (Z : State) (p1 : Int32) (p2 : Int32) (h0 : Heap) (n0 : Nat) (v : Option Value) (h : Heap) (L : List Loc) : Prop := v = some (.int (own_min p1 p2)) ∧ Fr n0 L ∧ h = h0
set_option maxRecDepth 65536 in
set_option maxHeartbeats 40000000 in
theorem own_rm_min (l : Launch) (Z : State) (a0 : Array Value) (hw : ∀ d ∈ tables_1, d.before a0 Z = true) (ws : List Jvm.Cond) (p1 : Int32) (p2 : Int32) (h0 : Heap) (n0 : Nat) (Z0 : n0 ≤ h0.size) :
    MetFree l (⟨"java/lang/Math", "min", "(II)I"⟩ : MethodName) (head1 (Jvm.Cond.code (⟨"java/lang/Math", "min", "(II)I"⟩ : MethodName) jdk_29_method_69_code 2 (some .int) :: ws) ({ frames := 0, cells := 0, slots := 0, locals := 0 } : Room)) (fun a U => a = #[(.int p1), (.int p2)] ∧ Z.Warmed39 U.vm ∧ U.heap = h0) (fun _ _ _ _ _ => True) (fun _ U o U' => ∃ v L, o = .returned v ∧ own_Q_min Z p1 p2 h0 n0 v U'.heap L ∧ FrameEnd U o U' L ({ frames := 0, cells := 0, slots := 0, locals := 0 } : Room).cells ({ frames := 0, cells := 0, slots := 0, locals := 0 } : Room).slots) := by
  refine MetFree.of_bodySF (Jvm.Free.JP.mathPlain rfl (by decide +kernel)) hisR ?_
  intro p e s m args below meth c s₁ Bd hml0 hP hK
  obtain ⟨rfl, hZ, hh⟩ := hP
  have hx := Bd.exec
  have hby := Bd.bytes
  have hml : c.maxLocals = 2 := hml0
  have hown : s.vm.findClass "java/lang/Math" = some m.cls := findClass_of_methodNamed Bd.named
  have hnm := (name_of_methodNamed Bd.named Bd.method).1
  have X0 : Stand p l e ({ frames := 0, cells := 0, slots := 0, locals := 0 } : Room) s m #[(.int p1), (.int p2)] below meth c s₁ [] 0 0 := Stand.of_body Bd
  have e0 : s₁.heap = h0 := by rw [← hh, Bd.state]; rfl
  have N0 := Fr.nil n0
  have K0 : Keep h0 h0 [] := Keep.refl _ _
  have pre0 : ∀ t, Steps p.tables e below (s₁.setTop (mkF m 0 #[.val (.int p1), .val (.int p2)] [])) t → Steps p.tables e below (s₁.setTop (entryFrame m #[(.int p1), (.int p2)] 2)) t := fun t k => castTop (own_ef_min m p1 p2) k
  have pre1 : ∀ t, Steps p.tables e below (s₁.setTop (mkF m 2 #[.val (.int p1), .val (.int p2)] [(.int p2), (.int p1)])) t → Steps p.tables e below (s₁.setTop (entryFrame m #[(.int p1), (.int p2)] 2)) t := by
    intro t kt
    refine pre0 t ?_
    show Steps p.tables e below (s₁.setTop (mkF m 0 #[.val (.int p1), .val (.int p2)] [])) _
    refine XS.iloadN X0.here hx rfl (hb hby own_d_jdk_29_method_69_0) rfl ?_
    show Steps p.tables e below (s₁.setTop (mkF m 1 #[.val (.int p1), .val (.int p2)] [(.int p1)])) _
    refine XS.iloadN X0.here hx rfl (hb hby own_d_jdk_29_method_69_1) rfl ?_
    exact kt
  by_cases hc2 : p2 < p1
  · have pre3 : ∀ t, Steps p.tables e below (s₁.setTop (mkF m 10 #[.val (.int p1), .val (.int p2)] [(.int p2)])) t → Steps p.tables e below (s₁.setTop (entryFrame m #[(.int p1), (.int p2)] 2)) t := by
      intro t kt
      refine pre1 t ?_
      show Steps p.tables e below (s₁.setTop (mkF m 2 #[.val (.int p1), .val (.int p2)] [(.int p2), (.int p1)])) _
      refine XS.icmpYes X0.here hx rfl (pc0 := 2) (pc' := 9) rfl (hb hby own_d_jdk_29_method_69_2) rfl (tlt hc2).2.2.1 (by decide) (by decide) ?_
      show Steps p.tables e below (s₁.setTop (mkF m 9 #[.val (.int p1), .val (.int p2)] [])) _
      refine XS.iloadN X0.here hx rfl (hb hby own_d_jdk_29_method_69_9) rfl ?_
      exact kt
    obtain ⟨fs, hr, hrun, hended, hW, hsame⟩ := X0.leave (v := some (.int p2)) (fun h => by rw [Bd.returns] at h; cases h)
    refine ⟨_, _, pre3 _ ?_, hrun, hended, _, _, rfl, ?_, ⟨_, rfl⟩, hW, hsame.mono (by decide) (by decide)⟩
    · show Steps p.tables e below (s₁.setTop (mkF m 10 #[.val (.int p1), .val (.int p2)] [(.int p2)])) _
      exact retI X0 hx Bd.returns (hb hby own_d_jdk_29_method_69_10) hr
    · show own_Q_min Z p1 p2 h0 n0 (some (.int p2)) s₁.heap _
      rw [e0]
      exact ⟨by simp [own_min, hc2], N0, rfl⟩
  · have pre4 : ∀ t, Steps p.tables e below (s₁.setTop (mkF m 10 #[.val (.int p1), .val (.int p2)] [(.int p1)])) t → Steps p.tables e below (s₁.setTop (entryFrame m #[(.int p1), (.int p2)] 2)) t := by
      intro t kt
      refine pre1 t ?_
      show Steps p.tables e below (s₁.setTop (mkF m 2 #[.val (.int p1), .val (.int p2)] [(.int p2), (.int p1)])) _
      refine XS.icmpNo X0.here hx rfl (hb hby own_d_jdk_29_method_69_2) rfl (flt hc2).2.2.1 ?_
      show Steps p.tables e below (s₁.setTop (mkF m 5 #[.val (.int p1), .val (.int p2)] [])) _
      refine XS.iloadN X0.here hx rfl (hb hby own_d_jdk_29_method_69_5) rfl ?_
      show Steps p.tables e below (s₁.setTop (mkF m 6 #[.val (.int p1), .val (.int p2)] [(.int p1)])) _
      refine XS.goto X0.here hx rfl (pc0 := 6) (pc' := 10) rfl (hb hby own_d_jdk_29_method_69_6) (by decide) (by decide) ?_
      exact kt
    obtain ⟨fs, hr, hrun, hended, hW, hsame⟩ := X0.leave (v := some (.int p1)) (fun h => by rw [Bd.returns] at h; cases h)
    refine ⟨_, _, pre4 _ ?_, hrun, hended, _, _, rfl, ?_, ⟨_, rfl⟩, hW, hsame.mono (by decide) (by decide)⟩
    · show Steps p.tables e below (s₁.setTop (mkF m 10 #[.val (.int p1), .val (.int p2)] [(.int p1)])) _
      exact retI X0 hx Bd.returns (hb hby own_d_jdk_29_method_69_10) hr
    · show own_Q_min Z p1 p2 h0 n0 (some (.int p1)) s₁.heap _
      rw [e0]
      exact ⟨by simp [own_min, hc2], N0, rfl⟩
theorem own_d_jdk_65_method_123_0 : decode jdk_65_method_123_code 0 = .ok (.iload_n 1, 1) := by decide +kernel
theorem own_d_jdk_65_method_123_1 : decode jdk_65_method_123_code 1 = .ok (.aload_n 0, 1) := by decide +kernel
theorem own_d_jdk_65_method_123_2 : decode jdk_65_method_123_code 2 = .ok (.arraylength, 1) := by decide +kernel
theorem own_d_jdk_65_method_123_3 : decode jdk_65_method_123_code 3 = .ok (.if_icmp .ne 11, 3) := by decide +kernel
theorem own_d_jdk_65_method_123_6 : decode jdk_65_method_123_code 6 = .ok (.aload_n 0, 1) := by decide +kernel
theorem own_d_jdk_65_method_123_7 : decode jdk_65_method_123_code 7 = .ok (.invokevirtual 316, 3) := by decide +kernel
theorem own_d_jdk_65_method_123_10 : decode jdk_65_method_123_code 10 = .ok (.checkcast 317, 3) := by decide +kernel
theorem own_d_jdk_65_method_123_13 : decode jdk_65_method_123_code 13 = .ok (.areturn, 1) := by decide +kernel
theorem own_d_jdk_65_method_123_14 : decode jdk_65_method_123_code 14 = .ok (.iload_n 1, 1) := by decide +kernel
theorem own_d_jdk_65_method_123_15 : decode jdk_65_method_123_code 15 = .ok (.newarray .int, 2) := by decide +kernel
theorem own_d_jdk_65_method_123_17 : decode jdk_65_method_123_code 17 = .ok (.astore_n 2, 1) := by decide +kernel
theorem own_d_jdk_65_method_123_18 : decode jdk_65_method_123_code 18 = .ok (.aload_n 0, 1) := by decide +kernel
theorem own_d_jdk_65_method_123_19 : decode jdk_65_method_123_code 19 = .ok (.iconst 0, 1) := by decide +kernel
theorem own_d_jdk_65_method_123_20 : decode jdk_65_method_123_code 20 = .ok (.aload_n 2, 1) := by decide +kernel
theorem own_d_jdk_65_method_123_21 : decode jdk_65_method_123_code 21 = .ok (.iconst 0, 1) := by decide +kernel
theorem own_d_jdk_65_method_123_22 : decode jdk_65_method_123_code 22 = .ok (.aload_n 0, 1) := by decide +kernel
theorem own_d_jdk_65_method_123_23 : decode jdk_65_method_123_code 23 = .ok (.arraylength, 1) := by decide +kernel
theorem own_d_jdk_65_method_123_24 : decode jdk_65_method_123_code 24 = .ok (.iload_n 1, 1) := by decide +kernel
theorem own_d_jdk_65_method_123_25 : decode jdk_65_method_123_code 25 = .ok (.invokestatic 304, 3) := by decide +kernel
theorem own_d_jdk_65_method_123_28 : decode jdk_65_method_123_code 28 = .ok (.invokestatic 150, 3) := by decide +kernel
theorem own_d_jdk_65_method_123_31 : decode jdk_65_method_123_code 31 = .ok (.aload_n 2, 1) := by decide +kernel
theorem own_d_jdk_65_method_123_32 : decode jdk_65_method_123_code 32 = .ok (.areturn, 1) := by decide +kernel
theorem own_pd0 : parseMethodDescriptor "(II)I" = some ⟨[.int, .int], some .int⟩ := by decide +kernel
theorem own_pn0 : plainName "java/util/Arrays" = true := by first | (simp [plainName, overriddenIn]; done) | decide +kernel
theorem own_ef_cpo (m : MethodId) (b : Addr) (z : Int32) : entryFrame m #[(.ref b), (.int z)] 3 = mkF m 0 #[.val (.ref b), .val (.int z), .unset] [] := by first | (simp [entryFrame, mkF, argsToLocals, Value.category]; done) | rfl
def own_Q_cpo (Z : State) (b : Addr) (z : Int32) (N : Nat) (m_ : Nat) (f : Nat → Int32) (h0 : Heap) (n0 : Nat) (v : Option Value) (h : Heap) (L : List Loc) : Prop := ∃ r : Addr, v = some (.ref r) ∧ Fr n0 L ∧ Keep h0 h [] ∧ h0.size ≤ r ∧ own_A Z h r m_ (fun j => if j < N then f j else 0) ∧ Exa Z h r "[I"
set_option maxRecDepth 65536 in
set_option maxHeartbeats 40000000 in
theorem own_rm_cpo (l : Launch) (Z : State) (a0 : Array Value) (hw : ∀ d ∈ tables_1, d.before a0 Z = true) (ws : List Jvm.Cond) (b : Addr) (z : Int32) (N : Nat) (m_ : Nat) (f : Nat → Int32) (h0 : Heap) (n0 : Nat) (Z0 : n0 ≤ h0.size) (A1 : own_A Z h0 b N f) (hz : z = Int32.ofNat m_) (hN : N ≤ 32) (hm : m_ ≤ 32) (E1 : Exa Z h0 b "[I") :
    MetFree l (⟨"java/util/Arrays", "copyOf", "([II)[I"⟩ : MethodName) (head1 (Jvm.Cond.code (⟨"java/util/Arrays", "copyOf", "([II)[I"⟩ : MethodName) jdk_65_method_123_code 3 (some (.array .int)) :: ws) ({ frames := 1, cells := 1, slots := 32, locals := 40 } : Room)) (fun a U => a = #[(.ref b), (.int z)] ∧ Z.Warmed39 U.vm ∧ U.heap = h0) (fun _ _ _ _ _ => True) (fun _ U o U' => ∃ v L, o = .returned v ∧ own_Q_cpo Z b z N m_ f h0 n0 v U'.heap L ∧ FrameEnd U o U' L ({ frames := 1, cells := 1, slots := 32, locals := 40 } : Room).cells ({ frames := 1, cells := 1, slots := 32, locals := 40 } : Room).slots) := by
  refine MetFree.of_bodySF (plainFor_of_name own_pn0) hisR ?_
  intro p e s m args below meth c s₁ Bd hml0 hP hK
  obtain ⟨rfl, hZ, hh⟩ := hP
  have hx := Bd.exec
  have hby := Bd.bytes
  have hml : c.maxLocals = 3 := hml0
  have hown : s.vm.findClass "java/util/Arrays" = some m.cls := findClass_of_methodNamed Bd.named
  have hnm := (name_of_methodNamed Bd.named Bd.method).1
  have X0 : Stand p l e ({ frames := 1, cells := 1, slots := 32, locals := 40 } : Room) s m #[(.ref b), (.int z)] below meth c s₁ [] 0 0 := Stand.of_body Bd
  have e0 : s₁.heap = h0 := by rw [← hh, Bd.state]; rfl
  have N0 := Fr.nil n0
  have K0 : Keep h0 h0 [] := Keep.refl _ _
  have pre0 : ∀ t, Steps p.tables e below (s₁.setTop (mkF m 0 #[.val (.ref b), .val (.int z), .unset] [])) t → Steps p.tables e below (s₁.setTop (entryFrame m #[(.ref b), (.int z)] 3)) t := fun t k => castTop (own_ef_cpo m b z) k
  obtain ⟨cl1, Ar1, S1, -⟩ := id A1
  have pre2 : ∀ t, Steps p.tables e below (s₁.setTop (mkF m 3 #[.val (.ref b), .val (.int z), .unset] [(.int (Int32.ofNat N)), (.int z)])) t → Steps p.tables e below (s₁.setTop (entryFrame m #[(.ref b), (.int z)] 3)) t := by
    intro t kt
    refine pre0 t ?_
    show Steps p.tables e below (s₁.setTop (mkF m 0 #[.val (.ref b), .val (.int z), .unset] [])) _
    refine XS.iloadN X0.here hx rfl (hb hby own_d_jdk_65_method_123_0) rfl ?_
    show Steps p.tables e below (s₁.setTop (mkF m 1 #[.val (.ref b), .val (.int z), .unset] [(.int z)])) _
    refine XS.aloadN X0.here hx rfl (hb hby own_d_jdk_65_method_123_1) rfl rfl ?_
    show Steps p.tables e below (s₁.setTop (mkF m 2 #[.val (.ref b), .val (.int z), .unset] [(.ref b), (.int z)])) _
    refine X0.arraylength hx (by rw [e0]; exact Ar1.1) (State.isArrayOf_alike hZ.alike Ar1.2.1) (g := (mkF m 2 #[.val (.ref b), .val (.int z), .unset] [(.ref b), (.int z)])) rfl rfl (hb hby own_d_jdk_65_method_123_2) _ ?_
    rw [own_len (z := (Int32.ofNat N)) S1 rfl]
    exact kt
  by_cases hc3 : z = (Int32.ofNat N)
  · obtain ⟨T4, h4, X4, e4, E4, A4, I4, st4⟩ := own_cl X0 hx hZ hown (hw _ (List.mem_of_getElem? (i := 53) rfl)) (hw _ (List.mem_of_getElem? (i := 54) rfl)) (hw _ (List.mem_of_getElem? (i := 58) rfl)) (hw _ (List.mem_of_getElem? (i := 56) rfl)) (hw _ (List.mem_of_getElem? (i := 57) rfl)) (hw _ (List.mem_of_getElem? (i := 59) rfl)) e0 A1 (by omega) E1 (g := (mkF m 7 #[.val (.ref b), .val (.int z), .unset] [(.ref b)])) rfl (by rw [hml]; rfl) (rest := []) rfl (hb hby own_d_jdk_65_method_123_7) (by decide) (W := 0) (cap := 32) (by show 2 * 0 + _ ≤ _; exact Nat.le_of_eq rfl) (by decide) hN (by decide) (by decide)
    obtain ⟨b4, g4⟩ : ∃ z, z = h0.size := ⟨_, rfl⟩
    rw [← g4] at A4 I4 st4
    have sz_b4 : h0.size ≤ b4 := Nat.le_trans K0.1 (Nat.le_of_eq g4.symm)
    have gn_b4 : n0 ≤ b4 := Nat.le_trans Z0 sz_b4
    have ne_b_b4 : b ≠ b4 := Nat.ne_of_lt (Nat.lt_of_lt_of_le E1.lt (Nat.le_of_eq g4.symm))
    have f5 := A1.ext E4
    have f6 := E1.ext E4
    have k7 := K0.ext E4
    obtain ⟨T8, X8, e8, st8⟩ := castY X4 hx hZ hown (hw _ (List.mem_of_getElem? (i := 60) rfl)) e4 (Ins.self I4) (g := (mkF m 10 #[.val (.ref b), .val (.int z), .unset] [(.ref b4)])) rfl rfl (hb hby own_d_jdk_65_method_123_10)
    have pre9 : ∀ t, Steps p.tables e below (T8.setTop (mkF m 13 #[.val (.ref b), .val (.int z), .unset] [(.ref b4)])) t → Steps p.tables e below (s₁.setTop (entryFrame m #[(.ref b), (.int z)] 3)) t := by
      intro t kt
      refine pre2 t ?_
      show Steps p.tables e below (s₁.setTop (mkF m 3 #[.val (.ref b), .val (.int z), .unset] [(.int (Int32.ofNat N)), (.int z)])) _
      refine XS.icmpNo X0.here hx rfl (hb hby own_d_jdk_65_method_123_3) rfl (teq hc3).2 ?_
      show Steps p.tables e below (s₁.setTop (mkF m 6 #[.val (.ref b), .val (.int z), .unset] [])) _
      refine XS.aloadN X0.here hx rfl (hb hby own_d_jdk_65_method_123_6) rfl rfl ?_
      show Steps p.tables e below (s₁.setTop (mkF m 7 #[.val (.ref b), .val (.int z), .unset] [(.ref b)])) _
      refine st4 _ ?_
      show Steps p.tables e below (T4.setTop (mkF m 10 #[.val (.ref b), .val (.int z), .unset] [(.ref b4)])) _
      refine st8 _ ?_
      exact kt
    obtain ⟨fs, hr, hrun, hended, hW, hsame⟩ := X8.leave (v := some (.ref b4)) (fun h => by rw [Bd.returns] at h; cases h)
    refine ⟨_, _, pre9 _ ?_, hrun, hended, _, _, rfl, ?_, ⟨_, rfl⟩, hW, hsame.mono (by decide) (by decide)⟩
    · show Steps p.tables e below (T8.setTop (mkF m 13 #[.val (.ref b), .val (.int z), .unset] [(.ref b4)])) _
      jvm_step X8.here [X8.here.top, hx, (hb hby own_d_jdk_65_method_123_13), X8.method', Bd.returns, Value.isRef, FieldType.isReference]
      first | (intro acts; rw [hr _ acts rfl rfl rfl]) | rw [hr _ _ rfl rfl rfl]
      exact Steps.refl _
    · show own_Q_cpo Z b z N m_ f h0 n0 (some (.ref b4)) T8.heap _
      rw [e8]
      exact ⟨_, rfl, N0, k7, sz_b4, (by have q : N = m_ := own_zeq hz hc3 hN hm; subst q; exact A4.congr fun j hj => (if_pos hj).symm), I4⟩
  · obtain ⟨T10, h10, k10, X10, e10, E10, A10, I10, st10⟩ := newPE X0 hx hZ (hw _ (List.mem_of_getElem? (i := 10) rfl)) e0 (g := (mkF m 15 #[.val (.ref b), .val (.int z), .unset] [(.int z)])) rfl (hb hby own_d_jdk_65_method_123_15) rfl (by rw [hz]; exact own_of0 hm) (cap := 32) (by rw [hz, own_ofN hm]; exact hm) (by decide) (by decide) (by decide) (ad := "[I") rfl
    obtain ⟨b10, g10⟩ : ∃ z, z = h0.size := ⟨_, rfl⟩
    rw [← g10] at A10 I10 st10
    have sz_b10 : h0.size ≤ b10 := Nat.le_trans K0.1 (Nat.le_of_eq g10.symm)
    have gn_b10 : n0 ≤ b10 := Nat.le_trans Z0 sz_b10
    have ne_b_b10 : b ≠ b10 := Nat.ne_of_lt (Nat.lt_of_lt_of_le E1.lt (Nat.le_of_eq g10.symm))
    have f11 := A1.ext E10
    have f12 := E1.ext E10
    have k13 := K0.ext E10
    have f14 : own_A Z h10 b10 m_ (fun _ => 0) := own_A.new A10 (by rw [hz]; exact own_ofN hm)
    obtain ⟨cl15, Ar15, S15, -⟩ := id f11
    have zs16 : n0 ≤ h10.size := Nat.le_trans Z0 k13.1
    obtain ⟨_, _, ⟨T17, L17, k17, n17⟩, -, X17, ⟨Lc17, hQ17, l17, y17, z17⟩, st17⟩ := Jvm.LawKit.callS X10 hx (y := (⟨"java/lang/Math", "min", "(II)I"⟩ : MethodName)) hown (mvT hZ (hw _ (List.mem_of_getElem? (i := 34) rfl))) (mvT hZ (hw _ (List.mem_of_getElem? (i := 35) rfl))) (mvT hZ (hw _ (List.mem_of_getElem? (i := 36) rfl))) (mvT hZ (hw _ (List.mem_of_getElem? (i := 37) rfl))) (by decide) (backOf (W := 4) (own_rm_min l Z a0 hw [] (Int32.ofNat N) z h10 n0 zs16 ) hZ (hw _ (List.mem_of_getElem? (i := 37) rfl)) (hw _ (List.mem_of_getElem? (i := 36) rfl)) (by decide) (by decide)) (g := (mkF m 25 #[.val (.ref b), .val (.int z), .val (.ref b10)] [(.int z), (.int (Int32.ofNat N)), (.int (0 : Int32)), (.ref b10), (.int (0 : Int32)), (.ref b)])) rfl (by rw [hml]; rfl) (argsL := [(.int (Int32.ofNat N)), (.int z)]) (rest := [(.int (0 : Int32)), (.ref b10), (.int (0 : Int32)), (.ref b)]) (lenOf own_pd0 rfl) rfl (by show 2 * 0 + _ ≤ _; exact Nat.le_of_eq rfl) (hb hby own_d_jdk_65_method_123_25) (fun _ _ => ⟨rfl, e10, (by decide : 1 + 0 ≤ _), (by decide : 32 + 0 ≤ _)⟩)
    dsimp only [Pt.U, Pt.locs, Pt.cells, Pt.slots] at X17 l17 y17 z17 st17 hQ17
    rw [l17, (y17 : k17 = 1), (z17 : n17 = 32)] at X17
    clear l17 y17 z17
    obtain ⟨rfl, N18, eq18⟩ := hQ17
    have nf19 := Fr.app N0 N18
    have pre20 : ∀ t, Steps p.tables e below (T17.setTop (mkF m 28 #[.val (.ref b), .val (.int z), .val (.ref b10)] [(.int (own_min (Int32.ofNat N) z)), (.int (0 : Int32)), (.ref b10), (.int (0 : Int32)), (.ref b)])) t → Steps p.tables e below (s₁.setTop (entryFrame m #[(.ref b), (.int z)] 3)) t := by
      intro t kt
      refine pre2 t ?_
      show Steps p.tables e below (s₁.setTop (mkF m 3 #[.val (.ref b), .val (.int z), .unset] [(.int (Int32.ofNat N)), (.int z)])) _
      refine XS.icmpYes X0.here hx rfl (pc0 := 3) (pc' := 14) rfl (hb hby own_d_jdk_65_method_123_3) rfl (feq hc3).2 (by decide) (by decide) ?_
      show Steps p.tables e below (s₁.setTop (mkF m 14 #[.val (.ref b), .val (.int z), .unset] [])) _
      refine XS.iloadN X0.here hx rfl (hb hby own_d_jdk_65_method_123_14) rfl ?_
      show Steps p.tables e below (s₁.setTop (mkF m 15 #[.val (.ref b), .val (.int z), .unset] [(.int z)])) _
      refine st10 _ ?_
      show Steps p.tables e below (T10.setTop (mkF m 17 #[.val (.ref b), .val (.int z), .unset] [(.ref b10)])) _
      refine XS.astoreN X10.here hx rfl (hb hby own_d_jdk_65_method_123_17) rfl rfl (l' := #[.val (.ref b), .val (.int z), .val (.ref b10)]) rfl ?_
      show Steps p.tables e below (T10.setTop (mkF m 18 #[.val (.ref b), .val (.int z), .val (.ref b10)] [])) _
      refine XS.aloadN X10.here hx rfl (hb hby own_d_jdk_65_method_123_18) rfl rfl ?_
      show Steps p.tables e below (T10.setTop (mkF m 19 #[.val (.ref b), .val (.int z), .val (.ref b10)] [(.ref b)])) _
      refine XS.iconst X10.here hx rfl (hb hby own_d_jdk_65_method_123_19) ?_
      show Steps p.tables e below (T10.setTop (mkF m 20 #[.val (.ref b), .val (.int z), .val (.ref b10)] [(.int (0 : Int32)), (.ref b)])) _
      refine XS.aloadN X10.here hx rfl (hb hby own_d_jdk_65_method_123_20) rfl rfl ?_
      show Steps p.tables e below (T10.setTop (mkF m 21 #[.val (.ref b), .val (.int z), .val (.ref b10)] [(.ref b10), (.int (0 : Int32)), (.ref b)])) _
      refine XS.iconst X10.here hx rfl (hb hby own_d_jdk_65_method_123_21) ?_
      show Steps p.tables e below (T10.setTop (mkF m 22 #[.val (.ref b), .val (.int z), .val (.ref b10)] [(.int (0 : Int32)), (.ref b10), (.int (0 : Int32)), (.ref b)])) _
      refine XS.aloadN X10.here hx rfl (hb hby own_d_jdk_65_method_123_22) rfl rfl ?_
      show Steps p.tables e below (T10.setTop (mkF m 23 #[.val (.ref b), .val (.int z), .val (.ref b10)] [(.ref b), (.int (0 : Int32)), (.ref b10), (.int (0 : Int32)), (.ref b)])) _
      refine X10.arraylength hx (by rw [e10]; exact Ar15.1) (State.isArrayOf_alike hZ.alike Ar15.2.1) (g := (mkF m 23 #[.val (.ref b), .val (.int z), .val (.ref b10)] [(.ref b), (.int (0 : Int32)), (.ref b10), (.int (0 : Int32)), (.ref b)])) rfl rfl (hb hby own_d_jdk_65_method_123_23) _ ?_
      rw [own_len (z := (Int32.ofNat N)) S15 rfl]
      show Steps p.tables e below (T10.setTop (mkF m 24 #[.val (.ref b), .val (.int z), .val (.ref b10)] [(.int (Int32.ofNat N)), (.int (0 : Int32)), (.ref b10), (.int (0 : Int32)), (.ref b)])) _
      refine XS.iloadN X10.here hx rfl (hb hby own_d_jdk_65_method_123_24) rfl ?_
      show Steps p.tables e below (T10.setTop (mkF m 25 #[.val (.ref b), .val (.int z), .val (.ref b10)] [(.int z), (.int (Int32.ofNat N)), (.int (0 : Int32)), (.ref b10), (.int (0 : Int32)), (.ref b)])) _
      refine st17 _ ?_
      exact kt
    obtain ⟨T21, h21, L21, X21, e21, NF21, K21, A21, st21⟩ := own_cp X17 hx hZ hown (hw _ (List.mem_of_getElem? (i := 38) rfl)) (hw _ (List.mem_of_getElem? (i := 41) rfl)) (hw _ (List.mem_of_getElem? (i := 39) rfl)) (hw _ (List.mem_of_getElem? (i := 40) rfl)) eq18 f11 f14 (by omega) (by omega) (own_mn0 hz hN hm) (own_mnk hz hN hm) (Nat.min_le_left _ _) (Nat.min_le_right _ _) nf19 gn_b10 (g := (mkF m 28 #[.val (.ref b), .val (.int z), .val (.ref b10)] [(.int (own_min (Int32.ofNat N) z)), (.int (0 : Int32)), (.ref b10), (.int (0 : Int32)), (.ref b)])) rfl (by rw [hml]; rfl) (rest := []) rfl (hb hby own_d_jdk_65_method_123_28) (by decide) (W := 0) (by show 2 * 0 + _ ≤ _; exact Nat.le_of_eq rfl) (by decide)
    have f22 := f11.keep K21 (ninS ne_b_b10 nin0)
    have f23 := f12.keep K21
    have f24 := I10.keep K21
    have k25 := k13.trans K21 (allS (Or.inr sz_b10) all0)
    have pre26 : ∀ t, Steps p.tables e below (T21.setTop (mkF m 32 #[.val (.ref b), .val (.int z), .val (.ref b10)] [(.ref b10)])) t → Steps p.tables e below (s₁.setTop (entryFrame m #[(.ref b), (.int z)] 3)) t := by
      intro t kt
      refine pre20 t ?_
      show Steps p.tables e below (T17.setTop (mkF m 28 #[.val (.ref b), .val (.int z), .val (.ref b10)] [(.int (own_min (Int32.ofNat N) z)), (.int (0 : Int32)), (.ref b10), (.int (0 : Int32)), (.ref b)])) _
      refine st21 _ ?_
      show Steps p.tables e below (T21.setTop (mkF m 31 #[.val (.ref b), .val (.int z), .val (.ref b10)] [])) _
      refine XS.aloadN X21.here hx rfl (hb hby own_d_jdk_65_method_123_31) rfl rfl ?_
      exact kt
    obtain ⟨fs, hr, hrun, hended, hW, hsame⟩ := X21.leave (v := some (.ref b10)) (fun h => by rw [Bd.returns] at h; cases h)
    refine ⟨_, _, pre26 _ ?_, hrun, hended, _, _, rfl, ?_, ⟨_, rfl⟩, hW, hsame.mono (by decide) (by decide)⟩
    · show Steps p.tables e below (T21.setTop (mkF m 32 #[.val (.ref b), .val (.int z), .val (.ref b10)] [(.ref b10)])) _
      jvm_step X21.here [X21.here.top, hx, (hb hby own_d_jdk_65_method_123_32), X21.method', Bd.returns, Value.isRef, FieldType.isReference]
      first | (intro acts; rw [hr _ acts rfl rfl rfl]) | rw [hr _ _ rfl rfl rfl]
      exact Steps.refl _
    · show own_Q_cpo Z b z N m_ f h0 n0 (some (.ref b10)) T21.heap _
      rw [e21]
      exact ⟨_, rfl, NF21, k25, sz_b10, (A21.congr (fun j hj => by by_cases u : j < N <;> simp [u, hj, Nat.lt_min])), f24⟩
theorem own_d_prog_103_method_9_0 : decode prog_103_method_9_code 0 = .ok (.aload_n 0, 1) := by decide +kernel
theorem own_d_prog_103_method_9_1 : decode prog_103_method_9_code 1 = .ok (.getfield 7, 3) := by decide +kernel
theorem own_d_prog_103_method_9_4 : decode prog_103_method_9_code 4 = .ok (.aload_n 0, 1) := by decide +kernel
theorem own_d_prog_103_method_9_5 : decode prog_103_method_9_code 5 = .ok (.getfield 23, 3) := by decide +kernel
theorem own_d_prog_103_method_9_8 : decode prog_103_method_9_code 8 = .ok (.invokestatic 26, 3) := by decide +kernel
theorem own_d_prog_103_method_9_11 : decode prog_103_method_9_code 11 = .ok (.areturn, 1) := by decide +kernel
theorem own_pd1 : parseMethodDescriptor "([II)[I" = some ⟨[(.array .int), .int], some (.array .int)⟩ := by decide +kernel
theorem own_pn1 : plainName "com/example/interleaving/interleaving/store/StateGraph" = true := by first | (simp [plainName, overriddenIn]; done) | decide +kernel
theorem own_ef_ist (m : MethodId) (a1 : Addr) : entryFrame m #[(.ref a1)] 1 = mkF m 0 #[.val (.ref a1)] [] := by first | (simp [entryFrame, mkF, argsToLocals, Value.category]; done) | rfl
def own_Q_ist (Z : State) (a1 : Addr) (b : Addr) (k_ : Nat) (N : Nat) (f : Nat → Int32) (h0 : Heap) (n0 : Nat) (v : Option Value) (h : Heap) (L : List Loc) : Prop := ∃ r : Addr, v = some (.ref r) ∧ Fr n0 L ∧ Keep h0 h [] ∧ h0.size ≤ r ∧ own_A Z h r k_ f
set_option maxRecDepth 65536 in
set_option maxHeartbeats 40000000 in
theorem own_rm_ist (l : Launch) (Z : State) (a0 : Array Value) (hw : ∀ d ∈ tables_1, d.before a0 Z = true) (ws : List Jvm.Cond) (a1 : Addr) (b : Addr) (k_ : Nat) (N : Nat) (f : Nat → Int32) (h0 : Heap) (n0 : Nat) (Z0 : n0 ≤ h0.size) (F1 : Fld Z h0 a1 "com/example/interleaving/interleaving/store/StateGraph" "initial" "[I" (.ref b)) (F2 : Fld Z h0 a1 "com/example/interleaving/interleaving/store/StateGraph" "initialCount" "I" (.int (Int32.ofNat k_))) (A1 : own_A Z h0 b N f) (hk : k_ ≤ N) (hN : N ≤ 32) (E2 : Exa Z h0 b "[I") :
    MetFree l (⟨"com/example/interleaving/interleaving/store/StateGraph", "initialStates", "()[I"⟩ : MethodName) (head1 (Jvm.Cond.code (⟨"com/example/interleaving/interleaving/store/StateGraph", "initialStates", "()[I"⟩ : MethodName) prog_103_method_9_code 1 (some (.array .int)) :: ws) ({ frames := 2, cells := 1, slots := 32, locals := 54 } : Room)) (fun a U => a = #[(.ref a1)] ∧ Z.Warmed39 U.vm ∧ U.heap = h0) (fun _ _ _ _ _ => True) (fun _ U o U' => ∃ v L, o = .returned v ∧ own_Q_ist Z a1 b k_ N f h0 n0 v U'.heap L ∧ FrameEnd U o U' L ({ frames := 2, cells := 1, slots := 32, locals := 54 } : Room).cells ({ frames := 2, cells := 1, slots := 32, locals := 54 } : Room).slots) := by
  refine MetFree.of_bodySF (plainFor_of_name own_pn1) hisR ?_
  intro p e s m args below meth c s₁ Bd hml0 hP hK
  obtain ⟨rfl, hZ, hh⟩ := hP
  have hx := Bd.exec
  have hby := Bd.bytes
  have hml : c.maxLocals = 1 := hml0
  have hown : s.vm.findClass "com/example/interleaving/interleaving/store/StateGraph" = some m.cls := findClass_of_methodNamed Bd.named
  have hnm := (name_of_methodNamed Bd.named Bd.method).1
  have X0 : Stand p l e ({ frames := 2, cells := 1, slots := 32, locals := 54 } : Room) s m #[(.ref a1)] below meth c s₁ [] 0 0 := Stand.of_body Bd
  have e0 : s₁.heap = h0 := by rw [← hh, Bd.state]; rfl
  have N0 := Fr.nil n0
  have K0 : Keep h0 h0 [] := Keep.refl _ _
  have pre0 : ∀ t, Steps p.tables e below (s₁.setTop (mkF m 0 #[.val (.ref a1)] [])) t → Steps p.tables e below (s₁.setTop (entryFrame m #[(.ref a1)] 1)) t := fun t k => castTop (own_ef_ist m a1) k
  obtain ⟨T1, X1, e1, st1⟩ := getF X0 hx hZ hown (host := "") (Or.inl (hw _ (List.mem_of_getElem? (i := 11) rfl))) Via.refl e0 F1 (g := (mkF m 1 #[.val (.ref a1)] [(.ref a1)])) rfl rfl (hb hby own_d_prog_103_method_9_1)
  obtain ⟨T2, X2, e2, st2⟩ := getF X1 hx hZ hown (host := "") (Or.inl (hw _ (List.mem_of_getElem? (i := 28) rfl))) Via.refl e1 F2 (g := (mkF m 5 #[.val (.ref a1)] [(.ref a1), (.ref b)])) rfl rfl (hb hby own_d_prog_103_method_9_5)
  have zs3 : n0 ≤ h0.size := Nat.le_trans Z0 K0.1
  obtain ⟨_, _, ⟨T4, L4, k4, n4⟩, -, X4, ⟨Lc4, hQ4, l4, y4, z4⟩, st4⟩ := Jvm.LawKit.callS X2 hx (y := (⟨"java/util/Arrays", "copyOf", "([II)[I"⟩ : MethodName)) hown (mvT hZ (hw _ (List.mem_of_getElem? (i := 30) rfl))) (mvT hZ (hw _ (List.mem_of_getElem? (i := 31) rfl))) (mvT hZ (hw _ (List.mem_of_getElem? (i := 32) rfl))) (mvT hZ (hw _ (List.mem_of_getElem? (i := 33) rfl))) (by decide) (backOf (W := 0) (own_rm_cpo l Z a0 hw [] b (Int32.ofNat k_) N k_ f h0 n0 zs3 A1 rfl hN (by omega) E2) hZ (hw _ (List.mem_of_getElem? (i := 33) rfl)) (hw _ (List.mem_of_getElem? (i := 32) rfl)) (by decide) (by decide)) (g := (mkF m 8 #[.val (.ref a1)] [(.int (Int32.ofNat k_)), (.ref b)])) rfl (by rw [hml]; rfl) (argsL := [(.ref b), (.int (Int32.ofNat k_))]) (rest := []) (lenOf own_pd1 rfl) rfl (by show 2 * 0 + _ ≤ _; exact Nat.le_of_eq rfl) (hb hby own_d_prog_103_method_9_8) (fun _ _ => ⟨rfl, e2, (by decide : 0 + 1 ≤ _), (by decide : 0 + 32 ≤ _)⟩)
  dsimp only [Pt.U, Pt.locs, Pt.cells, Pt.slots] at X4 l4 y4 z4 st4 hQ4
  rw [l4, (y4 : k4 = 1), (z4 : n4 = 32)] at X4
  clear l4 y4 z4
  obtain ⟨r5, rfl, N5, K5, c5_0, c5_1, c5_2⟩ := hQ4
  have sz_r5 : h0.size ≤ r5 := Nat.le_trans K0.1 c5_0
  have gn_r5 : n0 ≤ r5 := Nat.le_trans Z0 sz_r5
  have ne_a1_r5 : a1 ≠ r5 := Nat.ne_of_lt (Nat.lt_of_lt_of_le F2.lt c5_0)
  have ne_b_r5 : b ≠ r5 := Nat.ne_of_lt (Nat.lt_of_lt_of_le E2.lt c5_0)
  have f6 := F1.keep K5 nin0
  have f7 := F2.keep K5 nin0
  have f8 := A1.keep K5 nin0
  have f9 := E2.keep K5
  have k10 := K0.trans K5 all0
  have nf11 := Fr.app N0 N5
  have pre12 : ∀ t, Steps p.tables e below (T4.setTop (mkF m 11 #[.val (.ref a1)] [(.ref r5)])) t → Steps p.tables e below (s₁.setTop (entryFrame m #[(.ref a1)] 1)) t := by
    intro t kt
    refine pre0 t ?_
    show Steps p.tables e below (s₁.setTop (mkF m 0 #[.val (.ref a1)] [])) _
    refine XS.aloadN X0.here hx rfl (hb hby own_d_prog_103_method_9_0) rfl rfl ?_
    show Steps p.tables e below (s₁.setTop (mkF m 1 #[.val (.ref a1)] [(.ref a1)])) _
    refine st1 _ ?_
    show Steps p.tables e below (T1.setTop (mkF m 4 #[.val (.ref a1)] [(.ref b)])) _
    refine XS.aloadN X1.here hx rfl (hb hby own_d_prog_103_method_9_4) rfl rfl ?_
    show Steps p.tables e below (T1.setTop (mkF m 5 #[.val (.ref a1)] [(.ref a1), (.ref b)])) _
    refine st2 _ ?_
    show Steps p.tables e below (T2.setTop (mkF m 8 #[.val (.ref a1)] [(.int (Int32.ofNat k_)), (.ref b)])) _
    refine st4 _ ?_
    exact kt
  obtain ⟨fs, hr, hrun, hended, hW, hsame⟩ := X4.leave (v := some (.ref r5)) (fun h => by rw [Bd.returns] at h; cases h)
  refine ⟨_, _, pre12 _ ?_, hrun, hended, _, _, rfl, ?_, ⟨_, rfl⟩, hW, hsame.mono (by decide) (by decide)⟩
  · show Steps p.tables e below (T4.setTop (mkF m 11 #[.val (.ref a1)] [(.ref r5)])) _
    jvm_step X4.here [X4.here.top, hx, (hb hby own_d_prog_103_method_9_11), X4.method', Bd.returns, Value.isRef, FieldType.isReference]
    first | (intro acts; rw [hr _ acts rfl rfl rfl]) | rw [hr _ _ rfl rfl rfl]
    exact Steps.refl _
  · show own_Q_ist Z a1 b k_ N f h0 n0 (some (.ref r5)) T4.heap _
    skip
    exact ⟨_, rfl, nf11, k10, sz_r5, c5_1.congr fun j hj => if_pos (by omega)⟩
theorem own_d_prog_103_method_1_0 : decode prog_103_method_1_code 0 = .ok (.aload_n 0, 1) := by decide +kernel
theorem own_d_prog_103_method_1_1 : decode prog_103_method_1_code 1 = .ok (.invokespecial 1, 3) := by decide +kernel
theorem own_d_prog_103_method_1_4 : decode prog_103_method_1_code 4 = .ok (.aload_n 0, 1) := by decide +kernel
theorem own_d_prog_103_method_1_5 : decode prog_103_method_1_code 5 = .ok (.bipush 16, 2) := by decide +kernel
theorem own_d_prog_103_method_1_7 : decode prog_103_method_1_code 7 = .ok (.newarray .int, 2) := by decide +kernel
theorem own_d_prog_103_method_1_9 : decode prog_103_method_1_code 9 = .ok (.putfield 7, 3) := by decide +kernel
theorem own_d_prog_103_method_1_12 : decode prog_103_method_1_code 12 = .ok (.aload_n 0, 1) := by decide +kernel
theorem own_d_prog_103_method_1_13 : decode prog_103_method_1_code 13 = .ok (.sipush 1024, 3) := by decide +kernel
theorem own_d_prog_103_method_1_16 : decode prog_103_method_1_code 16 = .ok (.newarray .int, 2) := by decide +kernel
theorem own_d_prog_103_method_1_18 : decode prog_103_method_1_code 18 = .ok (.putfield 13, 3) := by decide +kernel
theorem own_d_prog_103_method_1_21 : decode prog_103_method_1_code 21 = .ok (.aload_n 0, 1) := by decide +kernel
theorem own_d_prog_103_method_1_22 : decode prog_103_method_1_code 22 = .ok (.sipush 1025, 3) := by decide +kernel
theorem own_d_prog_103_method_1_25 : decode prog_103_method_1_code 25 = .ok (.newarray .int, 2) := by decide +kernel
theorem own_d_prog_103_method_1_27 : decode prog_103_method_1_code 27 = .ok (.putfield 16, 3) := by decide +kernel
theorem own_d_prog_103_method_1_30 : decode prog_103_method_1_code 30 = .ok (.aload_n 0, 1) := by decide +kernel
theorem own_d_prog_103_method_1_31 : decode prog_103_method_1_code 31 = .ok (.iconst (-1), 1) := by decide +kernel
theorem own_d_prog_103_method_1_32 : decode prog_103_method_1_code 32 = .ok (.putfield 19, 3) := by decide +kernel
theorem own_d_prog_103_method_1_35 : decode prog_103_method_1_code 35 = .ok (.return_, 1) := by decide +kernel
theorem own_ef_ctor (m : MethodId) (a1 : Addr) : entryFrame m #[(.ref a1)] 1 = mkF m 0 #[.val (.ref a1)] [] := by first | (simp [entryFrame, mkF, argsToLocals, Value.category]; done) | rfl
def own_Q_ctor (Z : State) (a1 : Addr) (h0 : Heap) (n0 : Nat) (v : Option Value) (h : Heap) (L : List Loc) : Prop := ∃ b : Addr, v = none ∧ Fr n0 L ∧ Keep h0 h [a1] ∧ h0.size ≤ b ∧ Fld Z h a1 "com/example/interleaving/interleaving/store/StateGraph" "initial" "[I" (.ref b) ∧ Fld Z h a1 "com/example/interleaving/interleaving/store/StateGraph" "initialCount" "I" (.int (0 : Int32)) ∧ own_A Z h b 16 (fun _ => 0) ∧ Exa Z h b "[I"
set_option maxRecDepth 65536 in
set_option maxHeartbeats 40000000 in
theorem own_rm_ctor (l : Launch) (Z : State) (a0 : Array Value) (hw : ∀ d ∈ tables_1, d.before a0 Z = true) (ws : List Jvm.Cond) (a1 : Addr) (h0 : Heap) (n0 : Nat) (Z0 : n0 ≤ h0.size) (E1 : Exa Z h0 a1 "com/example/interleaving/interleaving/store/StateGraph") (F_initial : Fld Z h0 a1 "com/example/interleaving/interleaving/store/StateGraph" "initial" "[I" .null) (F_targets : Fld Z h0 a1 "com/example/interleaving/interleaving/store/StateGraph" "targets" "[I" .null) (F_firsts : Fld Z h0 a1 "com/example/interleaving/interleaving/store/StateGraph" "firsts" "[I" .null) (F_open : Fld Z h0 a1 "com/example/interleaving/interleaving/store/StateGraph" "open" "I" (.int (0 : Int32))) (F_initialCount : Fld Z h0 a1 "com/example/interleaving/interleaving/store/StateGraph" "initialCount" "I" (.int (0 : Int32))) (g1 : n0 ≤ a1) :
    MetFree l (⟨"com/example/interleaving/interleaving/store/StateGraph", "<init>", "()V"⟩ : MethodName) (head1 (Jvm.Cond.code (⟨"com/example/interleaving/interleaving/store/StateGraph", "<init>", "()V"⟩ : MethodName) prog_103_method_1_code 1 none :: ws) ({ frames := 1, cells := 3, slots := 2065, locals := 12 } : Room)) (fun a U => a = #[(.ref a1)] ∧ Z.Warmed39 U.vm ∧ U.heap = h0) (fun _ _ _ _ _ => True) (fun _ U o U' => ∃ v L, o = .returned v ∧ own_Q_ctor Z a1 h0 n0 v U'.heap L ∧ FrameEnd U o U' L ({ frames := 1, cells := 3, slots := 2065, locals := 12 } : Room).cells ({ frames := 1, cells := 3, slots := 2065, locals := 12 } : Room).slots) := by
  refine MetFree.of_bodySF (plainFor_of_name own_pn1) hisR ?_
  intro p e s m args below meth c s₁ Bd hml0 hP hK
  obtain ⟨rfl, hZ, hh⟩ := hP
  have hx := Bd.exec
  have hby := Bd.bytes
  have hml : c.maxLocals = 1 := hml0
  have hown : s.vm.findClass "com/example/interleaving/interleaving/store/StateGraph" = some m.cls := findClass_of_methodNamed Bd.named
  have hnm := (name_of_methodNamed Bd.named Bd.method).1
  have X0 : Stand p l e ({ frames := 1, cells := 3, slots := 2065, locals := 12 } : Room) s m #[(.ref a1)] below meth c s₁ [] 0 0 := Stand.of_body Bd
  have e0 : s₁.heap = h0 := by rw [← hh, Bd.state]; rfl
  have N0 := Fr.nil n0
  have K0 : Keep h0 h0 [a1] := Keep.refl _ _
  have pre0 : ∀ t, Steps p.tables e below (s₁.setTop (mkF m 0 #[.val (.ref a1)] [])) t → Steps p.tables e below (s₁.setTop (entryFrame m #[(.ref a1)] 1)) t := fun t k => castTop (own_ef_ctor m a1) k
  obtain ⟨T1, X1, e1, st1⟩ := initO X0 hx hZ hown (hw _ (List.mem_of_getElem? (i := 7) rfl)) (hw _ (List.mem_of_getElem? (i := 8) rfl)) (hw _ (List.mem_of_getElem? (i := 9) rfl)) e0 (g := (mkF m 1 #[.val (.ref a1)] [(.ref a1)])) rfl (by rw [hml]; rfl) rfl (hb hby own_d_prog_103_method_1_1) (by decide) (W := 0) (by show 2 * 0 + _ ≤ _; exact Nat.le_of_eq rfl) (by decide)
  obtain ⟨T2, h2, k2, X2, e2, E2, A2, I2, st2⟩ := newPE X1 hx hZ (hw _ (List.mem_of_getElem? (i := 10) rfl)) e1 (g := (mkF m 7 #[.val (.ref a1)] [(.int (16 : Int32)), (.ref a1)])) rfl (hb hby own_d_prog_103_method_1_7) rfl (by decide) (cap := 16) (by decide) (by decide) (by decide) (by decide) (ad := "[I") rfl
  obtain ⟨b2, g2⟩ : ∃ z, z = h0.size := ⟨_, rfl⟩
  rw [← g2] at A2 I2 st2
  have sz_b2 : h0.size ≤ b2 := Nat.le_trans K0.1 (Nat.le_of_eq g2.symm)
  have gn_b2 : n0 ≤ b2 := Nat.le_trans Z0 sz_b2
  have ne_a1_b2 : a1 ≠ b2 := Nat.ne_of_lt (Nat.lt_of_lt_of_le F_initialCount.lt (Nat.le_of_eq g2.symm))
  have f3 := E1.ext E2
  have f4 := F_initial.ext E2
  have f5 := F_targets.ext E2
  have f6 := F_firsts.ext E2
  have f7 := F_open.ext E2
  have f8 := F_initialCount.ext E2
  have k9 := K0.ext E2
  have f10 : own_A Z h2 b2 16 (fun _ => 0) := own_A.new A2 rfl
  obtain ⟨T11, h11, X11, e11, W11, st11⟩ := putF X2 hx hZ hown (host := "") (Or.inl (hw _ (List.mem_of_getElem? (i := 11) rfl))) Via.refl e2 f4 f3 (Or.inl (hw _ (List.mem_of_getElem? (i := 12) rfl))) (hw _ (List.mem_of_getElem? (i := 2) rfl)) (ty := (.array .int)) (by decide) rfl rfl (g := (mkF m 9 #[.val (.ref a1)] [(.ref b2), (.ref a1)])) rfl rfl (hb hby own_d_prog_103_method_1_9)
  have f12 := f3.wr W11
  have f14 := f5.other W11 (Or.inr (slot_ne (Or.inl (hw _ (List.mem_of_getElem? (i := 14) rfl))) (Or.inl (hw _ (List.mem_of_getElem? (i := 12) rfl))) (by decide) (t := (.array .int)) (t' := (.array .int)) (by decide) (by decide)))
  have f15 := f6.other W11 (Or.inr (slot_ne (Or.inl (hw _ (List.mem_of_getElem? (i := 16) rfl))) (Or.inl (hw _ (List.mem_of_getElem? (i := 12) rfl))) (by decide) (t := (.array .int)) (t' := (.array .int)) (by decide) (by decide)))
  have f16 := f7.other W11 (Or.inr (slot_ne (Or.inl (hw _ (List.mem_of_getElem? (i := 18) rfl))) (Or.inl (hw _ (List.mem_of_getElem? (i := 12) rfl))) (by decide) (t := .int) (t' := (.array .int)) (by decide) (by decide)))
  have f17 := f8.other W11 (Or.inr (slot_ne (Or.inl (hw _ (List.mem_of_getElem? (i := 29) rfl))) (Or.inl (hw _ (List.mem_of_getElem? (i := 12) rfl))) (by decide) (t := .int) (t' := (.array .int)) (by decide) (by decide)))
  have f18 := I2.wr W11
  have f19 := f10.other W11 (Ne.symm ne_a1_b2)
  have k20 := k9.wr W11 (Or.inl (List.mem_of_getElem? (i := 0) rfl))
  have nf21 := Fr.snoc X11 N0 g1
  have f22 := f4.same W11
  obtain ⟨T23, h23, k23, X23, e23, E23, A23, I23, st23⟩ := newPE X11 hx hZ (hw _ (List.mem_of_getElem? (i := 10) rfl)) e11 (g := (mkF m 16 #[.val (.ref a1)] [(.int (1024 : Int32)), (.ref a1)])) rfl (hb hby own_d_prog_103_method_1_16) rfl (by decide) (cap := 1024) (by decide) (by decide) (by decide) (by decide) (ad := "[I") rfl
  obtain ⟨b23, g23⟩ : ∃ z, z = h11.size := ⟨_, rfl⟩
  rw [← g23] at A23 I23 st23
  have sz_b23 : h0.size ≤ b23 := Nat.le_trans k20.1 (Nat.le_of_eq g23.symm)
  have gn_b23 : n0 ≤ b23 := Nat.le_trans Z0 sz_b23
  have ne_a1_b23 : a1 ≠ b23 := Nat.ne_of_lt (Nat.lt_of_lt_of_le f17.lt (Nat.le_of_eq g23.symm))
  have ne_b2_b23 : b2 ≠ b23 := Nat.ne_of_lt (Nat.lt_of_lt_of_le f19.lt (Nat.le_of_eq g23.symm))
  have f24 := f12.ext E23
  have f25 := f22.ext E23
  have f26 := f14.ext E23
  have f27 := f15.ext E23
  have f28 := f16.ext E23
  have f29 := f17.ext E23
  have f30 := f18.ext E23
  have f31 := f19.ext E23
  have k32 := k20.ext E23
  have f33 : own_A Z h23 b23 1024 (fun _ => 0) := own_A.new A23 rfl
  obtain ⟨T34, h34, X34, e34, W34, st34⟩ := putF X23 hx hZ hown (host := "") (Or.inl (hw _ (List.mem_of_getElem? (i := 13) rfl))) Via.refl e23 f26 f24 (Or.inl (hw _ (List.mem_of_getElem? (i := 14) rfl))) (hw _ (List.mem_of_getElem? (i := 2) rfl)) (ty := (.array .int)) (by decide) rfl rfl (g := (mkF m 18 #[.val (.ref a1)] [(.ref b23), (.ref a1)])) rfl rfl (hb hby own_d_prog_103_method_1_18)
  have f35 := f24.wr W34
  have f36 := f25.other W34 (Or.inr (slot_ne (Or.inl (hw _ (List.mem_of_getElem? (i := 12) rfl))) (Or.inl (hw _ (List.mem_of_getElem? (i := 14) rfl))) (by decide) (t := (.array .int)) (t' := (.array .int)) (by decide) (by decide)))
  have f38 := f27.other W34 (Or.inr (slot_ne (Or.inl (hw _ (List.mem_of_getElem? (i := 16) rfl))) (Or.inl (hw _ (List.mem_of_getElem? (i := 14) rfl))) (by decide) (t := (.array .int)) (t' := (.array .int)) (by decide) (by decide)))
  have f39 := f28.other W34 (Or.inr (slot_ne (Or.inl (hw _ (List.mem_of_getElem? (i := 18) rfl))) (Or.inl (hw _ (List.mem_of_getElem? (i := 14) rfl))) (by decide) (t := .int) (t' := (.array .int)) (by decide) (by decide)))
  have f40 := f29.other W34 (Or.inr (slot_ne (Or.inl (hw _ (List.mem_of_getElem? (i := 29) rfl))) (Or.inl (hw _ (List.mem_of_getElem? (i := 14) rfl))) (by decide) (t := .int) (t' := (.array .int)) (by decide) (by decide)))
  have f41 := f30.wr W34
  have f42 := f31.other W34 (Ne.symm ne_a1_b2)
  have f43 := I23.wr W34
  have f44 := f33.other W34 (Ne.symm ne_a1_b23)
  have k45 := k32.wr W34 (Or.inl (List.mem_of_getElem? (i := 0) rfl))
  have nf46 := Fr.snoc X34 nf21 g1
  have f47 := f26.same W34
  have pre48 : ∀ t, Steps p.tables e below (T34.setTop (mkF m 25 #[.val (.ref a1)] [(.int (1025 : Int32)), (.ref a1)])) t → Steps p.tables e below (s₁.setTop (entryFrame m #[(.ref a1)] 1)) t := by
    intro t kt
    refine pre0 t ?_
    show Steps p.tables e below (s₁.setTop (mkF m 0 #[.val (.ref a1)] [])) _
    refine XS.aloadN X0.here hx rfl (hb hby own_d_prog_103_method_1_0) rfl rfl ?_
    show Steps p.tables e below (s₁.setTop (mkF m 1 #[.val (.ref a1)] [(.ref a1)])) _
    refine st1 _ ?_
    show Steps p.tables e below (T1.setTop (mkF m 4 #[.val (.ref a1)] [])) _
    refine XS.aloadN X1.here hx rfl (hb hby own_d_prog_103_method_1_4) rfl rfl ?_
    show Steps p.tables e below (T1.setTop (mkF m 5 #[.val (.ref a1)] [(.ref a1)])) _
    refine XS.bipush X1.here hx rfl (hb hby own_d_prog_103_method_1_5) ?_
    show Steps p.tables e below (T1.setTop (mkF m 7 #[.val (.ref a1)] [(.int (16 : Int32)), (.ref a1)])) _
    refine st2 _ ?_
    show Steps p.tables e below (T2.setTop (mkF m 9 #[.val (.ref a1)] [(.ref b2), (.ref a1)])) _
    refine st11 _ ?_
    show Steps p.tables e below (T11.setTop (mkF m 12 #[.val (.ref a1)] [])) _
    refine XS.aloadN X11.here hx rfl (hb hby own_d_prog_103_method_1_12) rfl rfl ?_
    show Steps p.tables e below (T11.setTop (mkF m 13 #[.val (.ref a1)] [(.ref a1)])) _
    refine XS.sipush X11.here hx rfl (hb hby own_d_prog_103_method_1_13) ?_
    show Steps p.tables e below (T11.setTop (mkF m 16 #[.val (.ref a1)] [(.int (1024 : Int32)), (.ref a1)])) _
    refine st23 _ ?_
    show Steps p.tables e below (T23.setTop (mkF m 18 #[.val (.ref a1)] [(.ref b23), (.ref a1)])) _
    refine st34 _ ?_
    show Steps p.tables e below (T34.setTop (mkF m 21 #[.val (.ref a1)] [])) _
    refine XS.aloadN X34.here hx rfl (hb hby own_d_prog_103_method_1_21) rfl rfl ?_
    show Steps p.tables e below (T34.setTop (mkF m 22 #[.val (.ref a1)] [(.ref a1)])) _
    refine XS.sipush X34.here hx rfl (hb hby own_d_prog_103_method_1_22) ?_
    exact kt
  obtain ⟨T49, h49, k49, X49, e49, E49, A49, I49, st49⟩ := newPE X34 hx hZ (hw _ (List.mem_of_getElem? (i := 10) rfl)) e34 (g := (mkF m 25 #[.val (.ref a1)] [(.int (1025 : Int32)), (.ref a1)])) rfl (hb hby own_d_prog_103_method_1_25) rfl (by decide) (cap := 1025) (by decide) (by decide) (by decide) (by decide) (ad := "[I") rfl
  obtain ⟨b49, g49⟩ : ∃ z, z = h34.size := ⟨_, rfl⟩
  rw [← g49] at A49 I49 st49
  have sz_b49 : h0.size ≤ b49 := Nat.le_trans k45.1 (Nat.le_of_eq g49.symm)
  have gn_b49 : n0 ≤ b49 := Nat.le_trans Z0 sz_b49
  have ne_a1_b49 : a1 ≠ b49 := Nat.ne_of_lt (Nat.lt_of_lt_of_le f40.lt (Nat.le_of_eq g49.symm))
  have ne_b2_b49 : b2 ≠ b49 := Nat.ne_of_lt (Nat.lt_of_lt_of_le f42.lt (Nat.le_of_eq g49.symm))
  have ne_b23_b49 : b23 ≠ b49 := Nat.ne_of_lt (Nat.lt_of_lt_of_le f44.lt (Nat.le_of_eq g49.symm))
  have f50 := f35.ext E49
  have f51 := f36.ext E49
  have f52 := f47.ext E49
  have f53 := f38.ext E49
  have f54 := f39.ext E49
  have f55 := f40.ext E49
  have f56 := f41.ext E49
  have f57 := f42.ext E49
  have f58 := f43.ext E49
  have f59 := f44.ext E49
  have k60 := k45.ext E49
  have f61 : own_A Z h49 b49 1025 (fun _ => 0) := own_A.new A49 rfl
  obtain ⟨T62, h62, X62, e62, W62, st62⟩ := putF X49 hx hZ hown (host := "") (Or.inl (hw _ (List.mem_of_getElem? (i := 15) rfl))) Via.refl e49 f53 f50 (Or.inl (hw _ (List.mem_of_getElem? (i := 16) rfl))) (hw _ (List.mem_of_getElem? (i := 2) rfl)) (ty := (.array .int)) (by decide) rfl rfl (g := (mkF m 27 #[.val (.ref a1)] [(.ref b49), (.ref a1)])) rfl rfl (hb hby own_d_prog_103_method_1_27)
  have f63 := f50.wr W62
  have f64 := f51.other W62 (Or.inr (slot_ne (Or.inl (hw _ (List.mem_of_getElem? (i := 12) rfl))) (Or.inl (hw _ (List.mem_of_getElem? (i := 16) rfl))) (by decide) (t := (.array .int)) (t' := (.array .int)) (by decide) (by decide)))
  have f65 := f52.other W62 (Or.inr (slot_ne (Or.inl (hw _ (List.mem_of_getElem? (i := 14) rfl))) (Or.inl (hw _ (List.mem_of_getElem? (i := 16) rfl))) (by decide) (t := (.array .int)) (t' := (.array .int)) (by decide) (by decide)))
  have f67 := f54.other W62 (Or.inr (slot_ne (Or.inl (hw _ (List.mem_of_getElem? (i := 18) rfl))) (Or.inl (hw _ (List.mem_of_getElem? (i := 16) rfl))) (by decide) (t := .int) (t' := (.array .int)) (by decide) (by decide)))
  have f68 := f55.other W62 (Or.inr (slot_ne (Or.inl (hw _ (List.mem_of_getElem? (i := 29) rfl))) (Or.inl (hw _ (List.mem_of_getElem? (i := 16) rfl))) (by decide) (t := .int) (t' := (.array .int)) (by decide) (by decide)))
  have f69 := f56.wr W62
  have f70 := f57.other W62 (Ne.symm ne_a1_b2)
  have f71 := f58.wr W62
  have f72 := f59.other W62 (Ne.symm ne_a1_b23)
  have f73 := I49.wr W62
  have f74 := f61.other W62 (Ne.symm ne_a1_b49)
  have k75 := k60.wr W62 (Or.inl (List.mem_of_getElem? (i := 0) rfl))
  have nf76 := Fr.snoc X62 nf46 g1
  have f77 := f53.same W62
  obtain ⟨T78, h78, X78, e78, W78, st78⟩ := putF X62 hx hZ hown (host := "") (Or.inl (hw _ (List.mem_of_getElem? (i := 17) rfl))) Via.refl e62 f67 f63 (Or.inl (hw _ (List.mem_of_getElem? (i := 18) rfl))) (hw _ (List.mem_of_getElem? (i := 2) rfl)) (ty := .int) (by decide) rfl rfl (g := (mkF m 32 #[.val (.ref a1)] [(.int (-1 : Int32)), (.ref a1)])) rfl rfl (hb hby own_d_prog_103_method_1_32)
  have f79 := f63.wr W78
  have f80 := f64.other W78 (Or.inr (slot_ne (Or.inl (hw _ (List.mem_of_getElem? (i := 12) rfl))) (Or.inl (hw _ (List.mem_of_getElem? (i := 18) rfl))) (by decide) (t := (.array .int)) (t' := .int) (by decide) (by decide)))
  have f81 := f65.other W78 (Or.inr (slot_ne (Or.inl (hw _ (List.mem_of_getElem? (i := 14) rfl))) (Or.inl (hw _ (List.mem_of_getElem? (i := 18) rfl))) (by decide) (t := (.array .int)) (t' := .int) (by decide) (by decide)))
  have f82 := f77.other W78 (Or.inr (slot_ne (Or.inl (hw _ (List.mem_of_getElem? (i := 16) rfl))) (Or.inl (hw _ (List.mem_of_getElem? (i := 18) rfl))) (by decide) (t := (.array .int)) (t' := .int) (by decide) (by decide)))
  have f84 := f68.other W78 (Or.inr (slot_ne (Or.inl (hw _ (List.mem_of_getElem? (i := 29) rfl))) (Or.inl (hw _ (List.mem_of_getElem? (i := 18) rfl))) (by decide) (t := .int) (t' := .int) (by decide) (by decide)))
  have f85 := f69.wr W78
  have f86 := f70.other W78 (Ne.symm ne_a1_b2)
  have f87 := f71.wr W78
  have f88 := f72.other W78 (Ne.symm ne_a1_b23)
  have f89 := f73.wr W78
  have f90 := f74.other W78 (Ne.symm ne_a1_b49)
  have k91 := k75.wr W78 (Or.inl (List.mem_of_getElem? (i := 0) rfl))
  have nf92 := Fr.snoc X78 nf76 g1
  have f93 := f67.same W78
  have pre94 : ∀ t, Steps p.tables e below (T78.setTop (mkF m 35 #[.val (.ref a1)] [])) t → Steps p.tables e below (s₁.setTop (entryFrame m #[(.ref a1)] 1)) t := by
    intro t kt
    refine pre48 t ?_
    show Steps p.tables e below (T34.setTop (mkF m 25 #[.val (.ref a1)] [(.int (1025 : Int32)), (.ref a1)])) _
    refine st49 _ ?_
    show Steps p.tables e below (T49.setTop (mkF m 27 #[.val (.ref a1)] [(.ref b49), (.ref a1)])) _
    refine st62 _ ?_
    show Steps p.tables e below (T62.setTop (mkF m 30 #[.val (.ref a1)] [])) _
    refine XS.aloadN X62.here hx rfl (hb hby own_d_prog_103_method_1_30) rfl rfl ?_
    show Steps p.tables e below (T62.setTop (mkF m 31 #[.val (.ref a1)] [(.ref a1)])) _
    refine XS.iconst X62.here hx rfl (hb hby own_d_prog_103_method_1_31) ?_
    show Steps p.tables e below (T62.setTop (mkF m 32 #[.val (.ref a1)] [(.int (-1 : Int32)), (.ref a1)])) _
    refine st78 _ ?_
    exact kt
  obtain ⟨fs, hr, hrun, hended, hW, hsame⟩ := X78.leave (v := none) (fun _ => rfl)
  refine ⟨_, _, pre94 _ ?_, hrun, hended, _, _, rfl, ?_, ⟨_, rfl⟩, hW, hsame.mono (by decide) (by decide)⟩
  · show Steps p.tables e below (T78.setTop (mkF m 35 #[.val (.ref a1)] [])) _
    exact X78.returnOut hx Bd.returns (hb hby own_d_prog_103_method_1_35) hr
  · show own_Q_ctor Z a1 h0 n0 (none) T78.heap _
    rw [e78]
    exact ⟨_, rfl, nf92, k91, sz_b2, f80, f84, f86, f85⟩
theorem own_d_prog_103_method_2_0 : decode prog_103_method_2_code 0 = .ok (.aload_n 0, 1) := by decide +kernel
theorem own_d_prog_103_method_2_1 : decode prog_103_method_2_code 1 = .ok (.getfield 23, 3) := by decide +kernel
theorem own_d_prog_103_method_2_4 : decode prog_103_method_2_code 4 = .ok (.aload_n 0, 1) := by decide +kernel
theorem own_d_prog_103_method_2_5 : decode prog_103_method_2_code 5 = .ok (.getfield 7, 3) := by decide +kernel
theorem own_d_prog_103_method_2_8 : decode prog_103_method_2_code 8 = .ok (.arraylength, 1) := by decide +kernel
theorem own_d_prog_103_method_2_9 : decode prog_103_method_2_code 9 = .ok (.if_icmp .ne 20, 3) := by decide +kernel
theorem own_d_prog_103_method_2_12 : decode prog_103_method_2_code 12 = .ok (.aload_n 0, 1) := by decide +kernel
theorem own_d_prog_103_method_2_13 : decode prog_103_method_2_code 13 = .ok (.aload_n 0, 1) := by decide +kernel
theorem own_d_prog_103_method_2_14 : decode prog_103_method_2_code 14 = .ok (.getfield 7, 3) := by decide +kernel
theorem own_d_prog_103_method_2_17 : decode prog_103_method_2_code 17 = .ok (.aload_n 0, 1) := by decide +kernel
theorem own_d_prog_103_method_2_18 : decode prog_103_method_2_code 18 = .ok (.getfield 23, 3) := by decide +kernel
theorem own_d_prog_103_method_2_21 : decode prog_103_method_2_code 21 = .ok (.iconst 2, 1) := by decide +kernel
theorem own_d_prog_103_method_2_22 : decode prog_103_method_2_code 22 = .ok (.imul, 1) := by decide +kernel
theorem own_d_prog_103_method_2_23 : decode prog_103_method_2_code 23 = .ok (.invokestatic 26, 3) := by decide +kernel
theorem own_d_prog_103_method_2_26 : decode prog_103_method_2_code 26 = .ok (.putfield 7, 3) := by decide +kernel
theorem own_d_prog_103_method_2_29 : decode prog_103_method_2_code 29 = .ok (.aload_n 0, 1) := by decide +kernel
theorem own_d_prog_103_method_2_30 : decode prog_103_method_2_code 30 = .ok (.getfield 7, 3) := by decide +kernel
theorem own_d_prog_103_method_2_33 : decode prog_103_method_2_code 33 = .ok (.aload_n 0, 1) := by decide +kernel
theorem own_d_prog_103_method_2_34 : decode prog_103_method_2_code 34 = .ok (.dup, 1) := by decide +kernel
theorem own_d_prog_103_method_2_35 : decode prog_103_method_2_code 35 = .ok (.getfield 23, 3) := by decide +kernel
theorem own_d_prog_103_method_2_38 : decode prog_103_method_2_code 38 = .ok (.dup_x1, 1) := by decide +kernel
theorem own_d_prog_103_method_2_39 : decode prog_103_method_2_code 39 = .ok (.iconst 1, 1) := by decide +kernel
theorem own_d_prog_103_method_2_40 : decode prog_103_method_2_code 40 = .ok (.iadd, 1) := by decide +kernel
theorem own_d_prog_103_method_2_41 : decode prog_103_method_2_code 41 = .ok (.putfield 23, 3) := by decide +kernel
theorem own_d_prog_103_method_2_44 : decode prog_103_method_2_code 44 = .ok (.iload_n 1, 1) := by decide +kernel
theorem own_d_prog_103_method_2_45 : decode prog_103_method_2_code 45 = .ok (.iastore, 1) := by decide +kernel
theorem own_d_prog_103_method_2_46 : decode prog_103_method_2_code 46 = .ok (.return_, 1) := by decide +kernel
theorem own_ef_add (m : MethodId) (a1 : Addr) (p2 : Int32) : entryFrame m #[(.ref a1), (.int p2)] 2 = mkF m 0 #[.val (.ref a1), .val (.int p2)] [] := by first | (simp [entryFrame, mkF, argsToLocals, Value.category]; done) | rfl
def own_Q_add (Z : State) (a1 : Addr) (p2 : Int32) (b : Addr) (k_ : Nat) (N : Nat) (f : Nat → Int32) (h0 : Heap) (n0 : Nat) (v : Option Value) (h : Heap) (L : List Loc) : Prop := v = none ∧ Fr n0 L ∧ Keep h0 h [a1, b] ∧ Fld Z h a1 "com/example/interleaving/interleaving/store/StateGraph" "initial" "[I" (.ref b) ∧ Fld Z h a1 "com/example/interleaving/interleaving/store/StateGraph" "initialCount" "I" (.int (Int32.ofNat (k_ + 1))) ∧ own_A Z h b N (own_upd f k_ p2)
set_option maxRecDepth 65536 in
set_option maxHeartbeats 40000000 in
theorem own_rm_add (l : Launch) (Z : State) (a0 : Array Value) (hw : ∀ d ∈ tables_1, d.before a0 Z = true) (ws : List Jvm.Cond) (a1 : Addr) (p2 : Int32) (b : Addr) (k_ : Nat) (N : Nat) (f : Nat → Int32) (h0 : Heap) (n0 : Nat) (Z0 : n0 ≤ h0.size) (E1 : Exa Z h0 a1 "com/example/interleaving/interleaving/store/StateGraph") (F1 : Fld Z h0 a1 "com/example/interleaving/interleaving/store/StateGraph" "initial" "[I" (.ref b)) (F2 : Fld Z h0 a1 "com/example/interleaving/interleaving/store/StateGraph" "initialCount" "I" (.int (Int32.ofNat k_))) (A1 : own_A Z h0 b N f) (g1 : n0 ≤ a1) (g2 : n0 ≤ b) (nab : a1 ≠ b) (hk : k_ < N) (hN : N ≤ 32) :
    MetFree l (⟨"com/example/interleaving/interleaving/store/StateGraph", "addInitial", "(I)V"⟩ : MethodName) (head1 (Jvm.Cond.code (⟨"com/example/interleaving/interleaving/store/StateGraph", "addInitial", "(I)V"⟩ : MethodName) prog_103_method_2_code 2 none :: ws) ({ frames := 0, cells := 0, slots := 0, locals := 0 } : Room)) (fun a U => a = #[(.ref a1), (.int p2)] ∧ Z.Warmed39 U.vm ∧ U.heap = h0) (fun _ _ _ _ _ => True) (fun _ U o U' => ∃ v L, o = .returned v ∧ own_Q_add Z a1 p2 b k_ N f h0 n0 v U'.heap L ∧ FrameEnd U o U' L ({ frames := 0, cells := 0, slots := 0, locals := 0 } : Room).cells ({ frames := 0, cells := 0, slots := 0, locals := 0 } : Room).slots) := by
  refine MetFree.of_bodySF (plainFor_of_name own_pn1) hisR ?_
  intro p e s m args below meth c s₁ Bd hml0 hP hK
  obtain ⟨rfl, hZ, hh⟩ := hP
  have hx := Bd.exec
  have hby := Bd.bytes
  have hml : c.maxLocals = 2 := hml0
  have hown : s.vm.findClass "com/example/interleaving/interleaving/store/StateGraph" = some m.cls := findClass_of_methodNamed Bd.named
  have hnm := (name_of_methodNamed Bd.named Bd.method).1
  have X0 : Stand p l e ({ frames := 0, cells := 0, slots := 0, locals := 0 } : Room) s m #[(.ref a1), (.int p2)] below meth c s₁ [] 0 0 := Stand.of_body Bd
  have e0 : s₁.heap = h0 := by rw [← hh, Bd.state]; rfl
  have N0 := Fr.nil n0
  have K0 : Keep h0 h0 [a1, b] := Keep.refl _ _
  have pre0 : ∀ t, Steps p.tables e below (s₁.setTop (mkF m 0 #[.val (.ref a1), .val (.int p2)] [])) t → Steps p.tables e below (s₁.setTop (entryFrame m #[(.ref a1), (.int p2)] 2)) t := fun t k => castTop (own_ef_add m a1 p2) k
  obtain ⟨T1, X1, e1, st1⟩ := getF X0 hx hZ hown (host := "") (Or.inl (hw _ (List.mem_of_getElem? (i := 28) rfl))) Via.refl e0 F2 (g := (mkF m 1 #[.val (.ref a1), .val (.int p2)] [(.ref a1)])) rfl rfl (hb hby own_d_prog_103_method_2_1)
  obtain ⟨T2, X2, e2, st2⟩ := getF X1 hx hZ hown (host := "") (Or.inl (hw _ (List.mem_of_getElem? (i := 11) rfl))) Via.refl e1 F1 (g := (mkF m 5 #[.val (.ref a1), .val (.int p2)] [(.ref a1), (.int (Int32.ofNat k_))])) rfl rfl (hb hby own_d_prog_103_method_2_5)
  obtain ⟨cl3, Ar3, S3, -⟩ := id A1
  obtain ⟨T4, X4, e4, st4⟩ := getF X2 hx hZ hown (host := "") (Or.inl (hw _ (List.mem_of_getElem? (i := 11) rfl))) Via.refl e2 F1 (g := (mkF m 30 #[.val (.ref a1), .val (.int p2)] [(.ref a1)])) rfl rfl (hb hby own_d_prog_103_method_2_30)
  obtain ⟨T5, X5, e5, st5⟩ := getF X4 hx hZ hown (host := "") (Or.inl (hw _ (List.mem_of_getElem? (i := 28) rfl))) Via.refl e4 F2 (g := (mkF m 35 #[.val (.ref a1), .val (.int p2)] [(.ref a1), (.ref a1), (.ref b)])) rfl rfl (hb hby own_d_prog_103_method_2_35)
  have pre6 : ∀ t, Steps p.tables e below (T5.setTop (mkF m 39 #[.val (.ref a1), .val (.int p2)] [(.int (Int32.ofNat k_)), (.ref a1), (.int (Int32.ofNat k_)), (.ref b)])) t → Steps p.tables e below (s₁.setTop (entryFrame m #[(.ref a1), (.int p2)] 2)) t := by
    intro t kt
    refine pre0 t ?_
    show Steps p.tables e below (s₁.setTop (mkF m 0 #[.val (.ref a1), .val (.int p2)] [])) _
    refine XS.aloadN X0.here hx rfl (hb hby own_d_prog_103_method_2_0) rfl rfl ?_
    show Steps p.tables e below (s₁.setTop (mkF m 1 #[.val (.ref a1), .val (.int p2)] [(.ref a1)])) _
    refine st1 _ ?_
    show Steps p.tables e below (T1.setTop (mkF m 4 #[.val (.ref a1), .val (.int p2)] [(.int (Int32.ofNat k_))])) _
    refine XS.aloadN X1.here hx rfl (hb hby own_d_prog_103_method_2_4) rfl rfl ?_
    show Steps p.tables e below (T1.setTop (mkF m 5 #[.val (.ref a1), .val (.int p2)] [(.ref a1), (.int (Int32.ofNat k_))])) _
    refine st2 _ ?_
    show Steps p.tables e below (T2.setTop (mkF m 8 #[.val (.ref a1), .val (.int p2)] [(.ref b), (.int (Int32.ofNat k_))])) _
    refine X2.arraylength hx (by rw [e2]; exact Ar3.1) (State.isArrayOf_alike hZ.alike Ar3.2.1) (g := (mkF m 8 #[.val (.ref a1), .val (.int p2)] [(.ref b), (.int (Int32.ofNat k_))])) rfl rfl (hb hby own_d_prog_103_method_2_8) _ ?_
    rw [own_len (z := (Int32.ofNat N)) S3 rfl]
    show Steps p.tables e below (T2.setTop (mkF m 9 #[.val (.ref a1), .val (.int p2)] [(.int (Int32.ofNat N)), (.int (Int32.ofNat k_))])) _
    refine XS.icmpYes X2.here hx rfl (pc0 := 9) (pc' := 29) rfl (hb hby own_d_prog_103_method_2_9) rfl (feq (fun e => absurd (own_inj (by omega) hN e) (by omega))).2 (by decide) (by decide) ?_
    show Steps p.tables e below (T2.setTop (mkF m 29 #[.val (.ref a1), .val (.int p2)] [])) _
    refine XS.aloadN X2.here hx rfl (hb hby own_d_prog_103_method_2_29) rfl rfl ?_
    show Steps p.tables e below (T2.setTop (mkF m 30 #[.val (.ref a1), .val (.int p2)] [(.ref a1)])) _
    refine st4 _ ?_
    show Steps p.tables e below (T4.setTop (mkF m 33 #[.val (.ref a1), .val (.int p2)] [(.ref b)])) _
    refine XS.aloadN X4.here hx rfl (hb hby own_d_prog_103_method_2_33) rfl rfl ?_
    show Steps p.tables e below (T4.setTop (mkF m 34 #[.val (.ref a1), .val (.int p2)] [(.ref a1), (.ref b)])) _
    refine XS.dup X4.here hx rfl (hb hby own_d_prog_103_method_2_34) rfl rfl ?_
    show Steps p.tables e below (T4.setTop (mkF m 35 #[.val (.ref a1), .val (.int p2)] [(.ref a1), (.ref a1), (.ref b)])) _
    refine st5 _ ?_
    show Steps p.tables e below (T5.setTop (mkF m 38 #[.val (.ref a1), .val (.int p2)] [(.int (Int32.ofNat k_)), (.ref a1), (.ref b)])) _
    refine XS.dupX1 X5.here hx rfl (hb hby own_d_prog_103_method_2_38) rfl rfl rfl ?_
    exact kt
  obtain ⟨T7, h7, X7, e7, W7, st7⟩ := putF X5 hx hZ hown (host := "") (Or.inl (hw _ (List.mem_of_getElem? (i := 28) rfl))) Via.refl e5 F2 E1 (Or.inl (hw _ (List.mem_of_getElem? (i := 29) rfl))) (hw _ (List.mem_of_getElem? (i := 2) rfl)) (ty := .int) (by decide) rfl rfl (g := (mkF m 41 #[.val (.ref a1), .val (.int p2)] [(.int ((Int32.ofNat k_) + (1 : Int32))), (.ref a1), (.int (Int32.ofNat k_)), (.ref b)])) rfl rfl (hb hby own_d_prog_103_method_2_41)
  have f8 := E1.wr W7
  have f9 := F1.other W7 (Or.inr (slot_ne (Or.inl (hw _ (List.mem_of_getElem? (i := 12) rfl))) (Or.inl (hw _ (List.mem_of_getElem? (i := 29) rfl))) (by decide) (t := (.array .int)) (t' := .int) (by decide) (by decide)))
  have f11 := A1.other W7 (Ne.symm nab)
  have k12 := K0.wr W7 (Or.inl (List.mem_of_getElem? (i := 0) rfl))
  have nf13 := Fr.snoc X7 N0 g1
  have f14 := F2.same W7
  obtain ⟨cl15, Ar15, S15, H15⟩ := id f11
  have hin15 : ¬ ((Int32.ofNat k_) < 0 ∨ cl15.slots.size ≤ ((Int32.ofNat k_)).toNatClampNeg) := own_inb S15 (own_of0 (by omega)) (by rw [own_ofN (by omega)]; exact hk)
  obtain ⟨T16, h16, X16, e16, W16, st16⟩ := stI X7 hx hZ e7 Ar15 (j := (Int32.ofNat k_)) hin15 (g := (mkF m 45 #[.val (.ref a1), .val (.int p2)] [(.int p2), (.int (Int32.ofNat k_)), (.ref b)])) rfl rfl (hb hby own_d_prog_103_method_2_45)
  have f17 := f8.wr W16
  have f18 := f9.other W16 (Or.inl nab)
  have f19 := f14.other W16 (Or.inl nab)
  have k21 := k12.wr W16 (Or.inl (List.mem_of_getElem? (i := 1) rfl))
  have nf22 := Fr.snoc X16 nf13 g2
  have f23 := f11.set W16
  have f24 : own_A Z h16 b N (own_upd f k_ p2) := f23.congr (fun j hj => by rw [own_ofN (by omega)])
  have pre25 : ∀ t, Steps p.tables e below (T16.setTop (mkF m 46 #[.val (.ref a1), .val (.int p2)] [])) t → Steps p.tables e below (s₁.setTop (entryFrame m #[(.ref a1), (.int p2)] 2)) t := by
    intro t kt
    refine pre6 t ?_
    show Steps p.tables e below (T5.setTop (mkF m 39 #[.val (.ref a1), .val (.int p2)] [(.int (Int32.ofNat k_)), (.ref a1), (.int (Int32.ofNat k_)), (.ref b)])) _
    refine XS.iconst X5.here hx rfl (hb hby own_d_prog_103_method_2_39) ?_
    show Steps p.tables e below (T5.setTop (mkF m 40 #[.val (.ref a1), .val (.int p2)] [(.int (1 : Int32)), (.int (Int32.ofNat k_)), (.ref a1), (.int (Int32.ofNat k_)), (.ref b)])) _
    refine XS.iadd X5.here hx rfl (hb hby own_d_prog_103_method_2_40) rfl ?_
    show Steps p.tables e below (T5.setTop (mkF m 41 #[.val (.ref a1), .val (.int p2)] [(.int ((Int32.ofNat k_) + (1 : Int32))), (.ref a1), (.int (Int32.ofNat k_)), (.ref b)])) _
    refine st7 _ ?_
    show Steps p.tables e below (T7.setTop (mkF m 44 #[.val (.ref a1), .val (.int p2)] [(.int (Int32.ofNat k_)), (.ref b)])) _
    refine XS.iloadN X7.here hx rfl (hb hby own_d_prog_103_method_2_44) rfl ?_
    show Steps p.tables e below (T7.setTop (mkF m 45 #[.val (.ref a1), .val (.int p2)] [(.int p2), (.int (Int32.ofNat k_)), (.ref b)])) _
    refine st16 _ ?_
    exact kt
  obtain ⟨fs, hr, hrun, hended, hW, hsame⟩ := X16.leave (v := none) (fun _ => rfl)
  refine ⟨_, _, pre25 _ ?_, hrun, hended, _, _, rfl, ?_, ⟨_, rfl⟩, hW, hsame.mono (by decide) (by decide)⟩
  · show Steps p.tables e below (T16.setTop (mkF m 46 #[.val (.ref a1), .val (.int p2)] [])) _
    exact X16.returnOut hx Bd.returns (hb hby own_d_prog_103_method_2_46) hr
  · show own_Q_add Z a1 p2 b k_ N f h0 n0 (none) T16.heap _
    rw [e16]
    exact ⟨rfl, nf22, k21, f18, by rw [← own_of1]; exact f19, f24⟩
def own_cap (k : Nat) : Nat := if k ≤ 16 then 16 else 32
theorem own_capk {k : Nat} (h : k ≤ 32) : k ≤ own_cap k ∧ own_cap k ≤ 32 := by simp only [own_cap]; split <;> omega
def own_F (a b : Int32) : Nat → Int32 := fun j => a + Int32.ofNat j * b
def own_St (Z : State) (h : Heap) (n0 : Nat) (a : Addr) (k : Nat) (F : Nat → Int32) : Prop := ∃ (b : Addr) (f : Nat → Int32), Exa Z h a "com/example/interleaving/interleaving/store/StateGraph" ∧ Fld Z h a "com/example/interleaving/interleaving/store/StateGraph" "initial" "[I" (.ref b) ∧ Fld Z h a "com/example/interleaving/interleaving/store/StateGraph" "initialCount" "I" (.int (Int32.ofNat k)) ∧ own_A Z h b (own_cap k) f ∧ Exa Z h b "[I" ∧ n0 ≤ a ∧ n0 ≤ b ∧ a ≠ b ∧ k ≤ 32 ∧ ∀ j, j < k → f j = F j
theorem own_stN {Z : State} {h : Heap} {n0 : Nat} {a b : Addr} {k : Nat} {f F : Nat → Int32} {x : Int32} (E : Exa Z h a "com/example/interleaving/interleaving/store/StateGraph") (F1 : Fld Z h a "com/example/interleaving/interleaving/store/StateGraph" "initial" "[I" (.ref b)) (F2 : Fld Z h a "com/example/interleaving/interleaving/store/StateGraph" "initialCount" "I" (.int (Int32.ofNat (k + 1)))) (A : own_A Z h b (own_cap k) (own_upd f k x)) (E2 : Exa Z h b "[I") (g1 : n0 ≤ a) (g2 : n0 ≤ b) (ne : a ≠ b) (hk : k + 1 ≤ 32) (h16 : k ≠ 16) (hf : ∀ j, j < k → f j = F j) (hx : x = F k) : own_St Z h n0 a (k + 1) F := by
  have e : own_cap (k + 1) = own_cap k := by simp only [own_cap]; by_cases u : k ≤ 16 <;> simp [u] <;> omega
  refine ⟨b, own_upd f k x, E, F1, F2, by rw [e]; exact A, E2, g1, g2, ne, hk, fun j hj => ?_⟩
  by_cases u : j = k
  · subst u; simp [own_upd, hx]
  · simp only [own_upd, if_neg u]; exact hf j (by omega)
theorem own_stG {Z : State} {h : Heap} {n0 : Nat} {a b : Addr} {f F : Nat → Int32} {x : Int32} (E : Exa Z h a "com/example/interleaving/interleaving/store/StateGraph") (F1 : Fld Z h a "com/example/interleaving/interleaving/store/StateGraph" "initial" "[I" (.ref b)) (F2 : Fld Z h a "com/example/interleaving/interleaving/store/StateGraph" "initialCount" "I" (.int (17 : Int32))) (A : own_A Z h b 32 (own_upd (fun j => if j < 16 then f j else 0) 16 x)) (E2 : Exa Z h b "[I") (g1 : n0 ≤ a) (g2 : n0 ≤ b) (ne : a ≠ b) (hf : ∀ j, j < 16 → f j = F j) (hx : x = F 16) : own_St Z h n0 a 17 F := by
  refine ⟨b, _, E, F1, F2, A, E2, g1, g2, ne, by decide, fun j hj => ?_⟩
  by_cases u : j = 16
  · subst u; simp [own_upd, hx]
  · simp only [own_upd, if_neg u, if_pos (show j < 16 by omega)]; exact hf j (by omega)
theorem own_nn (x : Int32) : ∃ nn : Nat, ((x &&& (2147483647 : Int32)) % (21 : Int32)) = Int32.ofNat nn ∧ nn ≤ 20 := by
  have q := (c_and x 2147483647 (by decide)).1
  have r := (c_irem (x &&& 2147483647) 21 21 rfl).1 q
  refine ⟨((x &&& 2147483647) % 21 : Int32).toInt.toNat, ?_, by omega⟩
  apply Int32.toInt_inj.mp
  rw [own_ofI (by omega)]; omega
theorem own_lt2 {p q : Int32} {i n : Nat} (hi : p = Int32.ofNat i) (hn : q = Int32.ofNat n) (h1 : i ≤ 32) (h2 : n ≤ 32) : p < q ↔ i < n := by
  subst hi hn; rw [Int32.lt_iff_toInt_lt, own_ofI h1, own_ofI h2]; omega
theorem own_atv {p2 p3 p4 : Int32} {n i : Nat} {f : Nat → Int32} (hi : p2 = Int32.ofNat i) (h1 : i ≤ 32) (hf : ∀ j, j < n → f j = own_F p3 p4 j) (h : i < n) : f (p2).toNatClampNeg = p3 + p2 * p4 := by
  subst hi; rw [own_ofN h1, hf i h]; rfl
theorem own_ef_adg (m : MethodId) (a1 : Addr) (p2 : Int32) : entryFrame m #[(.ref a1), (.int p2)] 2 = mkF m 0 #[.val (.ref a1), .val (.int p2)] [] := by first | (simp [entryFrame, mkF, argsToLocals, Value.category]; done) | rfl
def own_Q_adg (Z : State) (a1 : Addr) (p2 : Int32) (b : Addr) (f : Nat → Int32) (h0 : Heap) (n0 : Nat) (v : Option Value) (h : Heap) (L : List Loc) : Prop := ∃ r : Addr, v = none ∧ Fr n0 L ∧ Keep h0 h [a1] ∧ h0.size ≤ r ∧ Fld Z h a1 "com/example/interleaving/interleaving/store/StateGraph" "initial" "[I" (.ref r) ∧ Fld Z h a1 "com/example/interleaving/interleaving/store/StateGraph" "initialCount" "I" (.int (17 : Int32)) ∧ own_A Z h r 32 (own_upd (fun j => if j < 16 then f j else 0) 16 p2) ∧ Exa Z h r "[I"
set_option maxRecDepth 65536 in
set_option maxHeartbeats 40000000 in
theorem own_rm_adg (l : Launch) (Z : State) (a0 : Array Value) (hw : ∀ d ∈ tables_1, d.before a0 Z = true) (ws : List Jvm.Cond) (a1 : Addr) (p2 : Int32) (b : Addr) (f : Nat → Int32) (h0 : Heap) (n0 : Nat) (Z0 : n0 ≤ h0.size) (E1 : Exa Z h0 a1 "com/example/interleaving/interleaving/store/StateGraph") (F1 : Fld Z h0 a1 "com/example/interleaving/interleaving/store/StateGraph" "initial" "[I" (.ref b)) (F2 : Fld Z h0 a1 "com/example/interleaving/interleaving/store/StateGraph" "initialCount" "I" (.int (16 : Int32))) (A1 : own_A Z h0 b 16 f) (E2 : Exa Z h0 b "[I") (g1 : n0 ≤ a1) :
    MetFree l (⟨"com/example/interleaving/interleaving/store/StateGraph", "addInitial", "(I)V"⟩ : MethodName) (head1 (Jvm.Cond.code (⟨"com/example/interleaving/interleaving/store/StateGraph", "addInitial", "(I)V"⟩ : MethodName) prog_103_method_2_code 2 none :: ws) ({ frames := 2, cells := 1, slots := 32, locals := 55 } : Room)) (fun a U => a = #[(.ref a1), (.int p2)] ∧ Z.Warmed39 U.vm ∧ U.heap = h0) (fun _ _ _ _ _ => True) (fun _ U o U' => ∃ v L, o = .returned v ∧ own_Q_adg Z a1 p2 b f h0 n0 v U'.heap L ∧ FrameEnd U o U' L ({ frames := 2, cells := 1, slots := 32, locals := 55 } : Room).cells ({ frames := 2, cells := 1, slots := 32, locals := 55 } : Room).slots) := by
  refine MetFree.of_bodySF (plainFor_of_name own_pn1) hisR ?_
  intro p e s m args below meth c s₁ Bd hml0 hP hK
  obtain ⟨rfl, hZ, hh⟩ := hP
  have hx := Bd.exec
  have hby := Bd.bytes
  have hml : c.maxLocals = 2 := hml0
  have hown : s.vm.findClass "com/example/interleaving/interleaving/store/StateGraph" = some m.cls := findClass_of_methodNamed Bd.named
  have hnm := (name_of_methodNamed Bd.named Bd.method).1
  have X0 : Stand p l e ({ frames := 2, cells := 1, slots := 32, locals := 55 } : Room) s m #[(.ref a1), (.int p2)] below meth c s₁ [] 0 0 := Stand.of_body Bd
  have e0 : s₁.heap = h0 := by rw [← hh, Bd.state]; rfl
  have N0 := Fr.nil n0
  have K0 : Keep h0 h0 [a1] := Keep.refl _ _
  have pre0 : ∀ t, Steps p.tables e below (s₁.setTop (mkF m 0 #[.val (.ref a1), .val (.int p2)] [])) t → Steps p.tables e below (s₁.setTop (entryFrame m #[(.ref a1), (.int p2)] 2)) t := fun t k => castTop (own_ef_adg m a1 p2) k
  have nab : a1 ≠ b := ne_exa E1 E2 (by decide)
  obtain ⟨T1, X1, e1, st1⟩ := getF X0 hx hZ hown (host := "") (Or.inl (hw _ (List.mem_of_getElem? (i := 28) rfl))) Via.refl e0 F2 (g := (mkF m 1 #[.val (.ref a1), .val (.int p2)] [(.ref a1)])) rfl rfl (hb hby own_d_prog_103_method_2_1)
  obtain ⟨T2, X2, e2, st2⟩ := getF X1 hx hZ hown (host := "") (Or.inl (hw _ (List.mem_of_getElem? (i := 11) rfl))) Via.refl e1 F1 (g := (mkF m 5 #[.val (.ref a1), .val (.int p2)] [(.ref a1), (.int (16 : Int32))])) rfl rfl (hb hby own_d_prog_103_method_2_5)
  obtain ⟨cl3, Ar3, S3, -⟩ := id A1
  obtain ⟨T4, X4, e4, st4⟩ := getF X2 hx hZ hown (host := "") (Or.inl (hw _ (List.mem_of_getElem? (i := 11) rfl))) Via.refl e2 F1 (g := (mkF m 14 #[.val (.ref a1), .val (.int p2)] [(.ref a1), (.ref a1)])) rfl rfl (hb hby own_d_prog_103_method_2_14)
  obtain ⟨T5, X5, e5, st5⟩ := getF X4 hx hZ hown (host := "") (Or.inl (hw _ (List.mem_of_getElem? (i := 28) rfl))) Via.refl e4 F2 (g := (mkF m 18 #[.val (.ref a1), .val (.int p2)] [(.ref a1), (.ref b), (.ref a1)])) rfl rfl (hb hby own_d_prog_103_method_2_18)
  have pre6 : ∀ t, Steps p.tables e below (T5.setTop (mkF m 22 #[.val (.ref a1), .val (.int p2)] [(.int (2 : Int32)), (.int (16 : Int32)), (.ref b), (.ref a1)])) t → Steps p.tables e below (s₁.setTop (entryFrame m #[(.ref a1), (.int p2)] 2)) t := by
    intro t kt
    refine pre0 t ?_
    show Steps p.tables e below (s₁.setTop (mkF m 0 #[.val (.ref a1), .val (.int p2)] [])) _
    refine XS.aloadN X0.here hx rfl (hb hby own_d_prog_103_method_2_0) rfl rfl ?_
    show Steps p.tables e below (s₁.setTop (mkF m 1 #[.val (.ref a1), .val (.int p2)] [(.ref a1)])) _
    refine st1 _ ?_
    show Steps p.tables e below (T1.setTop (mkF m 4 #[.val (.ref a1), .val (.int p2)] [(.int (16 : Int32))])) _
    refine XS.aloadN X1.here hx rfl (hb hby own_d_prog_103_method_2_4) rfl rfl ?_
    show Steps p.tables e below (T1.setTop (mkF m 5 #[.val (.ref a1), .val (.int p2)] [(.ref a1), (.int (16 : Int32))])) _
    refine st2 _ ?_
    show Steps p.tables e below (T2.setTop (mkF m 8 #[.val (.ref a1), .val (.int p2)] [(.ref b), (.int (16 : Int32))])) _
    refine X2.arraylength hx (by rw [e2]; exact Ar3.1) (State.isArrayOf_alike hZ.alike Ar3.2.1) (g := (mkF m 8 #[.val (.ref a1), .val (.int p2)] [(.ref b), (.int (16 : Int32))])) rfl rfl (hb hby own_d_prog_103_method_2_8) _ ?_
    rw [own_len (z := (16 : Int32)) S3 rfl]
    show Steps p.tables e below (T2.setTop (mkF m 9 #[.val (.ref a1), .val (.int p2)] [(.int (16 : Int32)), (.int (16 : Int32))])) _
    refine XS.icmpNo X2.here hx rfl (hb hby own_d_prog_103_method_2_9) rfl (teq (rfl : (16 : Int32) = (16 : Int32))).2 ?_
    show Steps p.tables e below (T2.setTop (mkF m 12 #[.val (.ref a1), .val (.int p2)] [])) _
    refine XS.aloadN X2.here hx rfl (hb hby own_d_prog_103_method_2_12) rfl rfl ?_
    show Steps p.tables e below (T2.setTop (mkF m 13 #[.val (.ref a1), .val (.int p2)] [(.ref a1)])) _
    refine XS.aloadN X2.here hx rfl (hb hby own_d_prog_103_method_2_13) rfl rfl ?_
    show Steps p.tables e below (T2.setTop (mkF m 14 #[.val (.ref a1), .val (.int p2)] [(.ref a1), (.ref a1)])) _
    refine st4 _ ?_
    show Steps p.tables e below (T4.setTop (mkF m 17 #[.val (.ref a1), .val (.int p2)] [(.ref b), (.ref a1)])) _
    refine XS.aloadN X4.here hx rfl (hb hby own_d_prog_103_method_2_17) rfl rfl ?_
    show Steps p.tables e below (T4.setTop (mkF m 18 #[.val (.ref a1), .val (.int p2)] [(.ref a1), (.ref b), (.ref a1)])) _
    refine st5 _ ?_
    show Steps p.tables e below (T5.setTop (mkF m 21 #[.val (.ref a1), .val (.int p2)] [(.int (16 : Int32)), (.ref b), (.ref a1)])) _
    refine XS.iconst X5.here hx rfl (hb hby own_d_prog_103_method_2_21) ?_
    exact kt
  have zs7 : n0 ≤ h0.size := Nat.le_trans Z0 K0.1
  obtain ⟨_, _, ⟨T8, L8, k8, n8⟩, -, X8, ⟨Lc8, hQ8, l8, y8, z8⟩, st8⟩ := Jvm.LawKit.callS X5 hx (y := (⟨"java/util/Arrays", "copyOf", "([II)[I"⟩ : MethodName)) hown (mvT hZ (hw _ (List.mem_of_getElem? (i := 30) rfl))) (mvT hZ (hw _ (List.mem_of_getElem? (i := 31) rfl))) (mvT hZ (hw _ (List.mem_of_getElem? (i := 32) rfl))) (mvT hZ (hw _ (List.mem_of_getElem? (i := 33) rfl))) (by decide) (backOf (W := 1) (own_rm_cpo l Z a0 hw [] b (32 : Int32) 16 32 f h0 n0 zs7 A1 rfl (by decide) (by decide) E2) hZ (hw _ (List.mem_of_getElem? (i := 33) rfl)) (hw _ (List.mem_of_getElem? (i := 32) rfl)) (by decide) (by decide)) (g := (mkF m 23 #[.val (.ref a1), .val (.int p2)] [(.int (32 : Int32)), (.ref b), (.ref a1)])) rfl (by rw [hml]; rfl) (argsL := [(.ref b), (.int (32 : Int32))]) (rest := [(.ref a1)]) (lenOf own_pd1 rfl) rfl (by show 2 * 0 + _ ≤ _; exact Nat.le_of_eq rfl) (hb hby own_d_prog_103_method_2_23) (fun _ _ => ⟨rfl, e5, (by decide : 0 + 1 ≤ _), (by decide : 0 + 32 ≤ _)⟩)
  dsimp only [Pt.U, Pt.locs, Pt.cells, Pt.slots] at X8 l8 y8 z8 st8 hQ8
  rw [l8, (y8 : k8 = 1), (z8 : n8 = 32)] at X8
  clear l8 y8 z8
  obtain ⟨r9, rfl, N9, K9, c9_0, c9_1, c9_2⟩ := hQ8
  have sz_r9 : h0.size ≤ r9 := Nat.le_trans K0.1 c9_0
  have gn_r9 : n0 ≤ r9 := Nat.le_trans Z0 sz_r9
  have ne_a1_r9 : a1 ≠ r9 := Nat.ne_of_lt (Nat.lt_of_lt_of_le F2.lt c9_0)
  have ne_b_r9 : b ≠ r9 := Nat.ne_of_lt (Nat.lt_of_lt_of_le E2.lt c9_0)
  have f10 := E1.keep K9
  have f11 := F1.keep K9 nin0
  have f12 := F2.keep K9 nin0
  have f13 := A1.keep K9 nin0
  have f14 := E2.keep K9
  have k15 := K0.trans K9 all0
  have nf16 := Fr.app N0 N9
  obtain ⟨T17, h17, X17, e17, W17, st17⟩ := putF X8 hx hZ hown (host := "") (Or.inl (hw _ (List.mem_of_getElem? (i := 11) rfl))) Via.refl rfl f11 f10 (Or.inl (hw _ (List.mem_of_getElem? (i := 12) rfl))) (hw _ (List.mem_of_getElem? (i := 2) rfl)) (ty := (.array .int)) (by decide) rfl rfl (g := (mkF m 26 #[.val (.ref a1), .val (.int p2)] [(.ref r9), (.ref a1)])) rfl rfl (hb hby own_d_prog_103_method_2_26)
  have f18 := f10.wr W17
  have f20 := f12.other W17 (Or.inr (slot_ne (Or.inl (hw _ (List.mem_of_getElem? (i := 29) rfl))) (Or.inl (hw _ (List.mem_of_getElem? (i := 12) rfl))) (by decide) (t := .int) (t' := (.array .int)) (by decide) (by decide)))
  have f21 := f13.other W17 (Ne.symm nab)
  have f22 := f14.wr W17
  have f23 := c9_1.other W17 (Ne.symm ne_a1_r9)
  have f24 := c9_2.wr W17
  have k25 := k15.wr W17 (Or.inl (List.mem_of_getElem? (i := 0) rfl))
  have nf26 := Fr.snoc X17 nf16 g1
  have f27 := f11.same W17
  obtain ⟨T28, X28, e28, st28⟩ := getF X17 hx hZ hown (host := "") (Or.inl (hw _ (List.mem_of_getElem? (i := 11) rfl))) Via.refl e17 f27 (g := (mkF m 30 #[.val (.ref a1), .val (.int p2)] [(.ref a1)])) rfl rfl (hb hby own_d_prog_103_method_2_30)
  obtain ⟨T29, X29, e29, st29⟩ := getF X28 hx hZ hown (host := "") (Or.inl (hw _ (List.mem_of_getElem? (i := 28) rfl))) Via.refl e28 f20 (g := (mkF m 35 #[.val (.ref a1), .val (.int p2)] [(.ref a1), (.ref a1), (.ref r9)])) rfl rfl (hb hby own_d_prog_103_method_2_35)
  obtain ⟨T30, h30, X30, e30, W30, st30⟩ := putF X29 hx hZ hown (host := "") (Or.inl (hw _ (List.mem_of_getElem? (i := 28) rfl))) Via.refl e29 f20 f18 (Or.inl (hw _ (List.mem_of_getElem? (i := 29) rfl))) (hw _ (List.mem_of_getElem? (i := 2) rfl)) (ty := .int) (by decide) rfl rfl (g := (mkF m 41 #[.val (.ref a1), .val (.int p2)] [(.int (17 : Int32)), (.ref a1), (.int (16 : Int32)), (.ref r9)])) rfl rfl (hb hby own_d_prog_103_method_2_41)
  have f31 := f18.wr W30
  have f32 := f27.other W30 (Or.inr (slot_ne (Or.inl (hw _ (List.mem_of_getElem? (i := 12) rfl))) (Or.inl (hw _ (List.mem_of_getElem? (i := 29) rfl))) (by decide) (t := (.array .int)) (t' := .int) (by decide) (by decide)))
  have f34 := f21.other W30 (Ne.symm nab)
  have f35 := f22.wr W30
  have f36 := f23.other W30 (Ne.symm ne_a1_r9)
  have f37 := f24.wr W30
  have k38 := k25.wr W30 (Or.inl (List.mem_of_getElem? (i := 0) rfl))
  have nf39 := Fr.snoc X30 nf26 g1
  have f40 := f20.same W30
  have pre41 : ∀ t, Steps p.tables e below (T30.setTop (mkF m 44 #[.val (.ref a1), .val (.int p2)] [(.int (16 : Int32)), (.ref r9)])) t → Steps p.tables e below (s₁.setTop (entryFrame m #[(.ref a1), (.int p2)] 2)) t := by
    intro t kt
    refine pre6 t ?_
    show Steps p.tables e below (T5.setTop (mkF m 22 #[.val (.ref a1), .val (.int p2)] [(.int (2 : Int32)), (.int (16 : Int32)), (.ref b), (.ref a1)])) _
    refine XS.imul X5.here hx rfl (hb hby own_d_prog_103_method_2_22) rfl ?_
    show Steps p.tables e below (T5.setTop (mkF m 23 #[.val (.ref a1), .val (.int p2)] [(.int (32 : Int32)), (.ref b), (.ref a1)])) _
    refine st8 _ ?_
    show Steps p.tables e below (T8.setTop (mkF m 26 #[.val (.ref a1), .val (.int p2)] [(.ref r9), (.ref a1)])) _
    refine st17 _ ?_
    show Steps p.tables e below (T17.setTop (mkF m 29 #[.val (.ref a1), .val (.int p2)] [])) _
    refine XS.aloadN X17.here hx rfl (hb hby own_d_prog_103_method_2_29) rfl rfl ?_
    show Steps p.tables e below (T17.setTop (mkF m 30 #[.val (.ref a1), .val (.int p2)] [(.ref a1)])) _
    refine st28 _ ?_
    show Steps p.tables e below (T28.setTop (mkF m 33 #[.val (.ref a1), .val (.int p2)] [(.ref r9)])) _
    refine XS.aloadN X28.here hx rfl (hb hby own_d_prog_103_method_2_33) rfl rfl ?_
    show Steps p.tables e below (T28.setTop (mkF m 34 #[.val (.ref a1), .val (.int p2)] [(.ref a1), (.ref r9)])) _
    refine XS.dup X28.here hx rfl (hb hby own_d_prog_103_method_2_34) rfl rfl ?_
    show Steps p.tables e below (T28.setTop (mkF m 35 #[.val (.ref a1), .val (.int p2)] [(.ref a1), (.ref a1), (.ref r9)])) _
    refine st29 _ ?_
    show Steps p.tables e below (T29.setTop (mkF m 38 #[.val (.ref a1), .val (.int p2)] [(.int (16 : Int32)), (.ref a1), (.ref r9)])) _
    refine XS.dupX1 X29.here hx rfl (hb hby own_d_prog_103_method_2_38) rfl rfl rfl ?_
    show Steps p.tables e below (T29.setTop (mkF m 39 #[.val (.ref a1), .val (.int p2)] [(.int (16 : Int32)), (.ref a1), (.int (16 : Int32)), (.ref r9)])) _
    refine XS.iconst X29.here hx rfl (hb hby own_d_prog_103_method_2_39) ?_
    show Steps p.tables e below (T29.setTop (mkF m 40 #[.val (.ref a1), .val (.int p2)] [(.int (1 : Int32)), (.int (16 : Int32)), (.ref a1), (.int (16 : Int32)), (.ref r9)])) _
    refine XS.iadd X29.here hx rfl (hb hby own_d_prog_103_method_2_40) rfl ?_
    show Steps p.tables e below (T29.setTop (mkF m 41 #[.val (.ref a1), .val (.int p2)] [(.int (17 : Int32)), (.ref a1), (.int (16 : Int32)), (.ref r9)])) _
    refine st30 _ ?_
    exact kt
  obtain ⟨cl42, Ar42, S42, H42⟩ := id f36
  have hin42 : ¬ ((16 : Int32) < 0 ∨ cl42.slots.size ≤ ((16 : Int32)).toNatClampNeg) := own_inb S42 (by decide) (by decide)
  obtain ⟨T43, h43, X43, e43, W43, st43⟩ := stI X30 hx hZ e30 Ar42 (j := (16 : Int32)) hin42 (g := (mkF m 45 #[.val (.ref a1), .val (.int p2)] [(.int p2), (.int (16 : Int32)), (.ref r9)])) rfl rfl (hb hby own_d_prog_103_method_2_45)
  have f44 := f31.wr W43
  have f45 := f32.other W43 (Or.inl ne_a1_r9)
  have f46 := f40.other W43 (Or.inl ne_a1_r9)
  have f47 := f34.other W43 ne_b_r9
  have f48 := f35.wr W43
  have f50 := f37.wr W43
  have k51 := k38.wr W43 (Or.inr sz_r9)
  have nf52 := Fr.snoc X43 nf39 gn_r9
  have f53 := f36.set W43
  have pre54 : ∀ t, Steps p.tables e below (T43.setTop (mkF m 46 #[.val (.ref a1), .val (.int p2)] [])) t → Steps p.tables e below (s₁.setTop (entryFrame m #[(.ref a1), (.int p2)] 2)) t := by
    intro t kt
    refine pre41 t ?_
    show Steps p.tables e below (T30.setTop (mkF m 44 #[.val (.ref a1), .val (.int p2)] [(.int (16 : Int32)), (.ref r9)])) _
    refine XS.iloadN X30.here hx rfl (hb hby own_d_prog_103_method_2_44) rfl ?_
    show Steps p.tables e below (T30.setTop (mkF m 45 #[.val (.ref a1), .val (.int p2)] [(.int p2), (.int (16 : Int32)), (.ref r9)])) _
    refine st43 _ ?_
    exact kt
  obtain ⟨fs, hr, hrun, hended, hW, hsame⟩ := X43.leave (v := none) (fun _ => rfl)
  refine ⟨_, _, pre54 _ ?_, hrun, hended, _, _, rfl, ?_, ⟨_, rfl⟩, hW, hsame.mono (by decide) (by decide)⟩
  · show Steps p.tables e below (T43.setTop (mkF m 46 #[.val (.ref a1), .val (.int p2)] [])) _
    exact X43.returnOut hx Bd.returns (hb hby own_d_prog_103_method_2_46) hr
  · show own_Q_adg Z a1 p2 b f h0 n0 (none) T43.heap _
    rw [e43]
    exact ⟨_, rfl, nf52, k51, sz_r9, f45, f46, f53, f50⟩
theorem own_d_method_3_0 : decode method_3_code 0 = .ok (.iload_n 1, 1) := by decide +kernel
theorem own_d_method_3_1 : decode method_3_code 1 = .ok (.iload_n 0, 1) := by decide +kernel
theorem own_d_method_3_2 : decode method_3_code 2 = .ok (.iload_n 2, 1) := by decide +kernel
theorem own_d_method_3_3 : decode method_3_code 3 = .ok (.imul, 1) := by decide +kernel
theorem own_d_method_3_4 : decode method_3_code 4 = .ok (.iadd, 1) := by decide +kernel
theorem own_d_method_3_5 : decode method_3_code 5 = .ok (.ireturn, 1) := by decide +kernel
theorem own_pn2 : plainName "com/example/interleaving/interleaving/store/StateGraphAddInitialPinLaw" = true := by first | (simp [plainName, overriddenIn]; done) | decide +kernel
theorem own_ef_v (m : MethodId) (p1 : Int32) (p2 : Int32) (p3 : Int32) : entryFrame m #[(.int p1), (.int p2), (.int p3)] 3 = mkF m 0 #[.val (.int p1), .val (.int p2), .val (.int p3)] [] := by first | (simp [entryFrame, mkF, argsToLocals, Value.category]; done) | rfl
def own_Q_v (Z : State) (p1 : Int32) (p2 : Int32) (p3 : Int32) (h0 : Heap) (n0 : Nat) (v : Option Value) (h : Heap) (L : List Loc) : Prop := v = some (.int (p2 + (p1 * p3))) ∧ Fr n0 L ∧ h = h0
set_option maxRecDepth 65536 in
set_option maxHeartbeats 40000000 in
theorem own_rm_v (l : Launch) (Z : State) (a0 : Array Value) (hw : ∀ d ∈ tables_1, d.before a0 Z = true) (ws : List Jvm.Cond) (p1 : Int32) (p2 : Int32) (p3 : Int32) (h0 : Heap) (n0 : Nat) (Z0 : n0 ≤ h0.size) :
    MetFree l (⟨"com/example/interleaving/interleaving/store/StateGraphAddInitialPinLaw", "v", "(III)I"⟩ : MethodName) (head1 (Jvm.Cond.code (⟨"com/example/interleaving/interleaving/store/StateGraphAddInitialPinLaw", "v", "(III)I"⟩ : MethodName) method_3_code 3 (some .int) :: ws) ({ frames := 0, cells := 0, slots := 0, locals := 0 } : Room)) (fun a U => a = #[(.int p1), (.int p2), (.int p3)] ∧ Z.Warmed39 U.vm ∧ U.heap = h0) (fun _ _ _ _ _ => True) (fun _ U o U' => ∃ v L, o = .returned v ∧ own_Q_v Z p1 p2 p3 h0 n0 v U'.heap L ∧ FrameEnd U o U' L ({ frames := 0, cells := 0, slots := 0, locals := 0 } : Room).cells ({ frames := 0, cells := 0, slots := 0, locals := 0 } : Room).slots) := by
  refine MetFree.of_bodySF (plainFor_of_name own_pn2) hisR ?_
  intro p e s m args below meth c s₁ Bd hml0 hP hK
  obtain ⟨rfl, hZ, hh⟩ := hP
  have hx := Bd.exec
  have hby := Bd.bytes
  have hml : c.maxLocals = 3 := hml0
  have hown : s.vm.findClass "com/example/interleaving/interleaving/store/StateGraphAddInitialPinLaw" = some m.cls := findClass_of_methodNamed Bd.named
  have hnm := (name_of_methodNamed Bd.named Bd.method).1
  have X0 : Stand p l e ({ frames := 0, cells := 0, slots := 0, locals := 0 } : Room) s m #[(.int p1), (.int p2), (.int p3)] below meth c s₁ [] 0 0 := Stand.of_body Bd
  have e0 : s₁.heap = h0 := by rw [← hh, Bd.state]; rfl
  have N0 := Fr.nil n0
  have K0 : Keep h0 h0 [] := Keep.refl _ _
  have pre0 : ∀ t, Steps p.tables e below (s₁.setTop (mkF m 0 #[.val (.int p1), .val (.int p2), .val (.int p3)] [])) t → Steps p.tables e below (s₁.setTop (entryFrame m #[(.int p1), (.int p2), (.int p3)] 3)) t := fun t k => castTop (own_ef_v m p1 p2 p3) k
  have pre1 : ∀ t, Steps p.tables e below (s₁.setTop (mkF m 5 #[.val (.int p1), .val (.int p2), .val (.int p3)] [(.int (p2 + (p1 * p3)))])) t → Steps p.tables e below (s₁.setTop (entryFrame m #[(.int p1), (.int p2), (.int p3)] 3)) t := by
    intro t kt
    refine pre0 t ?_
    show Steps p.tables e below (s₁.setTop (mkF m 0 #[.val (.int p1), .val (.int p2), .val (.int p3)] [])) _
    refine XS.iloadN X0.here hx rfl (hb hby own_d_method_3_0) rfl ?_
    show Steps p.tables e below (s₁.setTop (mkF m 1 #[.val (.int p1), .val (.int p2), .val (.int p3)] [(.int p2)])) _
    refine XS.iloadN X0.here hx rfl (hb hby own_d_method_3_1) rfl ?_
    show Steps p.tables e below (s₁.setTop (mkF m 2 #[.val (.int p1), .val (.int p2), .val (.int p3)] [(.int p1), (.int p2)])) _
    refine XS.iloadN X0.here hx rfl (hb hby own_d_method_3_2) rfl ?_
    show Steps p.tables e below (s₁.setTop (mkF m 3 #[.val (.int p1), .val (.int p2), .val (.int p3)] [(.int p3), (.int p1), (.int p2)])) _
    refine XS.imul X0.here hx rfl (hb hby own_d_method_3_3) rfl ?_
    show Steps p.tables e below (s₁.setTop (mkF m 4 #[.val (.int p1), .val (.int p2), .val (.int p3)] [(.int (p1 * p3)), (.int p2)])) _
    refine XS.iadd X0.here hx rfl (hb hby own_d_method_3_4) rfl ?_
    exact kt
  obtain ⟨fs, hr, hrun, hended, hW, hsame⟩ := X0.leave (v := some (.int (p2 + (p1 * p3)))) (fun h => by rw [Bd.returns] at h; cases h)
  refine ⟨_, _, pre1 _ ?_, hrun, hended, _, _, rfl, ?_, ⟨_, rfl⟩, hW, hsame.mono (by decide) (by decide)⟩
  · show Steps p.tables e below (s₁.setTop (mkF m 5 #[.val (.int p1), .val (.int p2), .val (.int p3)] [(.int (p2 + (p1 * p3)))])) _
    exact retI X0 hx Bd.returns (hb hby own_d_method_3_5) hr
  · show own_Q_v Z p1 p2 p3 h0 n0 (some (.int (p2 + (p1 * p3)))) s₁.heap _
    rw [e0]
    exact ⟨rfl, N0, rfl⟩
theorem own_d_method_4_0 : decode method_4_code 0 = .ok (.iload_n 2, 1) := by decide +kernel
theorem own_d_method_4_1 : decode method_4_code 1 = .ok (.iload_n 1, 1) := by decide +kernel
theorem own_d_method_4_2 : decode method_4_code 2 = .ok (.if_icmp .ge 14, 3) := by decide +kernel
theorem own_d_method_4_5 : decode method_4_code 5 = .ok (.aload_n 0, 1) := by decide +kernel
theorem own_d_method_4_6 : decode method_4_code 6 = .ok (.iload_n 2, 1) := by decide +kernel
theorem own_d_method_4_7 : decode method_4_code 7 = .ok (.iload_n 3, 1) := by decide +kernel
theorem own_d_method_4_8 : decode method_4_code 8 = .ok (.iload 4, 2) := by decide +kernel
theorem own_d_method_4_10 : decode method_4_code 10 = .ok (.invokestatic 25, 3) := by decide +kernel
theorem own_d_method_4_13 : decode method_4_code 13 = .ok (.invokevirtual 29, 3) := by decide +kernel
theorem own_d_method_4_16 : decode method_4_code 16 = .ok (.return_, 1) := by decide +kernel
theorem own_pd2 : parseMethodDescriptor "(III)I" = some ⟨[.int, .int, .int], some .int⟩ := by decide +kernel
theorem own_pd3 : parseMethodDescriptor "(I)V" = some ⟨[.int], none⟩ := by decide +kernel
theorem own_ef_adn (m : MethodId) (a1 : Addr) (p1 : Int32) (p2 : Int32) (p3 : Int32) (p4 : Int32) : entryFrame m #[(.ref a1), (.int p1), (.int p2), (.int p3), (.int p4)] 5 = mkF m 0 #[.val (.ref a1), .val (.int p1), .val (.int p2), .val (.int p3), .val (.int p4)] [] := by first | (simp [entryFrame, mkF, argsToLocals, Value.category]; done) | rfl
def own_Q_adn (Z : State) (a1 : Addr) (p1 : Int32) (p2 : Int32) (p3 : Int32) (p4 : Int32) (nn : Nat) (ii : Nat) (h0 : Heap) (n0 : Nat) (v : Option Value) (h : Heap) (L : List Loc) : Prop := v = none ∧ Fr n0 L ∧ (∃ ws : List Addr, (∀ x ∈ ws, n0 ≤ x) ∧ Keep h0 h ws) ∧ own_St Z h n0 a1 (min (ii + 1) nn) (own_F p3 p4)
set_option maxRecDepth 65536 in
set_option maxHeartbeats 40000000 in
theorem own_rm_adn (l : Launch) (Z : State) (a0 : Array Value) (hw : ∀ d ∈ tables_1, d.before a0 Z = true) (ws : List Jvm.Cond) (a1 : Addr) (p1 : Int32) (p2 : Int32) (p3 : Int32) (p4 : Int32) (nn : Nat) (ii : Nat) (h0 : Heap) (n0 : Nat) (Z0 : n0 ≤ h0.size) (St : own_St Z h0 n0 a1 (min ii nn) (own_F p3 p4)) (hn : p1 = Int32.ofNat nn) (hnn : nn ≤ 20) (hi : p2 = Int32.ofNat ii) (hii : ii < 20) (hi6 : ii ≠ 16) :
    MetFree l (⟨"com/example/interleaving/interleaving/store/StateGraphAddInitialPinLaw", "add", "(Lcom/example/interleaving/interleaving/store/StateGraph;IIII)V"⟩ : MethodName) (head1 (Jvm.Cond.code (⟨"com/example/interleaving/interleaving/store/StateGraphAddInitialPinLaw", "add", "(Lcom/example/interleaving/interleaving/store/StateGraph;IIII)V"⟩ : MethodName) method_4_code 5 none :: ws) ({ frames := 1, cells := 0, slots := 0, locals := 15 } : Room)) (fun a U => a = #[(.ref a1), (.int p1), (.int p2), (.int p3), (.int p4)] ∧ Z.Warmed39 U.vm ∧ U.heap = h0) (fun _ _ _ _ _ => True) (fun _ U o U' => ∃ v L, o = .returned v ∧ own_Q_adn Z a1 p1 p2 p3 p4 nn ii h0 n0 v U'.heap L ∧ FrameEnd U o U' L ({ frames := 1, cells := 0, slots := 0, locals := 15 } : Room).cells ({ frames := 1, cells := 0, slots := 0, locals := 15 } : Room).slots) := by
  refine MetFree.of_bodySF (plainFor_of_name own_pn2) hisR ?_
  intro p e s m args below meth c s₁ Bd hml0 hP hK
  obtain ⟨rfl, hZ, hh⟩ := hP
  have hx := Bd.exec
  have hby := Bd.bytes
  have hml : c.maxLocals = 5 := hml0
  have hown : s.vm.findClass "com/example/interleaving/interleaving/store/StateGraphAddInitialPinLaw" = some m.cls := findClass_of_methodNamed Bd.named
  have hnm := (name_of_methodNamed Bd.named Bd.method).1
  have X0 : Stand p l e ({ frames := 1, cells := 0, slots := 0, locals := 15 } : Room) s m #[(.ref a1), (.int p1), (.int p2), (.int p3), (.int p4)] below meth c s₁ [] 0 0 := Stand.of_body Bd
  have e0 : s₁.heap = h0 := by rw [← hh, Bd.state]; rfl
  have N0 := Fr.nil n0
  have K0 : Keep h0 h0 [] := Keep.refl _ _
  have pre0 : ∀ t, Steps p.tables e below (s₁.setTop (mkF m 0 #[.val (.ref a1), .val (.int p1), .val (.int p2), .val (.int p3), .val (.int p4)] [])) t → Steps p.tables e below (s₁.setTop (entryFrame m #[(.ref a1), (.int p1), (.int p2), (.int p3), (.int p4)] 5)) t := fun t k => castTop (own_ef_adn m a1 p1 p2 p3 p4) k
  obtain ⟨b, f, E1, F1, F2, A1, E2, g1, g2, nab, hk, hf⟩ := id St
  have K1 : Keep h0 h0 [a1, b] := Keep.refl _ _
  have pre1 : ∀ t, Steps p.tables e below (s₁.setTop (mkF m 2 #[.val (.ref a1), .val (.int p1), .val (.int p2), .val (.int p3), .val (.int p4)] [(.int p1), (.int p2)])) t → Steps p.tables e below (s₁.setTop (entryFrame m #[(.ref a1), (.int p1), (.int p2), (.int p3), (.int p4)] 5)) t := by
    intro t kt
    refine pre0 t ?_
    show Steps p.tables e below (s₁.setTop (mkF m 0 #[.val (.ref a1), .val (.int p1), .val (.int p2), .val (.int p3), .val (.int p4)] [])) _
    refine XS.iloadN X0.here hx rfl (hb hby own_d_method_4_0) rfl ?_
    show Steps p.tables e below (s₁.setTop (mkF m 1 #[.val (.ref a1), .val (.int p1), .val (.int p2), .val (.int p3), .val (.int p4)] [(.int p2)])) _
    refine XS.iloadN X0.here hx rfl (hb hby own_d_method_4_1) rfl ?_
    exact kt
  by_cases hc2 : p2 < p1
  · have zs3 : n0 ≤ h0.size := Nat.le_trans Z0 K1.1
    obtain ⟨_, _, ⟨T4, L4, k4, n4⟩, -, X4, ⟨Lc4, hQ4, l4, y4, z4⟩, st4⟩ := Jvm.LawKit.callS X0 hx (y := (⟨"com/example/interleaving/interleaving/store/StateGraphAddInitialPinLaw", "v", "(III)I"⟩ : MethodName)) hown (mvT hZ (hw _ (List.mem_of_getElem? (i := 45) rfl))) (mvT hZ (hw _ (List.mem_of_getElem? (i := 46) rfl))) (mvT hZ (hw _ (List.mem_of_getElem? (i := 21) rfl))) (mvT hZ (hw _ (List.mem_of_getElem? (i := 47) rfl))) (by decide) (backOf (W := 1) (own_rm_v l Z a0 hw [] p2 p3 p4 h0 n0 zs3 ) hZ (hw _ (List.mem_of_getElem? (i := 47) rfl)) (hw _ (List.mem_of_getElem? (i := 21) rfl)) (by decide) (by decide)) (g := (mkF m 10 #[.val (.ref a1), .val (.int p1), .val (.int p2), .val (.int p3), .val (.int p4)] [(.int p4), (.int p3), (.int p2), (.ref a1)])) rfl (by rw [hml]; rfl) (argsL := [(.int p2), (.int p3), (.int p4)]) (rest := [(.ref a1)]) (lenOf own_pd2 rfl) rfl (by show 2 * 0 + _ ≤ _; exact Nat.le_of_eq rfl) (hb hby own_d_method_4_10) (fun _ _ => ⟨rfl, e0, (by decide : 0 + 0 ≤ _), (by decide : 0 + 0 ≤ _)⟩)
    dsimp only [Pt.U, Pt.locs, Pt.cells, Pt.slots] at X4 l4 y4 z4 st4 hQ4
    rw [l4, (y4 : k4 = 0), (z4 : n4 = 0)] at X4
    clear l4 y4 z4
    obtain ⟨rfl, N5, eq5⟩ := hQ4
    have nf6 := Fr.app N0 N5
    have lt0 : ii < nn := (own_lt2 hi hn (by omega) (by omega)).mp hc2
    have km : min ii nn = ii := by omega
    rw [km] at F2 A1 hf hk
    have zs7 : n0 ≤ h0.size := Nat.le_trans Z0 K1.1
    obtain ⟨cq9, kq9, q9a, q9b, q9c⟩ := isOf hZ eq5 E1
    obtain ⟨_, _, ⟨T8, L8, k8, n8⟩, -, X8, ⟨Lc8, hQ8, l8, y8, z8⟩, st8⟩ := X4.virtualBack hx (y := (⟨"com/example/interleaving/interleaving/store/StateGraph", "addInitial", "(I)V"⟩ : MethodName)) (z := (⟨"com/example/interleaving/interleaving/store/StateGraph", "addInitial", "(I)V"⟩ : MethodName)) hown (mvT hZ (hw _ (List.mem_of_getElem? (i := 48) rfl))) (mvT hZ (hw _ (List.mem_of_getElem? (i := 49) rfl))) (notFace_of_selects (args := #[]) (mvT hZ (hw _ (List.mem_of_getElem? (i := 51) rfl)))) (mvT hZ (hw _ (List.mem_of_getElem? (i := 51) rfl))) (mvT hZ (hw _ (List.mem_of_getElem? (i := 50) rfl))) (by decide) (backOf (W := 0) (own_rm_add l Z a0 hw [] a1 (p3 + (p2 * p4)) b ii (own_cap ii) f h0 n0 zs7 E1 F1 F2 A1 g1 g2 nab (by simp only [own_cap]; split <;> omega) (own_capk hk).2) hZ (hw _ (List.mem_of_getElem? (i := 52) rfl)) (hw _ (List.mem_of_getElem? (i := 3) rfl)) (by decide) (by decide)) q9a q9c (g := (mkF m 13 #[.val (.ref a1), .val (.int p1), .val (.int p2), .val (.int p3), .val (.int p4)] [(.int (p3 + (p2 * p4))), (.ref a1)])) rfl (by rw [hml]; rfl) (Steps.refl _) (argsL := [(.int (p3 + (p2 * p4)))]) (rest := []) (lenOf own_pd3 rfl) rfl (by show 2 * 0 + _ ≤ _; exact Nat.le_of_eq rfl) (hb hby own_d_method_4_13) (fun _ _ => ⟨rfl, eq5, (by decide : 0 + 0 ≤ _), (by decide : 0 + 0 ≤ _)⟩)
    dsimp only [Pt.U, Pt.locs, Pt.cells, Pt.slots] at X8 l8 y8 z8 st8 hQ8
    rw [l8, (y8 : k8 = 0), (z8 : n8 = 0)] at X8
    clear l8 y8 z8
    obtain ⟨rfl, N10, K10, c10_0, c10_1, c10_2⟩ := hQ8
    have f11 := E1.keep K10
    have f12 := E2.keep K10
    have k13 := K1.trans K10 (allS (Or.inl (List.mem_of_getElem? (i := 0) rfl)) (allS (Or.inl (List.mem_of_getElem? (i := 1) rfl)) all0))
    have nf14 := Fr.app nf6 N10
    have pre15 : ∀ t, Steps p.tables e below (T8.setTop (mkF m 16 #[.val (.ref a1), .val (.int p1), .val (.int p2), .val (.int p3), .val (.int p4)] [])) t → Steps p.tables e below (s₁.setTop (entryFrame m #[(.ref a1), (.int p1), (.int p2), (.int p3), (.int p4)] 5)) t := by
      intro t kt
      refine pre1 t ?_
      show Steps p.tables e below (s₁.setTop (mkF m 2 #[.val (.ref a1), .val (.int p1), .val (.int p2), .val (.int p3), .val (.int p4)] [(.int p1), (.int p2)])) _
      refine XS.icmpNo X0.here hx rfl (hb hby own_d_method_4_2) rfl (tlt hc2).2.1 ?_
      show Steps p.tables e below (s₁.setTop (mkF m 5 #[.val (.ref a1), .val (.int p1), .val (.int p2), .val (.int p3), .val (.int p4)] [])) _
      refine XS.aloadN X0.here hx rfl (hb hby own_d_method_4_5) rfl rfl ?_
      show Steps p.tables e below (s₁.setTop (mkF m 6 #[.val (.ref a1), .val (.int p1), .val (.int p2), .val (.int p3), .val (.int p4)] [(.ref a1)])) _
      refine XS.iloadN X0.here hx rfl (hb hby own_d_method_4_6) rfl ?_
      show Steps p.tables e below (s₁.setTop (mkF m 7 #[.val (.ref a1), .val (.int p1), .val (.int p2), .val (.int p3), .val (.int p4)] [(.int p2), (.ref a1)])) _
      refine XS.iloadN X0.here hx rfl (hb hby own_d_method_4_7) rfl ?_
      show Steps p.tables e below (s₁.setTop (mkF m 8 #[.val (.ref a1), .val (.int p1), .val (.int p2), .val (.int p3), .val (.int p4)] [(.int p3), (.int p2), (.ref a1)])) _
      refine XS.iload X0.here hx rfl (hb hby own_d_method_4_8) rfl ?_
      show Steps p.tables e below (s₁.setTop (mkF m 10 #[.val (.ref a1), .val (.int p1), .val (.int p2), .val (.int p3), .val (.int p4)] [(.int p4), (.int p3), (.int p2), (.ref a1)])) _
      refine st4 _ ?_
      show Steps p.tables e below (T4.setTop (mkF m 13 #[.val (.ref a1), .val (.int p1), .val (.int p2), .val (.int p3), .val (.int p4)] [(.int (p3 + (p2 * p4))), (.ref a1)])) _
      refine st8.trans ?_
      exact kt
    obtain ⟨fs, hr, hrun, hended, hW, hsame⟩ := X8.leave (v := none) (fun _ => rfl)
    refine ⟨_, _, pre15 _ ?_, hrun, hended, _, _, rfl, ?_, ⟨_, rfl⟩, hW, hsame.mono (by decide) (by decide)⟩
    · show Steps p.tables e below (T8.setTop (mkF m 16 #[.val (.ref a1), .val (.int p1), .val (.int p2), .val (.int p3), .val (.int p4)] [])) _
      exact X8.returnOut hx Bd.returns (hb hby own_d_method_4_16) hr
    · show own_Q_adn Z a1 p1 p2 p3 p4 nn ii h0 n0 (none) T8.heap _
      skip
      have k1 : min (ii + 1) nn = ii + 1 := by omega
      exact ⟨rfl, nf14, ⟨_, allS g1 (allS g2 all0), k13⟩, by rw [k1]; exact own_stN f11 c10_0 c10_1 c10_2 f12 g1 g2 nab (by omega) hi6 hf (by rw [hi]; rfl)⟩
  · have pre16 : ∀ t, Steps p.tables e below (s₁.setTop (mkF m 16 #[.val (.ref a1), .val (.int p1), .val (.int p2), .val (.int p3), .val (.int p4)] [])) t → Steps p.tables e below (s₁.setTop (entryFrame m #[(.ref a1), (.int p1), (.int p2), (.int p3), (.int p4)] 5)) t := by
      intro t kt
      refine pre1 t ?_
      show Steps p.tables e below (s₁.setTop (mkF m 2 #[.val (.ref a1), .val (.int p1), .val (.int p2), .val (.int p3), .val (.int p4)] [(.int p1), (.int p2)])) _
      refine XS.icmpYes X0.here hx rfl (pc0 := 2) (pc' := 16) rfl (hb hby own_d_method_4_2) rfl (flt hc2).2.1 (by decide) (by decide) ?_
      exact kt
    obtain ⟨fs, hr, hrun, hended, hW, hsame⟩ := X0.leave (v := none) (fun _ => rfl)
    refine ⟨_, _, pre16 _ ?_, hrun, hended, _, _, rfl, ?_, ⟨_, rfl⟩, hW, hsame.mono (by decide) (by decide)⟩
    · show Steps p.tables e below (s₁.setTop (mkF m 16 #[.val (.ref a1), .val (.int p1), .val (.int p2), .val (.int p3), .val (.int p4)] [])) _
      exact X0.returnOut hx Bd.returns (hb hby own_d_method_4_16) hr
    · show own_Q_adn Z a1 p1 p2 p3 p4 nn ii h0 n0 (none) s₁.heap _
      rw [e0]
      have ge0 : ¬ ii < nn := fun q => hc2 ((own_lt2 hi hn (by omega) (by omega)).mpr q)
      exact ⟨rfl, N0, ⟨[], all0, Keep.refl _ _⟩, by rw [show min (ii + 1) nn = min ii nn by omega]; exact St⟩
theorem own_ef_adG (m : MethodId) (a1 : Addr) (p1 : Int32) (p3 : Int32) (p4 : Int32) : entryFrame m #[(.ref a1), (.int p1), (.int (16 : Int32)), (.int p3), (.int p4)] 5 = mkF m 0 #[.val (.ref a1), .val (.int p1), .val (.int (16 : Int32)), .val (.int p3), .val (.int p4)] [] := by first | (simp [entryFrame, mkF, argsToLocals, Value.category]; done) | rfl
def own_Q_adG (Z : State) (a1 : Addr) (p1 : Int32) (p3 : Int32) (p4 : Int32) (nn : Nat) (h0 : Heap) (n0 : Nat) (v : Option Value) (h : Heap) (L : List Loc) : Prop := v = none ∧ Fr n0 L ∧ (∃ ws : List Addr, (∀ x ∈ ws, n0 ≤ x) ∧ Keep h0 h ws) ∧ own_St Z h n0 a1 (min (16 + 1) nn) (own_F p3 p4)
set_option maxRecDepth 65536 in
set_option maxHeartbeats 40000000 in
theorem own_rm_adG (l : Launch) (Z : State) (a0 : Array Value) (hw : ∀ d ∈ tables_1, d.before a0 Z = true) (ws : List Jvm.Cond) (a1 : Addr) (p1 : Int32) (p3 : Int32) (p4 : Int32) (nn : Nat) (h0 : Heap) (n0 : Nat) (Z0 : n0 ≤ h0.size) (St : own_St Z h0 n0 a1 (min 16 nn) (own_F p3 p4)) (hn : p1 = Int32.ofNat nn) (hnn : nn ≤ 20) :
    MetFree l (⟨"com/example/interleaving/interleaving/store/StateGraphAddInitialPinLaw", "add", "(Lcom/example/interleaving/interleaving/store/StateGraph;IIII)V"⟩ : MethodName) (head1 (Jvm.Cond.code (⟨"com/example/interleaving/interleaving/store/StateGraphAddInitialPinLaw", "add", "(Lcom/example/interleaving/interleaving/store/StateGraph;IIII)V"⟩ : MethodName) method_4_code 5 none :: ws) ({ frames := 3, cells := 1, slots := 32, locals := 68 } : Room)) (fun a U => a = #[(.ref a1), (.int p1), (.int (16 : Int32)), (.int p3), (.int p4)] ∧ Z.Warmed39 U.vm ∧ U.heap = h0) (fun _ _ _ _ _ => True) (fun _ U o U' => ∃ v L, o = .returned v ∧ own_Q_adG Z a1 p1 p3 p4 nn h0 n0 v U'.heap L ∧ FrameEnd U o U' L ({ frames := 3, cells := 1, slots := 32, locals := 68 } : Room).cells ({ frames := 3, cells := 1, slots := 32, locals := 68 } : Room).slots) := by
  refine MetFree.of_bodySF (plainFor_of_name own_pn2) hisR ?_
  intro p e s m args below meth c s₁ Bd hml0 hP hK
  obtain ⟨rfl, hZ, hh⟩ := hP
  have hx := Bd.exec
  have hby := Bd.bytes
  have hml : c.maxLocals = 5 := hml0
  have hown : s.vm.findClass "com/example/interleaving/interleaving/store/StateGraphAddInitialPinLaw" = some m.cls := findClass_of_methodNamed Bd.named
  have hnm := (name_of_methodNamed Bd.named Bd.method).1
  have X0 : Stand p l e ({ frames := 3, cells := 1, slots := 32, locals := 68 } : Room) s m #[(.ref a1), (.int p1), (.int (16 : Int32)), (.int p3), (.int p4)] below meth c s₁ [] 0 0 := Stand.of_body Bd
  have e0 : s₁.heap = h0 := by rw [← hh, Bd.state]; rfl
  have N0 := Fr.nil n0
  have K0 : Keep h0 h0 [] := Keep.refl _ _
  have pre0 : ∀ t, Steps p.tables e below (s₁.setTop (mkF m 0 #[.val (.ref a1), .val (.int p1), .val (.int (16 : Int32)), .val (.int p3), .val (.int p4)] [])) t → Steps p.tables e below (s₁.setTop (entryFrame m #[(.ref a1), (.int p1), (.int (16 : Int32)), (.int p3), (.int p4)] 5)) t := fun t k => castTop (own_ef_adG m a1 p1 p3 p4) k
  obtain ⟨b, f, E1, F1, F2, A1, E2, g1, g2, nab, hk, hf⟩ := id St
  have K1 : Keep h0 h0 [a1] := Keep.refl _ _
  have pre1 : ∀ t, Steps p.tables e below (s₁.setTop (mkF m 2 #[.val (.ref a1), .val (.int p1), .val (.int (16 : Int32)), .val (.int p3), .val (.int p4)] [(.int p1), (.int (16 : Int32))])) t → Steps p.tables e below (s₁.setTop (entryFrame m #[(.ref a1), (.int p1), (.int (16 : Int32)), (.int p3), (.int p4)] 5)) t := by
    intro t kt
    refine pre0 t ?_
    show Steps p.tables e below (s₁.setTop (mkF m 0 #[.val (.ref a1), .val (.int p1), .val (.int (16 : Int32)), .val (.int p3), .val (.int p4)] [])) _
    refine XS.iloadN X0.here hx rfl (hb hby own_d_method_4_0) rfl ?_
    show Steps p.tables e below (s₁.setTop (mkF m 1 #[.val (.ref a1), .val (.int p1), .val (.int (16 : Int32)), .val (.int p3), .val (.int p4)] [(.int (16 : Int32))])) _
    refine XS.iloadN X0.here hx rfl (hb hby own_d_method_4_1) rfl ?_
    exact kt
  by_cases hc2 : (16 : Int32) < p1
  · have zs3 : n0 ≤ h0.size := Nat.le_trans Z0 K1.1
    obtain ⟨_, _, ⟨T4, L4, k4, n4⟩, -, X4, ⟨Lc4, hQ4, l4, y4, z4⟩, st4⟩ := Jvm.LawKit.callS X0 hx (y := (⟨"com/example/interleaving/interleaving/store/StateGraphAddInitialPinLaw", "v", "(III)I"⟩ : MethodName)) hown (mvT hZ (hw _ (List.mem_of_getElem? (i := 45) rfl))) (mvT hZ (hw _ (List.mem_of_getElem? (i := 46) rfl))) (mvT hZ (hw _ (List.mem_of_getElem? (i := 21) rfl))) (mvT hZ (hw _ (List.mem_of_getElem? (i := 47) rfl))) (by decide) (backOf (W := 1) (own_rm_v l Z a0 hw [] (16 : Int32) p3 p4 h0 n0 zs3 ) hZ (hw _ (List.mem_of_getElem? (i := 47) rfl)) (hw _ (List.mem_of_getElem? (i := 21) rfl)) (by decide) (by decide)) (g := (mkF m 10 #[.val (.ref a1), .val (.int p1), .val (.int (16 : Int32)), .val (.int p3), .val (.int p4)] [(.int p4), (.int p3), (.int (16 : Int32)), (.ref a1)])) rfl (by rw [hml]; rfl) (argsL := [(.int (16 : Int32)), (.int p3), (.int p4)]) (rest := [(.ref a1)]) (lenOf own_pd2 rfl) rfl (by show 2 * 0 + _ ≤ _; exact Nat.le_of_eq rfl) (hb hby own_d_method_4_10) (fun _ _ => ⟨rfl, e0, (by decide : 0 + 0 ≤ _), (by decide : 0 + 0 ≤ _)⟩)
    dsimp only [Pt.U, Pt.locs, Pt.cells, Pt.slots] at X4 l4 y4 z4 st4 hQ4
    rw [l4, (y4 : k4 = 0), (z4 : n4 = 0)] at X4
    clear l4 y4 z4
    obtain ⟨rfl, N5, eq5⟩ := hQ4
    have nf6 := Fr.app N0 N5
    have lt0 : 16 < nn := (own_lt2 (rfl : (16 : Int32) = Int32.ofNat 16) hn (by decide) (by omega)).mp hc2
    have km : min 16 nn = 16 := by omega
    rw [km] at F2 A1 hf hk
    have A2 : own_A Z h0 b 16 f := A1
    have F3 : Fld Z h0 a1 "com/example/interleaving/interleaving/store/StateGraph" "initialCount" "I" (.int (16 : Int32)) := F2
    have zs7 : n0 ≤ h0.size := Nat.le_trans Z0 K1.1
    obtain ⟨cq9, kq9, q9a, q9b, q9c⟩ := isOf hZ eq5 E1
    obtain ⟨_, _, ⟨T8, L8, k8, n8⟩, -, X8, ⟨Lc8, hQ8, l8, y8, z8⟩, st8⟩ := X4.virtualBack hx (y := (⟨"com/example/interleaving/interleaving/store/StateGraph", "addInitial", "(I)V"⟩ : MethodName)) (z := (⟨"com/example/interleaving/interleaving/store/StateGraph", "addInitial", "(I)V"⟩ : MethodName)) hown (mvT hZ (hw _ (List.mem_of_getElem? (i := 48) rfl))) (mvT hZ (hw _ (List.mem_of_getElem? (i := 49) rfl))) (notFace_of_selects (args := #[]) (mvT hZ (hw _ (List.mem_of_getElem? (i := 51) rfl)))) (mvT hZ (hw _ (List.mem_of_getElem? (i := 51) rfl))) (mvT hZ (hw _ (List.mem_of_getElem? (i := 50) rfl))) (by decide) (backOf (W := 0) (own_rm_adg l Z a0 hw [] a1 (p3 + ((16 : Int32) * p4)) b f h0 n0 zs7 E1 F1 F3 A2 E2 g1) hZ (hw _ (List.mem_of_getElem? (i := 52) rfl)) (hw _ (List.mem_of_getElem? (i := 3) rfl)) (by decide) (by decide)) q9a q9c (g := (mkF m 13 #[.val (.ref a1), .val (.int p1), .val (.int (16 : Int32)), .val (.int p3), .val (.int p4)] [(.int (p3 + ((16 : Int32) * p4))), (.ref a1)])) rfl (by rw [hml]; rfl) (Steps.refl _) (argsL := [(.int (p3 + ((16 : Int32) * p4)))]) (rest := []) (lenOf own_pd3 rfl) rfl (by show 2 * 0 + _ ≤ _; exact Nat.le_of_eq rfl) (hb hby own_d_method_4_13) (fun _ _ => ⟨rfl, eq5, (by decide : 0 + 1 ≤ _), (by decide : 0 + 32 ≤ _)⟩)
    dsimp only [Pt.U, Pt.locs, Pt.cells, Pt.slots] at X8 l8 y8 z8 st8 hQ8
    rw [l8, (y8 : k8 = 1), (z8 : n8 = 32)] at X8
    clear l8 y8 z8
    obtain ⟨rx10, rfl, N10, K10, c10_0, c10_1, c10_2, c10_3, c10_4⟩ := hQ8
    have sz_rx10 : h0.size ≤ rx10 := Nat.le_trans K1.1 c10_0
    have gn_rx10 : n0 ≤ rx10 := Nat.le_trans Z0 sz_rx10
    have ne_a1_rx10 : a1 ≠ rx10 := Nat.ne_of_lt (Nat.lt_of_lt_of_le E1.lt c10_0)
    have ne_b_rx10 : b ≠ rx10 := Nat.ne_of_lt (Nat.lt_of_lt_of_le E2.lt c10_0)
    have f11 := E1.keep K10
    have f12 := E2.keep K10
    have k13 := K1.trans K10 (allS (Or.inl (List.mem_of_getElem? (i := 0) rfl)) all0)
    have nf14 := Fr.app nf6 N10
    have pre15 : ∀ t, Steps p.tables e below (T8.setTop (mkF m 16 #[.val (.ref a1), .val (.int p1), .val (.int (16 : Int32)), .val (.int p3), .val (.int p4)] [])) t → Steps p.tables e below (s₁.setTop (entryFrame m #[(.ref a1), (.int p1), (.int (16 : Int32)), (.int p3), (.int p4)] 5)) t := by
      intro t kt
      refine pre1 t ?_
      show Steps p.tables e below (s₁.setTop (mkF m 2 #[.val (.ref a1), .val (.int p1), .val (.int (16 : Int32)), .val (.int p3), .val (.int p4)] [(.int p1), (.int (16 : Int32))])) _
      refine XS.icmpNo X0.here hx rfl (hb hby own_d_method_4_2) rfl (tlt hc2).2.1 ?_
      show Steps p.tables e below (s₁.setTop (mkF m 5 #[.val (.ref a1), .val (.int p1), .val (.int (16 : Int32)), .val (.int p3), .val (.int p4)] [])) _
      refine XS.aloadN X0.here hx rfl (hb hby own_d_method_4_5) rfl rfl ?_
      show Steps p.tables e below (s₁.setTop (mkF m 6 #[.val (.ref a1), .val (.int p1), .val (.int (16 : Int32)), .val (.int p3), .val (.int p4)] [(.ref a1)])) _
      refine XS.iloadN X0.here hx rfl (hb hby own_d_method_4_6) rfl ?_
      show Steps p.tables e below (s₁.setTop (mkF m 7 #[.val (.ref a1), .val (.int p1), .val (.int (16 : Int32)), .val (.int p3), .val (.int p4)] [(.int (16 : Int32)), (.ref a1)])) _
      refine XS.iloadN X0.here hx rfl (hb hby own_d_method_4_7) rfl ?_
      show Steps p.tables e below (s₁.setTop (mkF m 8 #[.val (.ref a1), .val (.int p1), .val (.int (16 : Int32)), .val (.int p3), .val (.int p4)] [(.int p3), (.int (16 : Int32)), (.ref a1)])) _
      refine XS.iload X0.here hx rfl (hb hby own_d_method_4_8) rfl ?_
      show Steps p.tables e below (s₁.setTop (mkF m 10 #[.val (.ref a1), .val (.int p1), .val (.int (16 : Int32)), .val (.int p3), .val (.int p4)] [(.int p4), (.int p3), (.int (16 : Int32)), (.ref a1)])) _
      refine st4 _ ?_
      show Steps p.tables e below (T4.setTop (mkF m 13 #[.val (.ref a1), .val (.int p1), .val (.int (16 : Int32)), .val (.int p3), .val (.int p4)] [(.int (p3 + ((16 : Int32) * p4))), (.ref a1)])) _
      refine st8.trans ?_
      exact kt
    obtain ⟨fs, hr, hrun, hended, hW, hsame⟩ := X8.leave (v := none) (fun _ => rfl)
    refine ⟨_, _, pre15 _ ?_, hrun, hended, _, _, rfl, ?_, ⟨_, rfl⟩, hW, hsame.mono (by decide) (by decide)⟩
    · show Steps p.tables e below (T8.setTop (mkF m 16 #[.val (.ref a1), .val (.int p1), .val (.int (16 : Int32)), .val (.int p3), .val (.int p4)] [])) _
      exact X8.returnOut hx Bd.returns (hb hby own_d_method_4_16) hr
    · show own_Q_adG Z a1 p1 p3 p4 nn h0 n0 (none) T8.heap _
      skip
      have k1 : min (16 + 1) nn = 17 := by omega
      exact ⟨rfl, nf14, ⟨_, allS g1 all0, k13⟩, by rw [k1]; exact own_stG f11 c10_1 c10_2 c10_3 c10_4 g1 gn_rx10 ne_a1_rx10 hf rfl⟩
  · have pre16 : ∀ t, Steps p.tables e below (s₁.setTop (mkF m 16 #[.val (.ref a1), .val (.int p1), .val (.int (16 : Int32)), .val (.int p3), .val (.int p4)] [])) t → Steps p.tables e below (s₁.setTop (entryFrame m #[(.ref a1), (.int p1), (.int (16 : Int32)), (.int p3), (.int p4)] 5)) t := by
      intro t kt
      refine pre1 t ?_
      show Steps p.tables e below (s₁.setTop (mkF m 2 #[.val (.ref a1), .val (.int p1), .val (.int (16 : Int32)), .val (.int p3), .val (.int p4)] [(.int p1), (.int (16 : Int32))])) _
      refine XS.icmpYes X0.here hx rfl (pc0 := 2) (pc' := 16) rfl (hb hby own_d_method_4_2) rfl (flt hc2).2.1 (by decide) (by decide) ?_
      exact kt
    obtain ⟨fs, hr, hrun, hended, hW, hsame⟩ := X0.leave (v := none) (fun _ => rfl)
    refine ⟨_, _, pre16 _ ?_, hrun, hended, _, _, rfl, ?_, ⟨_, rfl⟩, hW, hsame.mono (by decide) (by decide)⟩
    · show Steps p.tables e below (s₁.setTop (mkF m 16 #[.val (.ref a1), .val (.int p1), .val (.int (16 : Int32)), .val (.int p3), .val (.int p4)] [])) _
      exact X0.returnOut hx Bd.returns (hb hby own_d_method_4_16) hr
    · show own_Q_adG Z a1 p1 p3 p4 nn h0 n0 (none) s₁.heap _
      rw [e0]
      have ge0 : ¬ 16 < nn := fun q => hc2 ((own_lt2 (rfl : (16 : Int32) = Int32.ofNat 16) hn (by decide) (by omega)).mpr q)
      exact ⟨rfl, N0, ⟨[], all0, Keep.refl _ _⟩, by rw [show min (16 + 1) nn = min 16 nn by omega]; exact St⟩
theorem own_d_method_5_0 : decode method_5_code 0 = .ok (.iload_n 2, 1) := by decide +kernel
theorem own_d_method_5_1 : decode method_5_code 1 = .ok (.iload_n 1, 1) := by decide +kernel
theorem own_d_method_5_2 : decode method_5_code 2 = .ok (.if_icmp .ge 16, 3) := by decide +kernel
theorem own_d_method_5_5 : decode method_5_code 5 = .ok (.aload_n 0, 1) := by decide +kernel
theorem own_d_method_5_6 : decode method_5_code 6 = .ok (.iload_n 2, 1) := by decide +kernel
theorem own_d_method_5_7 : decode method_5_code 7 = .ok (.iaload, 1) := by decide +kernel
theorem own_d_method_5_8 : decode method_5_code 8 = .ok (.iload_n 2, 1) := by decide +kernel
theorem own_d_method_5_9 : decode method_5_code 9 = .ok (.iload_n 3, 1) := by decide +kernel
theorem own_d_method_5_10 : decode method_5_code 10 = .ok (.iload 4, 2) := by decide +kernel
theorem own_d_method_5_12 : decode method_5_code 12 = .ok (.invokestatic 25, 3) := by decide +kernel
theorem own_d_method_5_15 : decode method_5_code 15 = .ok (.if_icmp .ne 7, 3) := by decide +kernel
theorem own_d_method_5_18 : decode method_5_code 18 = .ok (.iconst 1, 1) := by decide +kernel
theorem own_d_method_5_19 : decode method_5_code 19 = .ok (.goto 4, 3) := by decide +kernel
theorem own_d_method_5_22 : decode method_5_code 22 = .ok (.iconst 0, 1) := by decide +kernel
theorem own_d_method_5_23 : decode method_5_code 23 = .ok (.ireturn, 1) := by decide +kernel
theorem own_ef_at (m : MethodId) (a1 : Addr) (p1 : Int32) (p2 : Int32) (p3 : Int32) (p4 : Int32) : entryFrame m #[(.ref a1), (.int p1), (.int p2), (.int p3), (.int p4)] 5 = mkF m 0 #[.val (.ref a1), .val (.int p1), .val (.int p2), .val (.int p3), .val (.int p4)] [] := by first | (simp [entryFrame, mkF, argsToLocals, Value.category]; done) | rfl
def own_Q_at (Z : State) (a1 : Addr) (p1 : Int32) (p2 : Int32) (p3 : Int32) (p4 : Int32) (nn : Nat) (ii : Nat) (f : Nat → Int32) (h0 : Heap) (n0 : Nat) (v : Option Value) (h : Heap) (L : List Loc) : Prop := v = some (.int 1) ∧ Fr n0 L ∧ h = h0
set_option maxRecDepth 65536 in
set_option maxHeartbeats 40000000 in
theorem own_rm_at (l : Launch) (Z : State) (a0 : Array Value) (hw : ∀ d ∈ tables_1, d.before a0 Z = true) (ws : List Jvm.Cond) (a1 : Addr) (p1 : Int32) (p2 : Int32) (p3 : Int32) (p4 : Int32) (nn : Nat) (ii : Nat) (f : Nat → Int32) (h0 : Heap) (n0 : Nat) (Z0 : n0 ≤ h0.size) (A1 : own_A Z h0 a1 nn f) (hn : p1 = Int32.ofNat nn) (hnn : nn ≤ 20) (hi : p2 = Int32.ofNat ii) (hii : ii < 20) (hf : ∀ j, j < nn → f j = own_F p3 p4 j) :
    MetFree l (⟨"com/example/interleaving/interleaving/store/StateGraphAddInitialPinLaw", "at", "([IIIII)Z"⟩ : MethodName) (head1 (Jvm.Cond.code (⟨"com/example/interleaving/interleaving/store/StateGraphAddInitialPinLaw", "at", "([IIIII)Z"⟩ : MethodName) method_5_code 5 (some .boolean) :: ws) ({ frames := 1, cells := 0, slots := 0, locals := 15 } : Room)) (fun a U => a = #[(.ref a1), (.int p1), (.int p2), (.int p3), (.int p4)] ∧ Z.Warmed39 U.vm ∧ U.heap = h0) (fun _ _ _ _ _ => True) (fun _ U o U' => ∃ v L, o = .returned v ∧ own_Q_at Z a1 p1 p2 p3 p4 nn ii f h0 n0 v U'.heap L ∧ FrameEnd U o U' L ({ frames := 1, cells := 0, slots := 0, locals := 15 } : Room).cells ({ frames := 1, cells := 0, slots := 0, locals := 15 } : Room).slots) := by
  refine MetFree.of_bodySF (plainFor_of_name own_pn2) hisR ?_
  intro p e s m args below meth c s₁ Bd hml0 hP hK
  obtain ⟨rfl, hZ, hh⟩ := hP
  have hx := Bd.exec
  have hby := Bd.bytes
  have hml : c.maxLocals = 5 := hml0
  have hown : s.vm.findClass "com/example/interleaving/interleaving/store/StateGraphAddInitialPinLaw" = some m.cls := findClass_of_methodNamed Bd.named
  have hnm := (name_of_methodNamed Bd.named Bd.method).1
  have X0 : Stand p l e ({ frames := 1, cells := 0, slots := 0, locals := 15 } : Room) s m #[(.ref a1), (.int p1), (.int p2), (.int p3), (.int p4)] below meth c s₁ [] 0 0 := Stand.of_body Bd
  have e0 : s₁.heap = h0 := by rw [← hh, Bd.state]; rfl
  have N0 := Fr.nil n0
  have K0 : Keep h0 h0 [] := Keep.refl _ _
  have pre0 : ∀ t, Steps p.tables e below (s₁.setTop (mkF m 0 #[.val (.ref a1), .val (.int p1), .val (.int p2), .val (.int p3), .val (.int p4)] [])) t → Steps p.tables e below (s₁.setTop (entryFrame m #[(.ref a1), (.int p1), (.int p2), (.int p3), (.int p4)] 5)) t := fun t k => castTop (own_ef_at m a1 p1 p2 p3 p4) k
  have pre1 : ∀ t, Steps p.tables e below (s₁.setTop (mkF m 2 #[.val (.ref a1), .val (.int p1), .val (.int p2), .val (.int p3), .val (.int p4)] [(.int p1), (.int p2)])) t → Steps p.tables e below (s₁.setTop (entryFrame m #[(.ref a1), (.int p1), (.int p2), (.int p3), (.int p4)] 5)) t := by
    intro t kt
    refine pre0 t ?_
    show Steps p.tables e below (s₁.setTop (mkF m 0 #[.val (.ref a1), .val (.int p1), .val (.int p2), .val (.int p3), .val (.int p4)] [])) _
    refine XS.iloadN X0.here hx rfl (hb hby own_d_method_5_0) rfl ?_
    show Steps p.tables e below (s₁.setTop (mkF m 1 #[.val (.ref a1), .val (.int p1), .val (.int p2), .val (.int p3), .val (.int p4)] [(.int p2)])) _
    refine XS.iloadN X0.here hx rfl (hb hby own_d_method_5_1) rfl ?_
    exact kt
  by_cases hc2 : p2 < p1
  · obtain ⟨cl3, Ar3, S3, H3⟩ := id A1
    have hin3 : ¬ (p2 < 0 ∨ cl3.slots.size ≤ (p2).toNatClampNeg) := own_inb S3 (by rw [hi]; exact own_of0 (by omega)) (by rw [hi, own_ofN (by omega)]; exact ((own_lt2 hi hn (by omega) (by omega)).mp hc2))
    have hat3 : cl3.slots[(p2).toNatClampNeg]? = some (.int (f (p2).toNatClampNeg)) := H3 _ (by rw [hi, own_ofN (by omega)]; exact ((own_lt2 hi hn (by omega) (by omega)).mp hc2))
    have zs4 : n0 ≤ h0.size := Nat.le_trans Z0 K0.1
    obtain ⟨_, _, ⟨T5, L5, k5, n5⟩, -, X5, ⟨Lc5, hQ5, l5, y5, z5⟩, st5⟩ := Jvm.LawKit.callS X0 hx (y := (⟨"com/example/interleaving/interleaving/store/StateGraphAddInitialPinLaw", "v", "(III)I"⟩ : MethodName)) hown (mvT hZ (hw _ (List.mem_of_getElem? (i := 45) rfl))) (mvT hZ (hw _ (List.mem_of_getElem? (i := 46) rfl))) (mvT hZ (hw _ (List.mem_of_getElem? (i := 21) rfl))) (mvT hZ (hw _ (List.mem_of_getElem? (i := 47) rfl))) (by decide) (backOf (W := 1) (own_rm_v l Z a0 hw [] p2 p3 p4 h0 n0 zs4 ) hZ (hw _ (List.mem_of_getElem? (i := 47) rfl)) (hw _ (List.mem_of_getElem? (i := 21) rfl)) (by decide) (by decide)) (g := (mkF m 12 #[.val (.ref a1), .val (.int p1), .val (.int p2), .val (.int p3), .val (.int p4)] [(.int p4), (.int p3), (.int p2), (.int (f (p2).toNatClampNeg))])) rfl (by rw [hml]; rfl) (argsL := [(.int p2), (.int p3), (.int p4)]) (rest := [(.int (f (p2).toNatClampNeg))]) (lenOf own_pd2 rfl) rfl (by show 2 * 0 + _ ≤ _; exact Nat.le_of_eq rfl) (hb hby own_d_method_5_12) (fun _ _ => ⟨rfl, e0, (by decide : 0 + 0 ≤ _), (by decide : 0 + 0 ≤ _)⟩)
    dsimp only [Pt.U, Pt.locs, Pt.cells, Pt.slots] at X5 l5 y5 z5 st5 hQ5
    rw [l5, (y5 : k5 = 0), (z5 : n5 = 0)] at X5
    clear l5 y5 z5
    obtain ⟨rfl, N6, eq6⟩ := hQ5
    have nf7 := Fr.app N0 N6
    have pre8 : ∀ t, Steps p.tables e below (T5.setTop (mkF m 23 #[.val (.ref a1), .val (.int p1), .val (.int p2), .val (.int p3), .val (.int p4)] [(.int (1 : Int32))])) t → Steps p.tables e below (s₁.setTop (entryFrame m #[(.ref a1), (.int p1), (.int p2), (.int p3), (.int p4)] 5)) t := by
      intro t kt
      refine pre1 t ?_
      show Steps p.tables e below (s₁.setTop (mkF m 2 #[.val (.ref a1), .val (.int p1), .val (.int p2), .val (.int p3), .val (.int p4)] [(.int p1), (.int p2)])) _
      refine XS.icmpNo X0.here hx rfl (hb hby own_d_method_5_2) rfl (tlt hc2).2.1 ?_
      show Steps p.tables e below (s₁.setTop (mkF m 5 #[.val (.ref a1), .val (.int p1), .val (.int p2), .val (.int p3), .val (.int p4)] [])) _
      refine XS.aloadN X0.here hx rfl (hb hby own_d_method_5_5) rfl rfl ?_
      show Steps p.tables e below (s₁.setTop (mkF m 6 #[.val (.ref a1), .val (.int p1), .val (.int p2), .val (.int p3), .val (.int p4)] [(.ref a1)])) _
      refine XS.iloadN X0.here hx rfl (hb hby own_d_method_5_6) rfl ?_
      show Steps p.tables e below (s₁.setTop (mkF m 7 #[.val (.ref a1), .val (.int p1), .val (.int p2), .val (.int p3), .val (.int p4)] [(.int p2), (.ref a1)])) _
      refine X0.iaload hx (j := p2) (v := (.int (f (p2).toNatClampNeg))) (by rw [e0]; exact Ar3.1) (State.isArrayOf_alike hZ.alike Ar3.2.1) Ar3.2.2 hin3 hat3 (g := (mkF m 7 #[.val (.ref a1), .val (.int p1), .val (.int p2), .val (.int p3), .val (.int p4)] [(.int p2), (.ref a1)])) rfl rfl (hb hby own_d_method_5_7) _ ?_
      show Steps p.tables e below (s₁.setTop (mkF m 8 #[.val (.ref a1), .val (.int p1), .val (.int p2), .val (.int p3), .val (.int p4)] [(.int (f (p2).toNatClampNeg))])) _
      refine XS.iloadN X0.here hx rfl (hb hby own_d_method_5_8) rfl ?_
      show Steps p.tables e below (s₁.setTop (mkF m 9 #[.val (.ref a1), .val (.int p1), .val (.int p2), .val (.int p3), .val (.int p4)] [(.int p2), (.int (f (p2).toNatClampNeg))])) _
      refine XS.iloadN X0.here hx rfl (hb hby own_d_method_5_9) rfl ?_
      show Steps p.tables e below (s₁.setTop (mkF m 10 #[.val (.ref a1), .val (.int p1), .val (.int p2), .val (.int p3), .val (.int p4)] [(.int p3), (.int p2), (.int (f (p2).toNatClampNeg))])) _
      refine XS.iload X0.here hx rfl (hb hby own_d_method_5_10) rfl ?_
      show Steps p.tables e below (s₁.setTop (mkF m 12 #[.val (.ref a1), .val (.int p1), .val (.int p2), .val (.int p3), .val (.int p4)] [(.int p4), (.int p3), (.int p2), (.int (f (p2).toNatClampNeg))])) _
      refine st5 _ ?_
      show Steps p.tables e below (T5.setTop (mkF m 15 #[.val (.ref a1), .val (.int p1), .val (.int p2), .val (.int p3), .val (.int p4)] [(.int (p3 + (p2 * p4))), (.int (f (p2).toNatClampNeg))])) _
      refine XS.icmpNo X5.here hx rfl (hb hby own_d_method_5_15) rfl (teq (own_atv hi (by omega) hf ((own_lt2 hi hn (by omega) (by omega)).mp hc2))).2 ?_
      show Steps p.tables e below (T5.setTop (mkF m 18 #[.val (.ref a1), .val (.int p1), .val (.int p2), .val (.int p3), .val (.int p4)] [])) _
      refine XS.iconst X5.here hx rfl (hb hby own_d_method_5_18) ?_
      show Steps p.tables e below (T5.setTop (mkF m 19 #[.val (.ref a1), .val (.int p1), .val (.int p2), .val (.int p3), .val (.int p4)] [(.int (1 : Int32))])) _
      refine XS.goto X5.here hx rfl (pc0 := 19) (pc' := 23) rfl (hb hby own_d_method_5_19) (by decide) (by decide) ?_
      exact kt
    obtain ⟨fs, hr, hrun, hended, hW, hsame⟩ := X5.leave (v := some (.int (1 : Int32))) (fun h => by rw [Bd.returns] at h; cases h)
    refine ⟨_, _, pre8 _ ?_, hrun, hended, _, _, rfl, ?_, ⟨_, rfl⟩, hW, hsame.mono (by decide) (by decide)⟩
    · show Steps p.tables e below (T5.setTop (mkF m 23 #[.val (.ref a1), .val (.int p1), .val (.int p2), .val (.int p3), .val (.int p4)] [(.int (1 : Int32))])) _
      exact retN X5 hx (t := .boolean) Bd.returns (by simp) (hb hby own_d_method_5_23) hr
    · show own_Q_at Z a1 p1 p2 p3 p4 nn ii f h0 n0 (some (.int (1 : Int32))) T5.heap _
      rw [eq6]
      exact ⟨rfl, nf7, rfl⟩
  · have pre9 : ∀ t, Steps p.tables e below (s₁.setTop (mkF m 23 #[.val (.ref a1), .val (.int p1), .val (.int p2), .val (.int p3), .val (.int p4)] [(.int (1 : Int32))])) t → Steps p.tables e below (s₁.setTop (entryFrame m #[(.ref a1), (.int p1), (.int p2), (.int p3), (.int p4)] 5)) t := by
      intro t kt
      refine pre1 t ?_
      show Steps p.tables e below (s₁.setTop (mkF m 2 #[.val (.ref a1), .val (.int p1), .val (.int p2), .val (.int p3), .val (.int p4)] [(.int p1), (.int p2)])) _
      refine XS.icmpYes X0.here hx rfl (pc0 := 2) (pc' := 18) rfl (hb hby own_d_method_5_2) rfl (flt hc2).2.1 (by decide) (by decide) ?_
      show Steps p.tables e below (s₁.setTop (mkF m 18 #[.val (.ref a1), .val (.int p1), .val (.int p2), .val (.int p3), .val (.int p4)] [])) _
      refine XS.iconst X0.here hx rfl (hb hby own_d_method_5_18) ?_
      show Steps p.tables e below (s₁.setTop (mkF m 19 #[.val (.ref a1), .val (.int p1), .val (.int p2), .val (.int p3), .val (.int p4)] [(.int (1 : Int32))])) _
      refine XS.goto X0.here hx rfl (pc0 := 19) (pc' := 23) rfl (hb hby own_d_method_5_19) (by decide) (by decide) ?_
      exact kt
    obtain ⟨fs, hr, hrun, hended, hW, hsame⟩ := X0.leave (v := some (.int (1 : Int32))) (fun h => by rw [Bd.returns] at h; cases h)
    refine ⟨_, _, pre9 _ ?_, hrun, hended, _, _, rfl, ?_, ⟨_, rfl⟩, hW, hsame.mono (by decide) (by decide)⟩
    · show Steps p.tables e below (s₁.setTop (mkF m 23 #[.val (.ref a1), .val (.int p1), .val (.int p2), .val (.int p3), .val (.int p4)] [(.int (1 : Int32))])) _
      exact retN X0 hx (t := .boolean) Bd.returns (by simp) (hb hby own_d_method_5_23) hr
    · show own_Q_at Z a1 p1 p2 p3 p4 nn ii f h0 n0 (some (.int (1 : Int32))) s₁.heap _
      rw [e0]
      exact ⟨rfl, N0, rfl⟩
theorem own_pd4 : parseMethodDescriptor "()V" = some ⟨[], none⟩ := by decide +kernel
theorem own_pd5 : parseMethodDescriptor "(Lcom/example/interleaving/interleaving/store/StateGraph;IIII)V" = some ⟨[(.object "com/example/interleaving/interleaving/store/StateGraph"), .int, .int, .int, .int], none⟩ := by decide +kernel
theorem own_pd6 : parseMethodDescriptor "()[I" = some ⟨[], some (.array .int)⟩ := by decide +kernel
theorem own_pd7 : parseMethodDescriptor "([IIIII)Z" = some ⟨[(.array .int), .int, .int, .int, .int], some .boolean⟩ := by decide +kernel
theorem own_ef_law (m : MethodId) (p0 : Int32) (p1 : Int32) (p2 : Int32) : entryFrame m #[(.int p0), (.int p1), (.int p2)] maxLocals = mkF m 0 #[.val (.int p0), .val (.int p1), .val (.int p2), .unset, .unset, .unset, .unset] [] := by first | (simp [entryFrame, mkF, argsToLocals, Value.category, maxLocals]; done) | rfl
def own_Q_law (Z : State) (p0 : Int32) (p1 : Int32) (p2 : Int32) (h0 : Heap) (n0 : Nat) (v : Option Value) (h : Heap) (L : List Loc) : Prop := v = some (.int 1) ∧ Fr n0 L
set_option maxRecDepth 65536 in
set_option maxHeartbeats 40000000 in
theorem own_rm_law (l : Launch) (Z : State) (a0 : Array Value) (hw : ∀ d ∈ tables_1, d.before a0 Z = true) (ws : List Jvm.Cond) (p0 : Int32) (p1 : Int32) (p2 : Int32) (h0 : Heap) (n0 : Nat) (Z0 : n0 ≤ h0.size) (hn0 : n0 = h0.size) :
    MetFree l x (head1 (Jvm.Cond.code x code maxLocals ret :: ws) room_1) (fun a U => a = #[(.int p0), (.int p1), (.int p2)] ∧ Z.Warmed39 U.vm ∧ U.heap = h0) (fun _ _ _ _ _ => True) (fun _ U o U' => ∃ v L, o = .returned v ∧ own_Q_law Z p0 p1 p2 h0 n0 v U'.heap L ∧ FrameEnd U o U' L room_1.cells room_1.slots) := by
  refine MetFree.of_bodySF (plainFor_of_name own_pn2) hisR ?_
  intro p e s m args below meth c s₁ Bd hml0 hP hK
  obtain ⟨rfl, hZ, hh⟩ := hP
  have hx := Bd.exec
  have hby := Bd.bytes
  have hml : c.maxLocals = 7 := hml0
  have hown : s.vm.findClass "com/example/interleaving/interleaving/store/StateGraphAddInitialPinLaw" = some m.cls := findClass_of_methodNamed Bd.named
  have hnm := (name_of_methodNamed Bd.named Bd.method).1
  have X0 : Stand p l e room_1 s m #[(.int p0), (.int p1), (.int p2)] below meth c s₁ [] 0 0 := Stand.of_body Bd
  have e0 : s₁.heap = h0 := by rw [← hh, Bd.state]; rfl
  have N0 := Fr.nil n0
  have K0 : Keep h0 h0 [] := Keep.refl _ _
  have pre0 : ∀ t, Steps p.tables e below (s₁.setTop (mkF m 0 #[.val (.int p0), .val (.int p1), .val (.int p2), .unset, .unset, .unset, .unset] [])) t → Steps p.tables e below (s₁.setTop (entryFrame m #[(.int p0), (.int p1), (.int p2)] maxLocals)) t := fun t k => castTop (own_ef_law m p0 p1 p2) k
  obtain ⟨nn, hn, hnn⟩ := own_nn p0
  obtain ⟨T1, h1, X1, e1, E1, A1, D1, -, st1⟩ := newO X0 hx hZ hown (hw _ (List.mem_of_getElem? (i := 1) rfl)) (hw _ (List.mem_of_getElem? (i := 2) rfl)) (hw _ (List.mem_of_getElem? (i := 3) rfl)) e0 (g := (mkF m 8 #[.val (.int p0), .val (.int p1), .val (.int p2), .val (.int ((p0 &&& (2147483647 : Int32)) % (21 : Int32))), .unset, .unset, .unset] [])) rfl (hb hby at_8) (by decide) (by decide)
  obtain ⟨b1, g1⟩ : ∃ z, z = h0.size := ⟨_, rfl⟩
  rw [← g1] at A1 D1 st1
  have sz_b1 : h0.size ≤ b1 := Nat.le_trans K0.1 (Nat.le_of_eq g1.symm)
  have gn_b1 : n0 ≤ b1 := Nat.le_trans Z0 sz_b1
  have k2 := K0.ext E1
  have f3 : Fld Z h1 b1 "com/example/interleaving/interleaving/store/StateGraph" "initial" "[I" .null := D1 (Or.inl (hw _ (List.mem_of_getElem? (i := 12) rfl))) (ty := (.array .int)) (by decide)
  have f4 : Fld Z h1 b1 "com/example/interleaving/interleaving/store/StateGraph" "targets" "[I" .null := D1 (Or.inl (hw _ (List.mem_of_getElem? (i := 14) rfl))) (ty := (.array .int)) (by decide)
  have f5 : Fld Z h1 b1 "com/example/interleaving/interleaving/store/StateGraph" "firsts" "[I" .null := D1 (Or.inl (hw _ (List.mem_of_getElem? (i := 16) rfl))) (ty := (.array .int)) (by decide)
  have f6 : Fld Z h1 b1 "com/example/interleaving/interleaving/store/StateGraph" "open" "I" (.int (0 : Int32)) := D1 (Or.inl (hw _ (List.mem_of_getElem? (i := 18) rfl))) (ty := .int) (by decide)
  have f7 : Fld Z h1 b1 "com/example/interleaving/interleaving/store/StateGraph" "initialCount" "I" (.int (0 : Int32)) := D1 (Or.inl (hw _ (List.mem_of_getElem? (i := 29) rfl))) (ty := .int) (by decide)
  have zs8 : n0 ≤ h1.size := Nat.le_trans Z0 k2.1
  obtain ⟨_, _, ⟨T9, L9, k9, n9⟩, -, X9, ⟨Lc9, hQ9, l9, y9, z9⟩, st9⟩ := X1.specialBack hx (y := (⟨"com/example/interleaving/interleaving/store/StateGraph", "<init>", "()V"⟩ : MethodName)) rfl hown (mvT hZ (hw _ (List.mem_of_getElem? (i := 4) rfl))) (mvT hZ (hw _ (List.mem_of_getElem? (i := 5) rfl))) (mvT hZ (hw _ (List.mem_of_getElem? (i := 6) rfl))) (by decide) (backOf (W := 1) (own_rm_ctor l Z a0 hw [] b1 h1 n0 zs8 A1 f3 f4 f5 f6 f7 gn_b1) hZ (hw _ (List.mem_of_getElem? (i := 6) rfl)) (hw _ (List.mem_of_getElem? (i := 3) rfl)) (by decide) (by decide)) (g := (mkF m 12 #[.val (.int p0), .val (.int p1), .val (.int p2), .val (.int ((p0 &&& (2147483647 : Int32)) % (21 : Int32))), .unset, .unset, .unset] [(.ref b1), (.ref b1)])) rfl (by rw [hml]; rfl) (Steps.refl _) (a := b1) (argsL := []) (rest := [(.ref b1)]) (lenOf own_pd4 rfl) rfl (by show 2 * 0 + _ ≤ _; exact Nat.le_of_eq rfl) (hb hby at_12) (fun _ _ => ⟨rfl, e1, (by decide : 1 + 3 ≤ _), (by decide : 7 + 2065 ≤ _)⟩)
  dsimp only [Pt.U, Pt.locs, Pt.cells, Pt.slots] at X9 l9 y9 z9 st9 hQ9
  rw [l9, (y9 : k9 = 4), (z9 : n9 = 2072)] at X9
  clear l9 y9 z9
  obtain ⟨bx10, rfl, N10, K10, c10_0, c10_1, c10_2, c10_3, c10_4⟩ := hQ9
  have sz_bx10 : h0.size ≤ bx10 := Nat.le_trans k2.1 c10_0
  have gn_bx10 : n0 ≤ bx10 := Nat.le_trans Z0 sz_bx10
  have ne_b1_bx10 : b1 ≠ bx10 := Nat.ne_of_lt (Nat.lt_of_lt_of_le f7.lt c10_0)
  have f11 := A1.keep K10
  have k12 := k2.trans K10 (allS (Or.inr sz_b1) all0)
  have nf13 := Fr.app N0 N10
  have pre14 : ∀ t, Steps p.tables e below (T9.setTop (mkF m 20 #[.val (.int p0), .val (.int p1), .val (.int p2), .val (.int ((p0 &&& (2147483647 : Int32)) % (21 : Int32))), .val (.ref b1), .unset, .unset] [(.int ((p0 &&& (2147483647 : Int32)) % (21 : Int32))), (.ref b1)])) t → Steps p.tables e below (s₁.setTop (entryFrame m #[(.int p0), (.int p1), (.int p2)] maxLocals)) t := by
    intro t kt
    refine pre0 t ?_
    show Steps p.tables e below (s₁.setTop (mkF m 0 #[.val (.int p0), .val (.int p1), .val (.int p2), .unset, .unset, .unset, .unset] [])) _
    refine XS.iloadN X0.here hx rfl (hb hby at_0) rfl ?_
    show Steps p.tables e below (s₁.setTop (mkF m 1 #[.val (.int p0), .val (.int p1), .val (.int p2), .unset, .unset, .unset, .unset] [(.int p0)])) _
    refine X0.ldcI hx hown (mvT hZ (hw _ (List.mem_of_getElem? (i := 0) rfl))) (g := (mkF m 1 #[.val (.int p0), .val (.int p1), .val (.int p2), .unset, .unset, .unset, .unset] [(.int p0)])) rfl (hb hby at_1) ?_
    show Steps p.tables e below (s₁.setTop (mkF m 3 #[.val (.int p0), .val (.int p1), .val (.int p2), .unset, .unset, .unset, .unset] [(.int (2147483647 : Int32)), (.int p0)])) _
    refine XS.iand X0.here hx rfl (hb hby at_3) rfl ?_
    show Steps p.tables e below (s₁.setTop (mkF m 4 #[.val (.int p0), .val (.int p1), .val (.int p2), .unset, .unset, .unset, .unset] [(.int (p0 &&& (2147483647 : Int32)))])) _
    refine XS.bipush X0.here hx rfl (hb hby at_4) ?_
    show Steps p.tables e below (s₁.setTop (mkF m 6 #[.val (.int p0), .val (.int p1), .val (.int p2), .unset, .unset, .unset, .unset] [(.int (21 : Int32)), (.int (p0 &&& (2147483647 : Int32)))])) _
    refine iremM X0 hx rfl (hb hby at_6) rfl (by decide) ?_
    show Steps p.tables e below (s₁.setTop (mkF m 7 #[.val (.int p0), .val (.int p1), .val (.int p2), .unset, .unset, .unset, .unset] [(.int ((p0 &&& (2147483647 : Int32)) % (21 : Int32)))])) _
    refine XS.istoreN X0.here hx rfl (hb hby at_7) rfl (l' := #[.val (.int p0), .val (.int p1), .val (.int p2), .val (.int ((p0 &&& (2147483647 : Int32)) % (21 : Int32))), .unset, .unset, .unset]) rfl ?_
    show Steps p.tables e below (s₁.setTop (mkF m 8 #[.val (.int p0), .val (.int p1), .val (.int p2), .val (.int ((p0 &&& (2147483647 : Int32)) % (21 : Int32))), .unset, .unset, .unset] [])) _
    refine st1 _ ?_
    show Steps p.tables e below (T1.setTop (mkF m 11 #[.val (.int p0), .val (.int p1), .val (.int p2), .val (.int ((p0 &&& (2147483647 : Int32)) % (21 : Int32))), .unset, .unset, .unset] [(.ref b1)])) _
    refine XS.dup X1.here hx rfl (hb hby at_11) rfl rfl ?_
    show Steps p.tables e below (T1.setTop (mkF m 12 #[.val (.int p0), .val (.int p1), .val (.int p2), .val (.int ((p0 &&& (2147483647 : Int32)) % (21 : Int32))), .unset, .unset, .unset] [(.ref b1), (.ref b1)])) _
    refine st9.trans ?_
    show Steps p.tables e below (T9.setTop (mkF m 15 #[.val (.int p0), .val (.int p1), .val (.int p2), .val (.int ((p0 &&& (2147483647 : Int32)) % (21 : Int32))), .unset, .unset, .unset] [(.ref b1)])) _
    refine XS.astore X9.here hx rfl (hb hby at_15) rfl rfl (l' := #[.val (.int p0), .val (.int p1), .val (.int p2), .val (.int ((p0 &&& (2147483647 : Int32)) % (21 : Int32))), .val (.ref b1), .unset, .unset]) rfl ?_
    show Steps p.tables e below (T9.setTop (mkF m 17 #[.val (.int p0), .val (.int p1), .val (.int p2), .val (.int ((p0 &&& (2147483647 : Int32)) % (21 : Int32))), .val (.ref b1), .unset, .unset] [])) _
    refine XS.aload X9.here hx rfl (hb hby at_17) rfl rfl ?_
    show Steps p.tables e below (T9.setTop (mkF m 19 #[.val (.int p0), .val (.int p1), .val (.int p2), .val (.int ((p0 &&& (2147483647 : Int32)) % (21 : Int32))), .val (.ref b1), .unset, .unset] [(.ref b1)])) _
    refine XS.iloadN X9.here hx rfl (hb hby at_19) rfl ?_
    exact kt
  have St15 : own_St Z T9.heap n0 b1 (min 0 nn) (own_F p1 p2) := by rw [Nat.zero_min]; exact ⟨bx10, fun _ => 0, f11, c10_1, c10_2, c10_3, c10_4, gn_b1, gn_bx10, ne_b1_bx10, by decide, fun j hj => by omega⟩
  have zs16 : n0 ≤ T9.heap.size := Nat.le_trans Z0 k12.1
  obtain ⟨_, _, ⟨T17, L17, k17, n17⟩, -, X17, ⟨Lc17, hQ17, l17, y17, z17⟩, st17⟩ := Jvm.LawKit.callS X9 hx (y := (⟨"com/example/interleaving/interleaving/store/StateGraphAddInitialPinLaw", "add", "(Lcom/example/interleaving/interleaving/store/StateGraph;IIII)V"⟩ : MethodName)) hown (mvT hZ (hw _ (List.mem_of_getElem? (i := 19) rfl))) (mvT hZ (hw _ (List.mem_of_getElem? (i := 20) rfl))) (mvT hZ (hw _ (List.mem_of_getElem? (i := 21) rfl))) (mvT hZ (hw _ (List.mem_of_getElem? (i := 22) rfl))) (by decide) (backOf (W := 0) (own_rm_adn l Z a0 hw [] b1 ((p0 &&& (2147483647 : Int32)) % (21 : Int32)) (0 : Int32) p1 p2 nn 0 T9.heap n0 zs16 St15 hn hnn rfl (by decide) (by decide)) hZ (hw _ (List.mem_of_getElem? (i := 22) rfl)) (hw _ (List.mem_of_getElem? (i := 21) rfl)) (by decide) (by decide)) (g := (mkF m 23 #[.val (.int p0), .val (.int p1), .val (.int p2), .val (.int ((p0 &&& (2147483647 : Int32)) % (21 : Int32))), .val (.ref b1), .unset, .unset] [(.int p2), (.int p1), (.int (0 : Int32)), (.int ((p0 &&& (2147483647 : Int32)) % (21 : Int32))), (.ref b1)])) rfl (by rw [hml]; rfl) (argsL := [(.ref b1), (.int ((p0 &&& (2147483647 : Int32)) % (21 : Int32))), (.int (0 : Int32)), (.int p1), (.int p2)]) (rest := []) (lenOf own_pd5 rfl) rfl (by show 2 * 0 + _ ≤ _; exact Nat.le_of_eq rfl) (hb hby at_23) (fun _ _ => ⟨rfl, rfl, (by decide : 4 + 0 ≤ _), (by decide : 2072 + 0 ≤ _)⟩)
  dsimp only [Pt.U, Pt.locs, Pt.cells, Pt.slots] at X17 l17 y17 z17 st17 hQ17
  rw [l17, (y17 : k17 = 4), (z17 : n17 = 2072)] at X17
  clear l17 y17 z17
  obtain ⟨rfl, N18, ⟨ws18, hws18, Kq18⟩, St18⟩ := hQ17
  have nf19 := Fr.app nf13 N18
  have k18 := k12.trans Kq18 (fun x hx => Or.inr (hn0 ▸ hws18 x hx))
  have zs20 : n0 ≤ T17.heap.size := Nat.le_trans Z0 k18.1
  obtain ⟨_, _, ⟨T21, L21, k21, n21⟩, -, X21, ⟨Lc21, hQ21, l21, y21, z21⟩, st21⟩ := Jvm.LawKit.callS X17 hx (y := (⟨"com/example/interleaving/interleaving/store/StateGraphAddInitialPinLaw", "add", "(Lcom/example/interleaving/interleaving/store/StateGraph;IIII)V"⟩ : MethodName)) hown (mvT hZ (hw _ (List.mem_of_getElem? (i := 19) rfl))) (mvT hZ (hw _ (List.mem_of_getElem? (i := 20) rfl))) (mvT hZ (hw _ (List.mem_of_getElem? (i := 21) rfl))) (mvT hZ (hw _ (List.mem_of_getElem? (i := 22) rfl))) (by decide) (backOf (W := 0) (own_rm_adn l Z a0 hw [] b1 ((p0 &&& (2147483647 : Int32)) % (21 : Int32)) (1 : Int32) p1 p2 nn 1 T17.heap n0 zs20 St18 hn hnn rfl (by decide) (by decide)) hZ (hw _ (List.mem_of_getElem? (i := 22) rfl)) (hw _ (List.mem_of_getElem? (i := 21) rfl)) (by decide) (by decide)) (g := (mkF m 32 #[.val (.int p0), .val (.int p1), .val (.int p2), .val (.int ((p0 &&& (2147483647 : Int32)) % (21 : Int32))), .val (.ref b1), .unset, .unset] [(.int p2), (.int p1), (.int (1 : Int32)), (.int ((p0 &&& (2147483647 : Int32)) % (21 : Int32))), (.ref b1)])) rfl (by rw [hml]; rfl) (argsL := [(.ref b1), (.int ((p0 &&& (2147483647 : Int32)) % (21 : Int32))), (.int (1 : Int32)), (.int p1), (.int p2)]) (rest := []) (lenOf own_pd5 rfl) rfl (by show 2 * 0 + _ ≤ _; exact Nat.le_of_eq rfl) (hb hby at_32) (fun _ _ => ⟨rfl, rfl, (by decide : 4 + 0 ≤ _), (by decide : 2072 + 0 ≤ _)⟩)
  dsimp only [Pt.U, Pt.locs, Pt.cells, Pt.slots] at X21 l21 y21 z21 st21 hQ21
  rw [l21, (y21 : k21 = 4), (z21 : n21 = 2072)] at X21
  clear l21 y21 z21
  obtain ⟨rfl, N22, ⟨ws22, hws22, Kq22⟩, St22⟩ := hQ21
  have nf23 := Fr.app nf19 N22
  have k22 := k18.trans Kq22 (fun x hx => Or.inr (hn0 ▸ hws22 x hx))
  have pre24 : ∀ t, Steps p.tables e below (T21.setTop (mkF m 38 #[.val (.int p0), .val (.int p1), .val (.int p2), .val (.int ((p0 &&& (2147483647 : Int32)) % (21 : Int32))), .val (.ref b1), .unset, .unset] [(.int ((p0 &&& (2147483647 : Int32)) % (21 : Int32))), (.ref b1)])) t → Steps p.tables e below (s₁.setTop (entryFrame m #[(.int p0), (.int p1), (.int p2)] maxLocals)) t := by
    intro t kt
    refine pre14 t ?_
    show Steps p.tables e below (T9.setTop (mkF m 20 #[.val (.int p0), .val (.int p1), .val (.int p2), .val (.int ((p0 &&& (2147483647 : Int32)) % (21 : Int32))), .val (.ref b1), .unset, .unset] [(.int ((p0 &&& (2147483647 : Int32)) % (21 : Int32))), (.ref b1)])) _
    refine XS.iconst X9.here hx rfl (hb hby at_20) ?_
    show Steps p.tables e below (T9.setTop (mkF m 21 #[.val (.int p0), .val (.int p1), .val (.int p2), .val (.int ((p0 &&& (2147483647 : Int32)) % (21 : Int32))), .val (.ref b1), .unset, .unset] [(.int (0 : Int32)), (.int ((p0 &&& (2147483647 : Int32)) % (21 : Int32))), (.ref b1)])) _
    refine XS.iloadN X9.here hx rfl (hb hby at_21) rfl ?_
    show Steps p.tables e below (T9.setTop (mkF m 22 #[.val (.int p0), .val (.int p1), .val (.int p2), .val (.int ((p0 &&& (2147483647 : Int32)) % (21 : Int32))), .val (.ref b1), .unset, .unset] [(.int p1), (.int (0 : Int32)), (.int ((p0 &&& (2147483647 : Int32)) % (21 : Int32))), (.ref b1)])) _
    refine XS.iloadN X9.here hx rfl (hb hby at_22) rfl ?_
    show Steps p.tables e below (T9.setTop (mkF m 23 #[.val (.int p0), .val (.int p1), .val (.int p2), .val (.int ((p0 &&& (2147483647 : Int32)) % (21 : Int32))), .val (.ref b1), .unset, .unset] [(.int p2), (.int p1), (.int (0 : Int32)), (.int ((p0 &&& (2147483647 : Int32)) % (21 : Int32))), (.ref b1)])) _
    refine st17 _ ?_
    show Steps p.tables e below (T17.setTop (mkF m 26 #[.val (.int p0), .val (.int p1), .val (.int p2), .val (.int ((p0 &&& (2147483647 : Int32)) % (21 : Int32))), .val (.ref b1), .unset, .unset] [])) _
    refine XS.aload X17.here hx rfl (hb hby at_26) rfl rfl ?_
    show Steps p.tables e below (T17.setTop (mkF m 28 #[.val (.int p0), .val (.int p1), .val (.int p2), .val (.int ((p0 &&& (2147483647 : Int32)) % (21 : Int32))), .val (.ref b1), .unset, .unset] [(.ref b1)])) _
    refine XS.iloadN X17.here hx rfl (hb hby at_28) rfl ?_
    show Steps p.tables e below (T17.setTop (mkF m 29 #[.val (.int p0), .val (.int p1), .val (.int p2), .val (.int ((p0 &&& (2147483647 : Int32)) % (21 : Int32))), .val (.ref b1), .unset, .unset] [(.int ((p0 &&& (2147483647 : Int32)) % (21 : Int32))), (.ref b1)])) _
    refine XS.iconst X17.here hx rfl (hb hby at_29) ?_
    show Steps p.tables e below (T17.setTop (mkF m 30 #[.val (.int p0), .val (.int p1), .val (.int p2), .val (.int ((p0 &&& (2147483647 : Int32)) % (21 : Int32))), .val (.ref b1), .unset, .unset] [(.int (1 : Int32)), (.int ((p0 &&& (2147483647 : Int32)) % (21 : Int32))), (.ref b1)])) _
    refine XS.iloadN X17.here hx rfl (hb hby at_30) rfl ?_
    show Steps p.tables e below (T17.setTop (mkF m 31 #[.val (.int p0), .val (.int p1), .val (.int p2), .val (.int ((p0 &&& (2147483647 : Int32)) % (21 : Int32))), .val (.ref b1), .unset, .unset] [(.int p1), (.int (1 : Int32)), (.int ((p0 &&& (2147483647 : Int32)) % (21 : Int32))), (.ref b1)])) _
    refine XS.iloadN X17.here hx rfl (hb hby at_31) rfl ?_
    show Steps p.tables e below (T17.setTop (mkF m 32 #[.val (.int p0), .val (.int p1), .val (.int p2), .val (.int ((p0 &&& (2147483647 : Int32)) % (21 : Int32))), .val (.ref b1), .unset, .unset] [(.int p2), (.int p1), (.int (1 : Int32)), (.int ((p0 &&& (2147483647 : Int32)) % (21 : Int32))), (.ref b1)])) _
    refine st21 _ ?_
    show Steps p.tables e below (T21.setTop (mkF m 35 #[.val (.int p0), .val (.int p1), .val (.int p2), .val (.int ((p0 &&& (2147483647 : Int32)) % (21 : Int32))), .val (.ref b1), .unset, .unset] [])) _
    refine XS.aload X21.here hx rfl (hb hby at_35) rfl rfl ?_
    show Steps p.tables e below (T21.setTop (mkF m 37 #[.val (.int p0), .val (.int p1), .val (.int p2), .val (.int ((p0 &&& (2147483647 : Int32)) % (21 : Int32))), .val (.ref b1), .unset, .unset] [(.ref b1)])) _
    refine XS.iloadN X21.here hx rfl (hb hby at_37) rfl ?_
    exact kt
  have zs25 : n0 ≤ T21.heap.size := Nat.le_trans Z0 k22.1
  obtain ⟨_, _, ⟨T26, L26, k26, n26⟩, -, X26, ⟨Lc26, hQ26, l26, y26, z26⟩, st26⟩ := Jvm.LawKit.callS X21 hx (y := (⟨"com/example/interleaving/interleaving/store/StateGraphAddInitialPinLaw", "add", "(Lcom/example/interleaving/interleaving/store/StateGraph;IIII)V"⟩ : MethodName)) hown (mvT hZ (hw _ (List.mem_of_getElem? (i := 19) rfl))) (mvT hZ (hw _ (List.mem_of_getElem? (i := 20) rfl))) (mvT hZ (hw _ (List.mem_of_getElem? (i := 21) rfl))) (mvT hZ (hw _ (List.mem_of_getElem? (i := 22) rfl))) (by decide) (backOf (W := 0) (own_rm_adn l Z a0 hw [] b1 ((p0 &&& (2147483647 : Int32)) % (21 : Int32)) (2 : Int32) p1 p2 nn 2 T21.heap n0 zs25 St22 hn hnn rfl (by decide) (by decide)) hZ (hw _ (List.mem_of_getElem? (i := 22) rfl)) (hw _ (List.mem_of_getElem? (i := 21) rfl)) (by decide) (by decide)) (g := (mkF m 41 #[.val (.int p0), .val (.int p1), .val (.int p2), .val (.int ((p0 &&& (2147483647 : Int32)) % (21 : Int32))), .val (.ref b1), .unset, .unset] [(.int p2), (.int p1), (.int (2 : Int32)), (.int ((p0 &&& (2147483647 : Int32)) % (21 : Int32))), (.ref b1)])) rfl (by rw [hml]; rfl) (argsL := [(.ref b1), (.int ((p0 &&& (2147483647 : Int32)) % (21 : Int32))), (.int (2 : Int32)), (.int p1), (.int p2)]) (rest := []) (lenOf own_pd5 rfl) rfl (by show 2 * 0 + _ ≤ _; exact Nat.le_of_eq rfl) (hb hby at_41) (fun _ _ => ⟨rfl, rfl, (by decide : 4 + 0 ≤ _), (by decide : 2072 + 0 ≤ _)⟩)
  dsimp only [Pt.U, Pt.locs, Pt.cells, Pt.slots] at X26 l26 y26 z26 st26 hQ26
  rw [l26, (y26 : k26 = 4), (z26 : n26 = 2072)] at X26
  clear l26 y26 z26
  obtain ⟨rfl, N27, ⟨ws27, hws27, Kq27⟩, St27⟩ := hQ26
  have nf28 := Fr.app nf23 N27
  have k27 := k22.trans Kq27 (fun x hx => Or.inr (hn0 ▸ hws27 x hx))
  have zs29 : n0 ≤ T26.heap.size := Nat.le_trans Z0 k27.1
  obtain ⟨_, _, ⟨T30, L30, k30, n30⟩, -, X30, ⟨Lc30, hQ30, l30, y30, z30⟩, st30⟩ := Jvm.LawKit.callS X26 hx (y := (⟨"com/example/interleaving/interleaving/store/StateGraphAddInitialPinLaw", "add", "(Lcom/example/interleaving/interleaving/store/StateGraph;IIII)V"⟩ : MethodName)) hown (mvT hZ (hw _ (List.mem_of_getElem? (i := 19) rfl))) (mvT hZ (hw _ (List.mem_of_getElem? (i := 20) rfl))) (mvT hZ (hw _ (List.mem_of_getElem? (i := 21) rfl))) (mvT hZ (hw _ (List.mem_of_getElem? (i := 22) rfl))) (by decide) (backOf (W := 0) (own_rm_adn l Z a0 hw [] b1 ((p0 &&& (2147483647 : Int32)) % (21 : Int32)) (3 : Int32) p1 p2 nn 3 T26.heap n0 zs29 St27 hn hnn rfl (by decide) (by decide)) hZ (hw _ (List.mem_of_getElem? (i := 22) rfl)) (hw _ (List.mem_of_getElem? (i := 21) rfl)) (by decide) (by decide)) (g := (mkF m 50 #[.val (.int p0), .val (.int p1), .val (.int p2), .val (.int ((p0 &&& (2147483647 : Int32)) % (21 : Int32))), .val (.ref b1), .unset, .unset] [(.int p2), (.int p1), (.int (3 : Int32)), (.int ((p0 &&& (2147483647 : Int32)) % (21 : Int32))), (.ref b1)])) rfl (by rw [hml]; rfl) (argsL := [(.ref b1), (.int ((p0 &&& (2147483647 : Int32)) % (21 : Int32))), (.int (3 : Int32)), (.int p1), (.int p2)]) (rest := []) (lenOf own_pd5 rfl) rfl (by show 2 * 0 + _ ≤ _; exact Nat.le_of_eq rfl) (hb hby at_50) (fun _ _ => ⟨rfl, rfl, (by decide : 4 + 0 ≤ _), (by decide : 2072 + 0 ≤ _)⟩)
  dsimp only [Pt.U, Pt.locs, Pt.cells, Pt.slots] at X30 l30 y30 z30 st30 hQ30
  rw [l30, (y30 : k30 = 4), (z30 : n30 = 2072)] at X30
  clear l30 y30 z30
  obtain ⟨rfl, N31, ⟨ws31, hws31, Kq31⟩, St31⟩ := hQ30
  have nf32 := Fr.app nf28 N31
  have k31 := k27.trans Kq31 (fun x hx => Or.inr (hn0 ▸ hws31 x hx))
  have pre33 : ∀ t, Steps p.tables e below (T30.setTop (mkF m 56 #[.val (.int p0), .val (.int p1), .val (.int p2), .val (.int ((p0 &&& (2147483647 : Int32)) % (21 : Int32))), .val (.ref b1), .unset, .unset] [(.int ((p0 &&& (2147483647 : Int32)) % (21 : Int32))), (.ref b1)])) t → Steps p.tables e below (s₁.setTop (entryFrame m #[(.int p0), (.int p1), (.int p2)] maxLocals)) t := by
    intro t kt
    refine pre24 t ?_
    show Steps p.tables e below (T21.setTop (mkF m 38 #[.val (.int p0), .val (.int p1), .val (.int p2), .val (.int ((p0 &&& (2147483647 : Int32)) % (21 : Int32))), .val (.ref b1), .unset, .unset] [(.int ((p0 &&& (2147483647 : Int32)) % (21 : Int32))), (.ref b1)])) _
    refine XS.iconst X21.here hx rfl (hb hby at_38) ?_
    show Steps p.tables e below (T21.setTop (mkF m 39 #[.val (.int p0), .val (.int p1), .val (.int p2), .val (.int ((p0 &&& (2147483647 : Int32)) % (21 : Int32))), .val (.ref b1), .unset, .unset] [(.int (2 : Int32)), (.int ((p0 &&& (2147483647 : Int32)) % (21 : Int32))), (.ref b1)])) _
    refine XS.iloadN X21.here hx rfl (hb hby at_39) rfl ?_
    show Steps p.tables e below (T21.setTop (mkF m 40 #[.val (.int p0), .val (.int p1), .val (.int p2), .val (.int ((p0 &&& (2147483647 : Int32)) % (21 : Int32))), .val (.ref b1), .unset, .unset] [(.int p1), (.int (2 : Int32)), (.int ((p0 &&& (2147483647 : Int32)) % (21 : Int32))), (.ref b1)])) _
    refine XS.iloadN X21.here hx rfl (hb hby at_40) rfl ?_
    show Steps p.tables e below (T21.setTop (mkF m 41 #[.val (.int p0), .val (.int p1), .val (.int p2), .val (.int ((p0 &&& (2147483647 : Int32)) % (21 : Int32))), .val (.ref b1), .unset, .unset] [(.int p2), (.int p1), (.int (2 : Int32)), (.int ((p0 &&& (2147483647 : Int32)) % (21 : Int32))), (.ref b1)])) _
    refine st26 _ ?_
    show Steps p.tables e below (T26.setTop (mkF m 44 #[.val (.int p0), .val (.int p1), .val (.int p2), .val (.int ((p0 &&& (2147483647 : Int32)) % (21 : Int32))), .val (.ref b1), .unset, .unset] [])) _
    refine XS.aload X26.here hx rfl (hb hby at_44) rfl rfl ?_
    show Steps p.tables e below (T26.setTop (mkF m 46 #[.val (.int p0), .val (.int p1), .val (.int p2), .val (.int ((p0 &&& (2147483647 : Int32)) % (21 : Int32))), .val (.ref b1), .unset, .unset] [(.ref b1)])) _
    refine XS.iloadN X26.here hx rfl (hb hby at_46) rfl ?_
    show Steps p.tables e below (T26.setTop (mkF m 47 #[.val (.int p0), .val (.int p1), .val (.int p2), .val (.int ((p0 &&& (2147483647 : Int32)) % (21 : Int32))), .val (.ref b1), .unset, .unset] [(.int ((p0 &&& (2147483647 : Int32)) % (21 : Int32))), (.ref b1)])) _
    refine XS.iconst X26.here hx rfl (hb hby at_47) ?_
    show Steps p.tables e below (T26.setTop (mkF m 48 #[.val (.int p0), .val (.int p1), .val (.int p2), .val (.int ((p0 &&& (2147483647 : Int32)) % (21 : Int32))), .val (.ref b1), .unset, .unset] [(.int (3 : Int32)), (.int ((p0 &&& (2147483647 : Int32)) % (21 : Int32))), (.ref b1)])) _
    refine XS.iloadN X26.here hx rfl (hb hby at_48) rfl ?_
    show Steps p.tables e below (T26.setTop (mkF m 49 #[.val (.int p0), .val (.int p1), .val (.int p2), .val (.int ((p0 &&& (2147483647 : Int32)) % (21 : Int32))), .val (.ref b1), .unset, .unset] [(.int p1), (.int (3 : Int32)), (.int ((p0 &&& (2147483647 : Int32)) % (21 : Int32))), (.ref b1)])) _
    refine XS.iloadN X26.here hx rfl (hb hby at_49) rfl ?_
    show Steps p.tables e below (T26.setTop (mkF m 50 #[.val (.int p0), .val (.int p1), .val (.int p2), .val (.int ((p0 &&& (2147483647 : Int32)) % (21 : Int32))), .val (.ref b1), .unset, .unset] [(.int p2), (.int p1), (.int (3 : Int32)), (.int ((p0 &&& (2147483647 : Int32)) % (21 : Int32))), (.ref b1)])) _
    refine st30 _ ?_
    show Steps p.tables e below (T30.setTop (mkF m 53 #[.val (.int p0), .val (.int p1), .val (.int p2), .val (.int ((p0 &&& (2147483647 : Int32)) % (21 : Int32))), .val (.ref b1), .unset, .unset] [])) _
    refine XS.aload X30.here hx rfl (hb hby at_53) rfl rfl ?_
    show Steps p.tables e below (T30.setTop (mkF m 55 #[.val (.int p0), .val (.int p1), .val (.int p2), .val (.int ((p0 &&& (2147483647 : Int32)) % (21 : Int32))), .val (.ref b1), .unset, .unset] [(.ref b1)])) _
    refine XS.iloadN X30.here hx rfl (hb hby at_55) rfl ?_
    exact kt
  have zs34 : n0 ≤ T30.heap.size := Nat.le_trans Z0 k31.1
  obtain ⟨_, _, ⟨T35, L35, k35, n35⟩, -, X35, ⟨Lc35, hQ35, l35, y35, z35⟩, st35⟩ := Jvm.LawKit.callS X30 hx (y := (⟨"com/example/interleaving/interleaving/store/StateGraphAddInitialPinLaw", "add", "(Lcom/example/interleaving/interleaving/store/StateGraph;IIII)V"⟩ : MethodName)) hown (mvT hZ (hw _ (List.mem_of_getElem? (i := 19) rfl))) (mvT hZ (hw _ (List.mem_of_getElem? (i := 20) rfl))) (mvT hZ (hw _ (List.mem_of_getElem? (i := 21) rfl))) (mvT hZ (hw _ (List.mem_of_getElem? (i := 22) rfl))) (by decide) (backOf (W := 0) (own_rm_adn l Z a0 hw [] b1 ((p0 &&& (2147483647 : Int32)) % (21 : Int32)) (4 : Int32) p1 p2 nn 4 T30.heap n0 zs34 St31 hn hnn rfl (by decide) (by decide)) hZ (hw _ (List.mem_of_getElem? (i := 22) rfl)) (hw _ (List.mem_of_getElem? (i := 21) rfl)) (by decide) (by decide)) (g := (mkF m 59 #[.val (.int p0), .val (.int p1), .val (.int p2), .val (.int ((p0 &&& (2147483647 : Int32)) % (21 : Int32))), .val (.ref b1), .unset, .unset] [(.int p2), (.int p1), (.int (4 : Int32)), (.int ((p0 &&& (2147483647 : Int32)) % (21 : Int32))), (.ref b1)])) rfl (by rw [hml]; rfl) (argsL := [(.ref b1), (.int ((p0 &&& (2147483647 : Int32)) % (21 : Int32))), (.int (4 : Int32)), (.int p1), (.int p2)]) (rest := []) (lenOf own_pd5 rfl) rfl (by show 2 * 0 + _ ≤ _; exact Nat.le_of_eq rfl) (hb hby at_59) (fun _ _ => ⟨rfl, rfl, (by decide : 4 + 0 ≤ _), (by decide : 2072 + 0 ≤ _)⟩)
  dsimp only [Pt.U, Pt.locs, Pt.cells, Pt.slots] at X35 l35 y35 z35 st35 hQ35
  rw [l35, (y35 : k35 = 4), (z35 : n35 = 2072)] at X35
  clear l35 y35 z35
  obtain ⟨rfl, N36, ⟨ws36, hws36, Kq36⟩, St36⟩ := hQ35
  have nf37 := Fr.app nf32 N36
  have k36 := k31.trans Kq36 (fun x hx => Or.inr (hn0 ▸ hws36 x hx))
  have zs38 : n0 ≤ T35.heap.size := Nat.le_trans Z0 k36.1
  obtain ⟨_, _, ⟨T39, L39, k39, n39⟩, -, X39, ⟨Lc39, hQ39, l39, y39, z39⟩, st39⟩ := Jvm.LawKit.callS X35 hx (y := (⟨"com/example/interleaving/interleaving/store/StateGraphAddInitialPinLaw", "add", "(Lcom/example/interleaving/interleaving/store/StateGraph;IIII)V"⟩ : MethodName)) hown (mvT hZ (hw _ (List.mem_of_getElem? (i := 19) rfl))) (mvT hZ (hw _ (List.mem_of_getElem? (i := 20) rfl))) (mvT hZ (hw _ (List.mem_of_getElem? (i := 21) rfl))) (mvT hZ (hw _ (List.mem_of_getElem? (i := 22) rfl))) (by decide) (backOf (W := 0) (own_rm_adn l Z a0 hw [] b1 ((p0 &&& (2147483647 : Int32)) % (21 : Int32)) (5 : Int32) p1 p2 nn 5 T35.heap n0 zs38 St36 hn hnn rfl (by decide) (by decide)) hZ (hw _ (List.mem_of_getElem? (i := 22) rfl)) (hw _ (List.mem_of_getElem? (i := 21) rfl)) (by decide) (by decide)) (g := (mkF m 68 #[.val (.int p0), .val (.int p1), .val (.int p2), .val (.int ((p0 &&& (2147483647 : Int32)) % (21 : Int32))), .val (.ref b1), .unset, .unset] [(.int p2), (.int p1), (.int (5 : Int32)), (.int ((p0 &&& (2147483647 : Int32)) % (21 : Int32))), (.ref b1)])) rfl (by rw [hml]; rfl) (argsL := [(.ref b1), (.int ((p0 &&& (2147483647 : Int32)) % (21 : Int32))), (.int (5 : Int32)), (.int p1), (.int p2)]) (rest := []) (lenOf own_pd5 rfl) rfl (by show 2 * 0 + _ ≤ _; exact Nat.le_of_eq rfl) (hb hby at_68) (fun _ _ => ⟨rfl, rfl, (by decide : 4 + 0 ≤ _), (by decide : 2072 + 0 ≤ _)⟩)
  dsimp only [Pt.U, Pt.locs, Pt.cells, Pt.slots] at X39 l39 y39 z39 st39 hQ39
  rw [l39, (y39 : k39 = 4), (z39 : n39 = 2072)] at X39
  clear l39 y39 z39
  obtain ⟨rfl, N40, ⟨ws40, hws40, Kq40⟩, St40⟩ := hQ39
  have nf41 := Fr.app nf37 N40
  have k40 := k36.trans Kq40 (fun x hx => Or.inr (hn0 ▸ hws40 x hx))
  have pre42 : ∀ t, Steps p.tables e below (T39.setTop (mkF m 74 #[.val (.int p0), .val (.int p1), .val (.int p2), .val (.int ((p0 &&& (2147483647 : Int32)) % (21 : Int32))), .val (.ref b1), .unset, .unset] [(.int ((p0 &&& (2147483647 : Int32)) % (21 : Int32))), (.ref b1)])) t → Steps p.tables e below (s₁.setTop (entryFrame m #[(.int p0), (.int p1), (.int p2)] maxLocals)) t := by
    intro t kt
    refine pre33 t ?_
    show Steps p.tables e below (T30.setTop (mkF m 56 #[.val (.int p0), .val (.int p1), .val (.int p2), .val (.int ((p0 &&& (2147483647 : Int32)) % (21 : Int32))), .val (.ref b1), .unset, .unset] [(.int ((p0 &&& (2147483647 : Int32)) % (21 : Int32))), (.ref b1)])) _
    refine XS.iconst X30.here hx rfl (hb hby at_56) ?_
    show Steps p.tables e below (T30.setTop (mkF m 57 #[.val (.int p0), .val (.int p1), .val (.int p2), .val (.int ((p0 &&& (2147483647 : Int32)) % (21 : Int32))), .val (.ref b1), .unset, .unset] [(.int (4 : Int32)), (.int ((p0 &&& (2147483647 : Int32)) % (21 : Int32))), (.ref b1)])) _
    refine XS.iloadN X30.here hx rfl (hb hby at_57) rfl ?_
    show Steps p.tables e below (T30.setTop (mkF m 58 #[.val (.int p0), .val (.int p1), .val (.int p2), .val (.int ((p0 &&& (2147483647 : Int32)) % (21 : Int32))), .val (.ref b1), .unset, .unset] [(.int p1), (.int (4 : Int32)), (.int ((p0 &&& (2147483647 : Int32)) % (21 : Int32))), (.ref b1)])) _
    refine XS.iloadN X30.here hx rfl (hb hby at_58) rfl ?_
    show Steps p.tables e below (T30.setTop (mkF m 59 #[.val (.int p0), .val (.int p1), .val (.int p2), .val (.int ((p0 &&& (2147483647 : Int32)) % (21 : Int32))), .val (.ref b1), .unset, .unset] [(.int p2), (.int p1), (.int (4 : Int32)), (.int ((p0 &&& (2147483647 : Int32)) % (21 : Int32))), (.ref b1)])) _
    refine st35 _ ?_
    show Steps p.tables e below (T35.setTop (mkF m 62 #[.val (.int p0), .val (.int p1), .val (.int p2), .val (.int ((p0 &&& (2147483647 : Int32)) % (21 : Int32))), .val (.ref b1), .unset, .unset] [])) _
    refine XS.aload X35.here hx rfl (hb hby at_62) rfl rfl ?_
    show Steps p.tables e below (T35.setTop (mkF m 64 #[.val (.int p0), .val (.int p1), .val (.int p2), .val (.int ((p0 &&& (2147483647 : Int32)) % (21 : Int32))), .val (.ref b1), .unset, .unset] [(.ref b1)])) _
    refine XS.iloadN X35.here hx rfl (hb hby at_64) rfl ?_
    show Steps p.tables e below (T35.setTop (mkF m 65 #[.val (.int p0), .val (.int p1), .val (.int p2), .val (.int ((p0 &&& (2147483647 : Int32)) % (21 : Int32))), .val (.ref b1), .unset, .unset] [(.int ((p0 &&& (2147483647 : Int32)) % (21 : Int32))), (.ref b1)])) _
    refine XS.iconst X35.here hx rfl (hb hby at_65) ?_
    show Steps p.tables e below (T35.setTop (mkF m 66 #[.val (.int p0), .val (.int p1), .val (.int p2), .val (.int ((p0 &&& (2147483647 : Int32)) % (21 : Int32))), .val (.ref b1), .unset, .unset] [(.int (5 : Int32)), (.int ((p0 &&& (2147483647 : Int32)) % (21 : Int32))), (.ref b1)])) _
    refine XS.iloadN X35.here hx rfl (hb hby at_66) rfl ?_
    show Steps p.tables e below (T35.setTop (mkF m 67 #[.val (.int p0), .val (.int p1), .val (.int p2), .val (.int ((p0 &&& (2147483647 : Int32)) % (21 : Int32))), .val (.ref b1), .unset, .unset] [(.int p1), (.int (5 : Int32)), (.int ((p0 &&& (2147483647 : Int32)) % (21 : Int32))), (.ref b1)])) _
    refine XS.iloadN X35.here hx rfl (hb hby at_67) rfl ?_
    show Steps p.tables e below (T35.setTop (mkF m 68 #[.val (.int p0), .val (.int p1), .val (.int p2), .val (.int ((p0 &&& (2147483647 : Int32)) % (21 : Int32))), .val (.ref b1), .unset, .unset] [(.int p2), (.int p1), (.int (5 : Int32)), (.int ((p0 &&& (2147483647 : Int32)) % (21 : Int32))), (.ref b1)])) _
    refine st39 _ ?_
    show Steps p.tables e below (T39.setTop (mkF m 71 #[.val (.int p0), .val (.int p1), .val (.int p2), .val (.int ((p0 &&& (2147483647 : Int32)) % (21 : Int32))), .val (.ref b1), .unset, .unset] [])) _
    refine XS.aload X39.here hx rfl (hb hby at_71) rfl rfl ?_
    show Steps p.tables e below (T39.setTop (mkF m 73 #[.val (.int p0), .val (.int p1), .val (.int p2), .val (.int ((p0 &&& (2147483647 : Int32)) % (21 : Int32))), .val (.ref b1), .unset, .unset] [(.ref b1)])) _
    refine XS.iloadN X39.here hx rfl (hb hby at_73) rfl ?_
    exact kt
  have zs43 : n0 ≤ T39.heap.size := Nat.le_trans Z0 k40.1
  obtain ⟨_, _, ⟨T44, L44, k44, n44⟩, -, X44, ⟨Lc44, hQ44, l44, y44, z44⟩, st44⟩ := Jvm.LawKit.callS X39 hx (y := (⟨"com/example/interleaving/interleaving/store/StateGraphAddInitialPinLaw", "add", "(Lcom/example/interleaving/interleaving/store/StateGraph;IIII)V"⟩ : MethodName)) hown (mvT hZ (hw _ (List.mem_of_getElem? (i := 19) rfl))) (mvT hZ (hw _ (List.mem_of_getElem? (i := 20) rfl))) (mvT hZ (hw _ (List.mem_of_getElem? (i := 21) rfl))) (mvT hZ (hw _ (List.mem_of_getElem? (i := 22) rfl))) (by decide) (backOf (W := 0) (own_rm_adn l Z a0 hw [] b1 ((p0 &&& (2147483647 : Int32)) % (21 : Int32)) (6 : Int32) p1 p2 nn 6 T39.heap n0 zs43 St40 hn hnn rfl (by decide) (by decide)) hZ (hw _ (List.mem_of_getElem? (i := 22) rfl)) (hw _ (List.mem_of_getElem? (i := 21) rfl)) (by decide) (by decide)) (g := (mkF m 78 #[.val (.int p0), .val (.int p1), .val (.int p2), .val (.int ((p0 &&& (2147483647 : Int32)) % (21 : Int32))), .val (.ref b1), .unset, .unset] [(.int p2), (.int p1), (.int (6 : Int32)), (.int ((p0 &&& (2147483647 : Int32)) % (21 : Int32))), (.ref b1)])) rfl (by rw [hml]; rfl) (argsL := [(.ref b1), (.int ((p0 &&& (2147483647 : Int32)) % (21 : Int32))), (.int (6 : Int32)), (.int p1), (.int p2)]) (rest := []) (lenOf own_pd5 rfl) rfl (by show 2 * 0 + _ ≤ _; exact Nat.le_of_eq rfl) (hb hby at_78) (fun _ _ => ⟨rfl, rfl, (by decide : 4 + 0 ≤ _), (by decide : 2072 + 0 ≤ _)⟩)
  dsimp only [Pt.U, Pt.locs, Pt.cells, Pt.slots] at X44 l44 y44 z44 st44 hQ44
  rw [l44, (y44 : k44 = 4), (z44 : n44 = 2072)] at X44
  clear l44 y44 z44
  obtain ⟨rfl, N45, ⟨ws45, hws45, Kq45⟩, St45⟩ := hQ44
  have nf46 := Fr.app nf41 N45
  have k45 := k40.trans Kq45 (fun x hx => Or.inr (hn0 ▸ hws45 x hx))
  have zs47 : n0 ≤ T44.heap.size := Nat.le_trans Z0 k45.1
  obtain ⟨_, _, ⟨T48, L48, k48, n48⟩, -, X48, ⟨Lc48, hQ48, l48, y48, z48⟩, st48⟩ := Jvm.LawKit.callS X44 hx (y := (⟨"com/example/interleaving/interleaving/store/StateGraphAddInitialPinLaw", "add", "(Lcom/example/interleaving/interleaving/store/StateGraph;IIII)V"⟩ : MethodName)) hown (mvT hZ (hw _ (List.mem_of_getElem? (i := 19) rfl))) (mvT hZ (hw _ (List.mem_of_getElem? (i := 20) rfl))) (mvT hZ (hw _ (List.mem_of_getElem? (i := 21) rfl))) (mvT hZ (hw _ (List.mem_of_getElem? (i := 22) rfl))) (by decide) (backOf (W := 0) (own_rm_adn l Z a0 hw [] b1 ((p0 &&& (2147483647 : Int32)) % (21 : Int32)) (7 : Int32) p1 p2 nn 7 T44.heap n0 zs47 St45 hn hnn rfl (by decide) (by decide)) hZ (hw _ (List.mem_of_getElem? (i := 22) rfl)) (hw _ (List.mem_of_getElem? (i := 21) rfl)) (by decide) (by decide)) (g := (mkF m 88 #[.val (.int p0), .val (.int p1), .val (.int p2), .val (.int ((p0 &&& (2147483647 : Int32)) % (21 : Int32))), .val (.ref b1), .unset, .unset] [(.int p2), (.int p1), (.int (7 : Int32)), (.int ((p0 &&& (2147483647 : Int32)) % (21 : Int32))), (.ref b1)])) rfl (by rw [hml]; rfl) (argsL := [(.ref b1), (.int ((p0 &&& (2147483647 : Int32)) % (21 : Int32))), (.int (7 : Int32)), (.int p1), (.int p2)]) (rest := []) (lenOf own_pd5 rfl) rfl (by show 2 * 0 + _ ≤ _; exact Nat.le_of_eq rfl) (hb hby at_88) (fun _ _ => ⟨rfl, rfl, (by decide : 4 + 0 ≤ _), (by decide : 2072 + 0 ≤ _)⟩)
  dsimp only [Pt.U, Pt.locs, Pt.cells, Pt.slots] at X48 l48 y48 z48 st48 hQ48
  rw [l48, (y48 : k48 = 4), (z48 : n48 = 2072)] at X48
  clear l48 y48 z48
  obtain ⟨rfl, N49, ⟨ws49, hws49, Kq49⟩, St49⟩ := hQ48
  have nf50 := Fr.app nf46 N49
  have k49 := k45.trans Kq49 (fun x hx => Or.inr (hn0 ▸ hws49 x hx))
  have pre51 : ∀ t, Steps p.tables e below (T48.setTop (mkF m 94 #[.val (.int p0), .val (.int p1), .val (.int p2), .val (.int ((p0 &&& (2147483647 : Int32)) % (21 : Int32))), .val (.ref b1), .unset, .unset] [(.int ((p0 &&& (2147483647 : Int32)) % (21 : Int32))), (.ref b1)])) t → Steps p.tables e below (s₁.setTop (entryFrame m #[(.int p0), (.int p1), (.int p2)] maxLocals)) t := by
    intro t kt
    refine pre42 t ?_
    show Steps p.tables e below (T39.setTop (mkF m 74 #[.val (.int p0), .val (.int p1), .val (.int p2), .val (.int ((p0 &&& (2147483647 : Int32)) % (21 : Int32))), .val (.ref b1), .unset, .unset] [(.int ((p0 &&& (2147483647 : Int32)) % (21 : Int32))), (.ref b1)])) _
    refine XS.bipush X39.here hx rfl (hb hby at_74) ?_
    show Steps p.tables e below (T39.setTop (mkF m 76 #[.val (.int p0), .val (.int p1), .val (.int p2), .val (.int ((p0 &&& (2147483647 : Int32)) % (21 : Int32))), .val (.ref b1), .unset, .unset] [(.int (6 : Int32)), (.int ((p0 &&& (2147483647 : Int32)) % (21 : Int32))), (.ref b1)])) _
    refine XS.iloadN X39.here hx rfl (hb hby at_76) rfl ?_
    show Steps p.tables e below (T39.setTop (mkF m 77 #[.val (.int p0), .val (.int p1), .val (.int p2), .val (.int ((p0 &&& (2147483647 : Int32)) % (21 : Int32))), .val (.ref b1), .unset, .unset] [(.int p1), (.int (6 : Int32)), (.int ((p0 &&& (2147483647 : Int32)) % (21 : Int32))), (.ref b1)])) _
    refine XS.iloadN X39.here hx rfl (hb hby at_77) rfl ?_
    show Steps p.tables e below (T39.setTop (mkF m 78 #[.val (.int p0), .val (.int p1), .val (.int p2), .val (.int ((p0 &&& (2147483647 : Int32)) % (21 : Int32))), .val (.ref b1), .unset, .unset] [(.int p2), (.int p1), (.int (6 : Int32)), (.int ((p0 &&& (2147483647 : Int32)) % (21 : Int32))), (.ref b1)])) _
    refine st44 _ ?_
    show Steps p.tables e below (T44.setTop (mkF m 81 #[.val (.int p0), .val (.int p1), .val (.int p2), .val (.int ((p0 &&& (2147483647 : Int32)) % (21 : Int32))), .val (.ref b1), .unset, .unset] [])) _
    refine XS.aload X44.here hx rfl (hb hby at_81) rfl rfl ?_
    show Steps p.tables e below (T44.setTop (mkF m 83 #[.val (.int p0), .val (.int p1), .val (.int p2), .val (.int ((p0 &&& (2147483647 : Int32)) % (21 : Int32))), .val (.ref b1), .unset, .unset] [(.ref b1)])) _
    refine XS.iloadN X44.here hx rfl (hb hby at_83) rfl ?_
    show Steps p.tables e below (T44.setTop (mkF m 84 #[.val (.int p0), .val (.int p1), .val (.int p2), .val (.int ((p0 &&& (2147483647 : Int32)) % (21 : Int32))), .val (.ref b1), .unset, .unset] [(.int ((p0 &&& (2147483647 : Int32)) % (21 : Int32))), (.ref b1)])) _
    refine XS.bipush X44.here hx rfl (hb hby at_84) ?_
    show Steps p.tables e below (T44.setTop (mkF m 86 #[.val (.int p0), .val (.int p1), .val (.int p2), .val (.int ((p0 &&& (2147483647 : Int32)) % (21 : Int32))), .val (.ref b1), .unset, .unset] [(.int (7 : Int32)), (.int ((p0 &&& (2147483647 : Int32)) % (21 : Int32))), (.ref b1)])) _
    refine XS.iloadN X44.here hx rfl (hb hby at_86) rfl ?_
    show Steps p.tables e below (T44.setTop (mkF m 87 #[.val (.int p0), .val (.int p1), .val (.int p2), .val (.int ((p0 &&& (2147483647 : Int32)) % (21 : Int32))), .val (.ref b1), .unset, .unset] [(.int p1), (.int (7 : Int32)), (.int ((p0 &&& (2147483647 : Int32)) % (21 : Int32))), (.ref b1)])) _
    refine XS.iloadN X44.here hx rfl (hb hby at_87) rfl ?_
    show Steps p.tables e below (T44.setTop (mkF m 88 #[.val (.int p0), .val (.int p1), .val (.int p2), .val (.int ((p0 &&& (2147483647 : Int32)) % (21 : Int32))), .val (.ref b1), .unset, .unset] [(.int p2), (.int p1), (.int (7 : Int32)), (.int ((p0 &&& (2147483647 : Int32)) % (21 : Int32))), (.ref b1)])) _
    refine st48 _ ?_
    show Steps p.tables e below (T48.setTop (mkF m 91 #[.val (.int p0), .val (.int p1), .val (.int p2), .val (.int ((p0 &&& (2147483647 : Int32)) % (21 : Int32))), .val (.ref b1), .unset, .unset] [])) _
    refine XS.aload X48.here hx rfl (hb hby at_91) rfl rfl ?_
    show Steps p.tables e below (T48.setTop (mkF m 93 #[.val (.int p0), .val (.int p1), .val (.int p2), .val (.int ((p0 &&& (2147483647 : Int32)) % (21 : Int32))), .val (.ref b1), .unset, .unset] [(.ref b1)])) _
    refine XS.iloadN X48.here hx rfl (hb hby at_93) rfl ?_
    exact kt
  have zs52 : n0 ≤ T48.heap.size := Nat.le_trans Z0 k49.1
  obtain ⟨_, _, ⟨T53, L53, k53, n53⟩, -, X53, ⟨Lc53, hQ53, l53, y53, z53⟩, st53⟩ := Jvm.LawKit.callS X48 hx (y := (⟨"com/example/interleaving/interleaving/store/StateGraphAddInitialPinLaw", "add", "(Lcom/example/interleaving/interleaving/store/StateGraph;IIII)V"⟩ : MethodName)) hown (mvT hZ (hw _ (List.mem_of_getElem? (i := 19) rfl))) (mvT hZ (hw _ (List.mem_of_getElem? (i := 20) rfl))) (mvT hZ (hw _ (List.mem_of_getElem? (i := 21) rfl))) (mvT hZ (hw _ (List.mem_of_getElem? (i := 22) rfl))) (by decide) (backOf (W := 0) (own_rm_adn l Z a0 hw [] b1 ((p0 &&& (2147483647 : Int32)) % (21 : Int32)) (8 : Int32) p1 p2 nn 8 T48.heap n0 zs52 St49 hn hnn rfl (by decide) (by decide)) hZ (hw _ (List.mem_of_getElem? (i := 22) rfl)) (hw _ (List.mem_of_getElem? (i := 21) rfl)) (by decide) (by decide)) (g := (mkF m 98 #[.val (.int p0), .val (.int p1), .val (.int p2), .val (.int ((p0 &&& (2147483647 : Int32)) % (21 : Int32))), .val (.ref b1), .unset, .unset] [(.int p2), (.int p1), (.int (8 : Int32)), (.int ((p0 &&& (2147483647 : Int32)) % (21 : Int32))), (.ref b1)])) rfl (by rw [hml]; rfl) (argsL := [(.ref b1), (.int ((p0 &&& (2147483647 : Int32)) % (21 : Int32))), (.int (8 : Int32)), (.int p1), (.int p2)]) (rest := []) (lenOf own_pd5 rfl) rfl (by show 2 * 0 + _ ≤ _; exact Nat.le_of_eq rfl) (hb hby at_98) (fun _ _ => ⟨rfl, rfl, (by decide : 4 + 0 ≤ _), (by decide : 2072 + 0 ≤ _)⟩)
  dsimp only [Pt.U, Pt.locs, Pt.cells, Pt.slots] at X53 l53 y53 z53 st53 hQ53
  rw [l53, (y53 : k53 = 4), (z53 : n53 = 2072)] at X53
  clear l53 y53 z53
  obtain ⟨rfl, N54, ⟨ws54, hws54, Kq54⟩, St54⟩ := hQ53
  have nf55 := Fr.app nf50 N54
  have k54 := k49.trans Kq54 (fun x hx => Or.inr (hn0 ▸ hws54 x hx))
  have zs56 : n0 ≤ T53.heap.size := Nat.le_trans Z0 k54.1
  obtain ⟨_, _, ⟨T57, L57, k57, n57⟩, -, X57, ⟨Lc57, hQ57, l57, y57, z57⟩, st57⟩ := Jvm.LawKit.callS X53 hx (y := (⟨"com/example/interleaving/interleaving/store/StateGraphAddInitialPinLaw", "add", "(Lcom/example/interleaving/interleaving/store/StateGraph;IIII)V"⟩ : MethodName)) hown (mvT hZ (hw _ (List.mem_of_getElem? (i := 19) rfl))) (mvT hZ (hw _ (List.mem_of_getElem? (i := 20) rfl))) (mvT hZ (hw _ (List.mem_of_getElem? (i := 21) rfl))) (mvT hZ (hw _ (List.mem_of_getElem? (i := 22) rfl))) (by decide) (backOf (W := 0) (own_rm_adn l Z a0 hw [] b1 ((p0 &&& (2147483647 : Int32)) % (21 : Int32)) (9 : Int32) p1 p2 nn 9 T53.heap n0 zs56 St54 hn hnn rfl (by decide) (by decide)) hZ (hw _ (List.mem_of_getElem? (i := 22) rfl)) (hw _ (List.mem_of_getElem? (i := 21) rfl)) (by decide) (by decide)) (g := (mkF m 108 #[.val (.int p0), .val (.int p1), .val (.int p2), .val (.int ((p0 &&& (2147483647 : Int32)) % (21 : Int32))), .val (.ref b1), .unset, .unset] [(.int p2), (.int p1), (.int (9 : Int32)), (.int ((p0 &&& (2147483647 : Int32)) % (21 : Int32))), (.ref b1)])) rfl (by rw [hml]; rfl) (argsL := [(.ref b1), (.int ((p0 &&& (2147483647 : Int32)) % (21 : Int32))), (.int (9 : Int32)), (.int p1), (.int p2)]) (rest := []) (lenOf own_pd5 rfl) rfl (by show 2 * 0 + _ ≤ _; exact Nat.le_of_eq rfl) (hb hby at_108) (fun _ _ => ⟨rfl, rfl, (by decide : 4 + 0 ≤ _), (by decide : 2072 + 0 ≤ _)⟩)
  dsimp only [Pt.U, Pt.locs, Pt.cells, Pt.slots] at X57 l57 y57 z57 st57 hQ57
  rw [l57, (y57 : k57 = 4), (z57 : n57 = 2072)] at X57
  clear l57 y57 z57
  obtain ⟨rfl, N58, ⟨ws58, hws58, Kq58⟩, St58⟩ := hQ57
  have nf59 := Fr.app nf55 N58
  have k58 := k54.trans Kq58 (fun x hx => Or.inr (hn0 ▸ hws58 x hx))
  have pre60 : ∀ t, Steps p.tables e below (T57.setTop (mkF m 114 #[.val (.int p0), .val (.int p1), .val (.int p2), .val (.int ((p0 &&& (2147483647 : Int32)) % (21 : Int32))), .val (.ref b1), .unset, .unset] [(.int ((p0 &&& (2147483647 : Int32)) % (21 : Int32))), (.ref b1)])) t → Steps p.tables e below (s₁.setTop (entryFrame m #[(.int p0), (.int p1), (.int p2)] maxLocals)) t := by
    intro t kt
    refine pre51 t ?_
    show Steps p.tables e below (T48.setTop (mkF m 94 #[.val (.int p0), .val (.int p1), .val (.int p2), .val (.int ((p0 &&& (2147483647 : Int32)) % (21 : Int32))), .val (.ref b1), .unset, .unset] [(.int ((p0 &&& (2147483647 : Int32)) % (21 : Int32))), (.ref b1)])) _
    refine XS.bipush X48.here hx rfl (hb hby at_94) ?_
    show Steps p.tables e below (T48.setTop (mkF m 96 #[.val (.int p0), .val (.int p1), .val (.int p2), .val (.int ((p0 &&& (2147483647 : Int32)) % (21 : Int32))), .val (.ref b1), .unset, .unset] [(.int (8 : Int32)), (.int ((p0 &&& (2147483647 : Int32)) % (21 : Int32))), (.ref b1)])) _
    refine XS.iloadN X48.here hx rfl (hb hby at_96) rfl ?_
    show Steps p.tables e below (T48.setTop (mkF m 97 #[.val (.int p0), .val (.int p1), .val (.int p2), .val (.int ((p0 &&& (2147483647 : Int32)) % (21 : Int32))), .val (.ref b1), .unset, .unset] [(.int p1), (.int (8 : Int32)), (.int ((p0 &&& (2147483647 : Int32)) % (21 : Int32))), (.ref b1)])) _
    refine XS.iloadN X48.here hx rfl (hb hby at_97) rfl ?_
    show Steps p.tables e below (T48.setTop (mkF m 98 #[.val (.int p0), .val (.int p1), .val (.int p2), .val (.int ((p0 &&& (2147483647 : Int32)) % (21 : Int32))), .val (.ref b1), .unset, .unset] [(.int p2), (.int p1), (.int (8 : Int32)), (.int ((p0 &&& (2147483647 : Int32)) % (21 : Int32))), (.ref b1)])) _
    refine st53 _ ?_
    show Steps p.tables e below (T53.setTop (mkF m 101 #[.val (.int p0), .val (.int p1), .val (.int p2), .val (.int ((p0 &&& (2147483647 : Int32)) % (21 : Int32))), .val (.ref b1), .unset, .unset] [])) _
    refine XS.aload X53.here hx rfl (hb hby at_101) rfl rfl ?_
    show Steps p.tables e below (T53.setTop (mkF m 103 #[.val (.int p0), .val (.int p1), .val (.int p2), .val (.int ((p0 &&& (2147483647 : Int32)) % (21 : Int32))), .val (.ref b1), .unset, .unset] [(.ref b1)])) _
    refine XS.iloadN X53.here hx rfl (hb hby at_103) rfl ?_
    show Steps p.tables e below (T53.setTop (mkF m 104 #[.val (.int p0), .val (.int p1), .val (.int p2), .val (.int ((p0 &&& (2147483647 : Int32)) % (21 : Int32))), .val (.ref b1), .unset, .unset] [(.int ((p0 &&& (2147483647 : Int32)) % (21 : Int32))), (.ref b1)])) _
    refine XS.bipush X53.here hx rfl (hb hby at_104) ?_
    show Steps p.tables e below (T53.setTop (mkF m 106 #[.val (.int p0), .val (.int p1), .val (.int p2), .val (.int ((p0 &&& (2147483647 : Int32)) % (21 : Int32))), .val (.ref b1), .unset, .unset] [(.int (9 : Int32)), (.int ((p0 &&& (2147483647 : Int32)) % (21 : Int32))), (.ref b1)])) _
    refine XS.iloadN X53.here hx rfl (hb hby at_106) rfl ?_
    show Steps p.tables e below (T53.setTop (mkF m 107 #[.val (.int p0), .val (.int p1), .val (.int p2), .val (.int ((p0 &&& (2147483647 : Int32)) % (21 : Int32))), .val (.ref b1), .unset, .unset] [(.int p1), (.int (9 : Int32)), (.int ((p0 &&& (2147483647 : Int32)) % (21 : Int32))), (.ref b1)])) _
    refine XS.iloadN X53.here hx rfl (hb hby at_107) rfl ?_
    show Steps p.tables e below (T53.setTop (mkF m 108 #[.val (.int p0), .val (.int p1), .val (.int p2), .val (.int ((p0 &&& (2147483647 : Int32)) % (21 : Int32))), .val (.ref b1), .unset, .unset] [(.int p2), (.int p1), (.int (9 : Int32)), (.int ((p0 &&& (2147483647 : Int32)) % (21 : Int32))), (.ref b1)])) _
    refine st57 _ ?_
    show Steps p.tables e below (T57.setTop (mkF m 111 #[.val (.int p0), .val (.int p1), .val (.int p2), .val (.int ((p0 &&& (2147483647 : Int32)) % (21 : Int32))), .val (.ref b1), .unset, .unset] [])) _
    refine XS.aload X57.here hx rfl (hb hby at_111) rfl rfl ?_
    show Steps p.tables e below (T57.setTop (mkF m 113 #[.val (.int p0), .val (.int p1), .val (.int p2), .val (.int ((p0 &&& (2147483647 : Int32)) % (21 : Int32))), .val (.ref b1), .unset, .unset] [(.ref b1)])) _
    refine XS.iloadN X57.here hx rfl (hb hby at_113) rfl ?_
    exact kt
  have zs61 : n0 ≤ T57.heap.size := Nat.le_trans Z0 k58.1
  obtain ⟨_, _, ⟨T62, L62, k62, n62⟩, -, X62, ⟨Lc62, hQ62, l62, y62, z62⟩, st62⟩ := Jvm.LawKit.callS X57 hx (y := (⟨"com/example/interleaving/interleaving/store/StateGraphAddInitialPinLaw", "add", "(Lcom/example/interleaving/interleaving/store/StateGraph;IIII)V"⟩ : MethodName)) hown (mvT hZ (hw _ (List.mem_of_getElem? (i := 19) rfl))) (mvT hZ (hw _ (List.mem_of_getElem? (i := 20) rfl))) (mvT hZ (hw _ (List.mem_of_getElem? (i := 21) rfl))) (mvT hZ (hw _ (List.mem_of_getElem? (i := 22) rfl))) (by decide) (backOf (W := 0) (own_rm_adn l Z a0 hw [] b1 ((p0 &&& (2147483647 : Int32)) % (21 : Int32)) (10 : Int32) p1 p2 nn 10 T57.heap n0 zs61 St58 hn hnn rfl (by decide) (by decide)) hZ (hw _ (List.mem_of_getElem? (i := 22) rfl)) (hw _ (List.mem_of_getElem? (i := 21) rfl)) (by decide) (by decide)) (g := (mkF m 118 #[.val (.int p0), .val (.int p1), .val (.int p2), .val (.int ((p0 &&& (2147483647 : Int32)) % (21 : Int32))), .val (.ref b1), .unset, .unset] [(.int p2), (.int p1), (.int (10 : Int32)), (.int ((p0 &&& (2147483647 : Int32)) % (21 : Int32))), (.ref b1)])) rfl (by rw [hml]; rfl) (argsL := [(.ref b1), (.int ((p0 &&& (2147483647 : Int32)) % (21 : Int32))), (.int (10 : Int32)), (.int p1), (.int p2)]) (rest := []) (lenOf own_pd5 rfl) rfl (by show 2 * 0 + _ ≤ _; exact Nat.le_of_eq rfl) (hb hby at_118) (fun _ _ => ⟨rfl, rfl, (by decide : 4 + 0 ≤ _), (by decide : 2072 + 0 ≤ _)⟩)
  dsimp only [Pt.U, Pt.locs, Pt.cells, Pt.slots] at X62 l62 y62 z62 st62 hQ62
  rw [l62, (y62 : k62 = 4), (z62 : n62 = 2072)] at X62
  clear l62 y62 z62
  obtain ⟨rfl, N63, ⟨ws63, hws63, Kq63⟩, St63⟩ := hQ62
  have nf64 := Fr.app nf59 N63
  have k63 := k58.trans Kq63 (fun x hx => Or.inr (hn0 ▸ hws63 x hx))
  have zs65 : n0 ≤ T62.heap.size := Nat.le_trans Z0 k63.1
  obtain ⟨_, _, ⟨T66, L66, k66, n66⟩, -, X66, ⟨Lc66, hQ66, l66, y66, z66⟩, st66⟩ := Jvm.LawKit.callS X62 hx (y := (⟨"com/example/interleaving/interleaving/store/StateGraphAddInitialPinLaw", "add", "(Lcom/example/interleaving/interleaving/store/StateGraph;IIII)V"⟩ : MethodName)) hown (mvT hZ (hw _ (List.mem_of_getElem? (i := 19) rfl))) (mvT hZ (hw _ (List.mem_of_getElem? (i := 20) rfl))) (mvT hZ (hw _ (List.mem_of_getElem? (i := 21) rfl))) (mvT hZ (hw _ (List.mem_of_getElem? (i := 22) rfl))) (by decide) (backOf (W := 0) (own_rm_adn l Z a0 hw [] b1 ((p0 &&& (2147483647 : Int32)) % (21 : Int32)) (11 : Int32) p1 p2 nn 11 T62.heap n0 zs65 St63 hn hnn rfl (by decide) (by decide)) hZ (hw _ (List.mem_of_getElem? (i := 22) rfl)) (hw _ (List.mem_of_getElem? (i := 21) rfl)) (by decide) (by decide)) (g := (mkF m 128 #[.val (.int p0), .val (.int p1), .val (.int p2), .val (.int ((p0 &&& (2147483647 : Int32)) % (21 : Int32))), .val (.ref b1), .unset, .unset] [(.int p2), (.int p1), (.int (11 : Int32)), (.int ((p0 &&& (2147483647 : Int32)) % (21 : Int32))), (.ref b1)])) rfl (by rw [hml]; rfl) (argsL := [(.ref b1), (.int ((p0 &&& (2147483647 : Int32)) % (21 : Int32))), (.int (11 : Int32)), (.int p1), (.int p2)]) (rest := []) (lenOf own_pd5 rfl) rfl (by show 2 * 0 + _ ≤ _; exact Nat.le_of_eq rfl) (hb hby at_128) (fun _ _ => ⟨rfl, rfl, (by decide : 4 + 0 ≤ _), (by decide : 2072 + 0 ≤ _)⟩)
  dsimp only [Pt.U, Pt.locs, Pt.cells, Pt.slots] at X66 l66 y66 z66 st66 hQ66
  rw [l66, (y66 : k66 = 4), (z66 : n66 = 2072)] at X66
  clear l66 y66 z66
  obtain ⟨rfl, N67, ⟨ws67, hws67, Kq67⟩, St67⟩ := hQ66
  have nf68 := Fr.app nf64 N67
  have k67 := k63.trans Kq67 (fun x hx => Or.inr (hn0 ▸ hws67 x hx))
  have pre69 : ∀ t, Steps p.tables e below (T66.setTop (mkF m 134 #[.val (.int p0), .val (.int p1), .val (.int p2), .val (.int ((p0 &&& (2147483647 : Int32)) % (21 : Int32))), .val (.ref b1), .unset, .unset] [(.int ((p0 &&& (2147483647 : Int32)) % (21 : Int32))), (.ref b1)])) t → Steps p.tables e below (s₁.setTop (entryFrame m #[(.int p0), (.int p1), (.int p2)] maxLocals)) t := by
    intro t kt
    refine pre60 t ?_
    show Steps p.tables e below (T57.setTop (mkF m 114 #[.val (.int p0), .val (.int p1), .val (.int p2), .val (.int ((p0 &&& (2147483647 : Int32)) % (21 : Int32))), .val (.ref b1), .unset, .unset] [(.int ((p0 &&& (2147483647 : Int32)) % (21 : Int32))), (.ref b1)])) _
    refine XS.bipush X57.here hx rfl (hb hby at_114) ?_
    show Steps p.tables e below (T57.setTop (mkF m 116 #[.val (.int p0), .val (.int p1), .val (.int p2), .val (.int ((p0 &&& (2147483647 : Int32)) % (21 : Int32))), .val (.ref b1), .unset, .unset] [(.int (10 : Int32)), (.int ((p0 &&& (2147483647 : Int32)) % (21 : Int32))), (.ref b1)])) _
    refine XS.iloadN X57.here hx rfl (hb hby at_116) rfl ?_
    show Steps p.tables e below (T57.setTop (mkF m 117 #[.val (.int p0), .val (.int p1), .val (.int p2), .val (.int ((p0 &&& (2147483647 : Int32)) % (21 : Int32))), .val (.ref b1), .unset, .unset] [(.int p1), (.int (10 : Int32)), (.int ((p0 &&& (2147483647 : Int32)) % (21 : Int32))), (.ref b1)])) _
    refine XS.iloadN X57.here hx rfl (hb hby at_117) rfl ?_
    show Steps p.tables e below (T57.setTop (mkF m 118 #[.val (.int p0), .val (.int p1), .val (.int p2), .val (.int ((p0 &&& (2147483647 : Int32)) % (21 : Int32))), .val (.ref b1), .unset, .unset] [(.int p2), (.int p1), (.int (10 : Int32)), (.int ((p0 &&& (2147483647 : Int32)) % (21 : Int32))), (.ref b1)])) _
    refine st62 _ ?_
    show Steps p.tables e below (T62.setTop (mkF m 121 #[.val (.int p0), .val (.int p1), .val (.int p2), .val (.int ((p0 &&& (2147483647 : Int32)) % (21 : Int32))), .val (.ref b1), .unset, .unset] [])) _
    refine XS.aload X62.here hx rfl (hb hby at_121) rfl rfl ?_
    show Steps p.tables e below (T62.setTop (mkF m 123 #[.val (.int p0), .val (.int p1), .val (.int p2), .val (.int ((p0 &&& (2147483647 : Int32)) % (21 : Int32))), .val (.ref b1), .unset, .unset] [(.ref b1)])) _
    refine XS.iloadN X62.here hx rfl (hb hby at_123) rfl ?_
    show Steps p.tables e below (T62.setTop (mkF m 124 #[.val (.int p0), .val (.int p1), .val (.int p2), .val (.int ((p0 &&& (2147483647 : Int32)) % (21 : Int32))), .val (.ref b1), .unset, .unset] [(.int ((p0 &&& (2147483647 : Int32)) % (21 : Int32))), (.ref b1)])) _
    refine XS.bipush X62.here hx rfl (hb hby at_124) ?_
    show Steps p.tables e below (T62.setTop (mkF m 126 #[.val (.int p0), .val (.int p1), .val (.int p2), .val (.int ((p0 &&& (2147483647 : Int32)) % (21 : Int32))), .val (.ref b1), .unset, .unset] [(.int (11 : Int32)), (.int ((p0 &&& (2147483647 : Int32)) % (21 : Int32))), (.ref b1)])) _
    refine XS.iloadN X62.here hx rfl (hb hby at_126) rfl ?_
    show Steps p.tables e below (T62.setTop (mkF m 127 #[.val (.int p0), .val (.int p1), .val (.int p2), .val (.int ((p0 &&& (2147483647 : Int32)) % (21 : Int32))), .val (.ref b1), .unset, .unset] [(.int p1), (.int (11 : Int32)), (.int ((p0 &&& (2147483647 : Int32)) % (21 : Int32))), (.ref b1)])) _
    refine XS.iloadN X62.here hx rfl (hb hby at_127) rfl ?_
    show Steps p.tables e below (T62.setTop (mkF m 128 #[.val (.int p0), .val (.int p1), .val (.int p2), .val (.int ((p0 &&& (2147483647 : Int32)) % (21 : Int32))), .val (.ref b1), .unset, .unset] [(.int p2), (.int p1), (.int (11 : Int32)), (.int ((p0 &&& (2147483647 : Int32)) % (21 : Int32))), (.ref b1)])) _
    refine st66 _ ?_
    show Steps p.tables e below (T66.setTop (mkF m 131 #[.val (.int p0), .val (.int p1), .val (.int p2), .val (.int ((p0 &&& (2147483647 : Int32)) % (21 : Int32))), .val (.ref b1), .unset, .unset] [])) _
    refine XS.aload X66.here hx rfl (hb hby at_131) rfl rfl ?_
    show Steps p.tables e below (T66.setTop (mkF m 133 #[.val (.int p0), .val (.int p1), .val (.int p2), .val (.int ((p0 &&& (2147483647 : Int32)) % (21 : Int32))), .val (.ref b1), .unset, .unset] [(.ref b1)])) _
    refine XS.iloadN X66.here hx rfl (hb hby at_133) rfl ?_
    exact kt
  have zs70 : n0 ≤ T66.heap.size := Nat.le_trans Z0 k67.1
  obtain ⟨_, _, ⟨T71, L71, k71, n71⟩, -, X71, ⟨Lc71, hQ71, l71, y71, z71⟩, st71⟩ := Jvm.LawKit.callS X66 hx (y := (⟨"com/example/interleaving/interleaving/store/StateGraphAddInitialPinLaw", "add", "(Lcom/example/interleaving/interleaving/store/StateGraph;IIII)V"⟩ : MethodName)) hown (mvT hZ (hw _ (List.mem_of_getElem? (i := 19) rfl))) (mvT hZ (hw _ (List.mem_of_getElem? (i := 20) rfl))) (mvT hZ (hw _ (List.mem_of_getElem? (i := 21) rfl))) (mvT hZ (hw _ (List.mem_of_getElem? (i := 22) rfl))) (by decide) (backOf (W := 0) (own_rm_adn l Z a0 hw [] b1 ((p0 &&& (2147483647 : Int32)) % (21 : Int32)) (12 : Int32) p1 p2 nn 12 T66.heap n0 zs70 St67 hn hnn rfl (by decide) (by decide)) hZ (hw _ (List.mem_of_getElem? (i := 22) rfl)) (hw _ (List.mem_of_getElem? (i := 21) rfl)) (by decide) (by decide)) (g := (mkF m 138 #[.val (.int p0), .val (.int p1), .val (.int p2), .val (.int ((p0 &&& (2147483647 : Int32)) % (21 : Int32))), .val (.ref b1), .unset, .unset] [(.int p2), (.int p1), (.int (12 : Int32)), (.int ((p0 &&& (2147483647 : Int32)) % (21 : Int32))), (.ref b1)])) rfl (by rw [hml]; rfl) (argsL := [(.ref b1), (.int ((p0 &&& (2147483647 : Int32)) % (21 : Int32))), (.int (12 : Int32)), (.int p1), (.int p2)]) (rest := []) (lenOf own_pd5 rfl) rfl (by show 2 * 0 + _ ≤ _; exact Nat.le_of_eq rfl) (hb hby at_138) (fun _ _ => ⟨rfl, rfl, (by decide : 4 + 0 ≤ _), (by decide : 2072 + 0 ≤ _)⟩)
  dsimp only [Pt.U, Pt.locs, Pt.cells, Pt.slots] at X71 l71 y71 z71 st71 hQ71
  rw [l71, (y71 : k71 = 4), (z71 : n71 = 2072)] at X71
  clear l71 y71 z71
  obtain ⟨rfl, N72, ⟨ws72, hws72, Kq72⟩, St72⟩ := hQ71
  have nf73 := Fr.app nf68 N72
  have k72 := k67.trans Kq72 (fun x hx => Or.inr (hn0 ▸ hws72 x hx))
  have zs74 : n0 ≤ T71.heap.size := Nat.le_trans Z0 k72.1
  obtain ⟨_, _, ⟨T75, L75, k75, n75⟩, -, X75, ⟨Lc75, hQ75, l75, y75, z75⟩, st75⟩ := Jvm.LawKit.callS X71 hx (y := (⟨"com/example/interleaving/interleaving/store/StateGraphAddInitialPinLaw", "add", "(Lcom/example/interleaving/interleaving/store/StateGraph;IIII)V"⟩ : MethodName)) hown (mvT hZ (hw _ (List.mem_of_getElem? (i := 19) rfl))) (mvT hZ (hw _ (List.mem_of_getElem? (i := 20) rfl))) (mvT hZ (hw _ (List.mem_of_getElem? (i := 21) rfl))) (mvT hZ (hw _ (List.mem_of_getElem? (i := 22) rfl))) (by decide) (backOf (W := 0) (own_rm_adn l Z a0 hw [] b1 ((p0 &&& (2147483647 : Int32)) % (21 : Int32)) (13 : Int32) p1 p2 nn 13 T71.heap n0 zs74 St72 hn hnn rfl (by decide) (by decide)) hZ (hw _ (List.mem_of_getElem? (i := 22) rfl)) (hw _ (List.mem_of_getElem? (i := 21) rfl)) (by decide) (by decide)) (g := (mkF m 148 #[.val (.int p0), .val (.int p1), .val (.int p2), .val (.int ((p0 &&& (2147483647 : Int32)) % (21 : Int32))), .val (.ref b1), .unset, .unset] [(.int p2), (.int p1), (.int (13 : Int32)), (.int ((p0 &&& (2147483647 : Int32)) % (21 : Int32))), (.ref b1)])) rfl (by rw [hml]; rfl) (argsL := [(.ref b1), (.int ((p0 &&& (2147483647 : Int32)) % (21 : Int32))), (.int (13 : Int32)), (.int p1), (.int p2)]) (rest := []) (lenOf own_pd5 rfl) rfl (by show 2 * 0 + _ ≤ _; exact Nat.le_of_eq rfl) (hb hby at_148) (fun _ _ => ⟨rfl, rfl, (by decide : 4 + 0 ≤ _), (by decide : 2072 + 0 ≤ _)⟩)
  dsimp only [Pt.U, Pt.locs, Pt.cells, Pt.slots] at X75 l75 y75 z75 st75 hQ75
  rw [l75, (y75 : k75 = 4), (z75 : n75 = 2072)] at X75
  clear l75 y75 z75
  obtain ⟨rfl, N76, ⟨ws76, hws76, Kq76⟩, St76⟩ := hQ75
  have nf77 := Fr.app nf73 N76
  have k76 := k72.trans Kq76 (fun x hx => Or.inr (hn0 ▸ hws76 x hx))
  have pre78 : ∀ t, Steps p.tables e below (T75.setTop (mkF m 154 #[.val (.int p0), .val (.int p1), .val (.int p2), .val (.int ((p0 &&& (2147483647 : Int32)) % (21 : Int32))), .val (.ref b1), .unset, .unset] [(.int ((p0 &&& (2147483647 : Int32)) % (21 : Int32))), (.ref b1)])) t → Steps p.tables e below (s₁.setTop (entryFrame m #[(.int p0), (.int p1), (.int p2)] maxLocals)) t := by
    intro t kt
    refine pre69 t ?_
    show Steps p.tables e below (T66.setTop (mkF m 134 #[.val (.int p0), .val (.int p1), .val (.int p2), .val (.int ((p0 &&& (2147483647 : Int32)) % (21 : Int32))), .val (.ref b1), .unset, .unset] [(.int ((p0 &&& (2147483647 : Int32)) % (21 : Int32))), (.ref b1)])) _
    refine XS.bipush X66.here hx rfl (hb hby at_134) ?_
    show Steps p.tables e below (T66.setTop (mkF m 136 #[.val (.int p0), .val (.int p1), .val (.int p2), .val (.int ((p0 &&& (2147483647 : Int32)) % (21 : Int32))), .val (.ref b1), .unset, .unset] [(.int (12 : Int32)), (.int ((p0 &&& (2147483647 : Int32)) % (21 : Int32))), (.ref b1)])) _
    refine XS.iloadN X66.here hx rfl (hb hby at_136) rfl ?_
    show Steps p.tables e below (T66.setTop (mkF m 137 #[.val (.int p0), .val (.int p1), .val (.int p2), .val (.int ((p0 &&& (2147483647 : Int32)) % (21 : Int32))), .val (.ref b1), .unset, .unset] [(.int p1), (.int (12 : Int32)), (.int ((p0 &&& (2147483647 : Int32)) % (21 : Int32))), (.ref b1)])) _
    refine XS.iloadN X66.here hx rfl (hb hby at_137) rfl ?_
    show Steps p.tables e below (T66.setTop (mkF m 138 #[.val (.int p0), .val (.int p1), .val (.int p2), .val (.int ((p0 &&& (2147483647 : Int32)) % (21 : Int32))), .val (.ref b1), .unset, .unset] [(.int p2), (.int p1), (.int (12 : Int32)), (.int ((p0 &&& (2147483647 : Int32)) % (21 : Int32))), (.ref b1)])) _
    refine st71 _ ?_
    show Steps p.tables e below (T71.setTop (mkF m 141 #[.val (.int p0), .val (.int p1), .val (.int p2), .val (.int ((p0 &&& (2147483647 : Int32)) % (21 : Int32))), .val (.ref b1), .unset, .unset] [])) _
    refine XS.aload X71.here hx rfl (hb hby at_141) rfl rfl ?_
    show Steps p.tables e below (T71.setTop (mkF m 143 #[.val (.int p0), .val (.int p1), .val (.int p2), .val (.int ((p0 &&& (2147483647 : Int32)) % (21 : Int32))), .val (.ref b1), .unset, .unset] [(.ref b1)])) _
    refine XS.iloadN X71.here hx rfl (hb hby at_143) rfl ?_
    show Steps p.tables e below (T71.setTop (mkF m 144 #[.val (.int p0), .val (.int p1), .val (.int p2), .val (.int ((p0 &&& (2147483647 : Int32)) % (21 : Int32))), .val (.ref b1), .unset, .unset] [(.int ((p0 &&& (2147483647 : Int32)) % (21 : Int32))), (.ref b1)])) _
    refine XS.bipush X71.here hx rfl (hb hby at_144) ?_
    show Steps p.tables e below (T71.setTop (mkF m 146 #[.val (.int p0), .val (.int p1), .val (.int p2), .val (.int ((p0 &&& (2147483647 : Int32)) % (21 : Int32))), .val (.ref b1), .unset, .unset] [(.int (13 : Int32)), (.int ((p0 &&& (2147483647 : Int32)) % (21 : Int32))), (.ref b1)])) _
    refine XS.iloadN X71.here hx rfl (hb hby at_146) rfl ?_
    show Steps p.tables e below (T71.setTop (mkF m 147 #[.val (.int p0), .val (.int p1), .val (.int p2), .val (.int ((p0 &&& (2147483647 : Int32)) % (21 : Int32))), .val (.ref b1), .unset, .unset] [(.int p1), (.int (13 : Int32)), (.int ((p0 &&& (2147483647 : Int32)) % (21 : Int32))), (.ref b1)])) _
    refine XS.iloadN X71.here hx rfl (hb hby at_147) rfl ?_
    show Steps p.tables e below (T71.setTop (mkF m 148 #[.val (.int p0), .val (.int p1), .val (.int p2), .val (.int ((p0 &&& (2147483647 : Int32)) % (21 : Int32))), .val (.ref b1), .unset, .unset] [(.int p2), (.int p1), (.int (13 : Int32)), (.int ((p0 &&& (2147483647 : Int32)) % (21 : Int32))), (.ref b1)])) _
    refine st75 _ ?_
    show Steps p.tables e below (T75.setTop (mkF m 151 #[.val (.int p0), .val (.int p1), .val (.int p2), .val (.int ((p0 &&& (2147483647 : Int32)) % (21 : Int32))), .val (.ref b1), .unset, .unset] [])) _
    refine XS.aload X75.here hx rfl (hb hby at_151) rfl rfl ?_
    show Steps p.tables e below (T75.setTop (mkF m 153 #[.val (.int p0), .val (.int p1), .val (.int p2), .val (.int ((p0 &&& (2147483647 : Int32)) % (21 : Int32))), .val (.ref b1), .unset, .unset] [(.ref b1)])) _
    refine XS.iloadN X75.here hx rfl (hb hby at_153) rfl ?_
    exact kt
  have zs79 : n0 ≤ T75.heap.size := Nat.le_trans Z0 k76.1
  obtain ⟨_, _, ⟨T80, L80, k80, n80⟩, -, X80, ⟨Lc80, hQ80, l80, y80, z80⟩, st80⟩ := Jvm.LawKit.callS X75 hx (y := (⟨"com/example/interleaving/interleaving/store/StateGraphAddInitialPinLaw", "add", "(Lcom/example/interleaving/interleaving/store/StateGraph;IIII)V"⟩ : MethodName)) hown (mvT hZ (hw _ (List.mem_of_getElem? (i := 19) rfl))) (mvT hZ (hw _ (List.mem_of_getElem? (i := 20) rfl))) (mvT hZ (hw _ (List.mem_of_getElem? (i := 21) rfl))) (mvT hZ (hw _ (List.mem_of_getElem? (i := 22) rfl))) (by decide) (backOf (W := 0) (own_rm_adn l Z a0 hw [] b1 ((p0 &&& (2147483647 : Int32)) % (21 : Int32)) (14 : Int32) p1 p2 nn 14 T75.heap n0 zs79 St76 hn hnn rfl (by decide) (by decide)) hZ (hw _ (List.mem_of_getElem? (i := 22) rfl)) (hw _ (List.mem_of_getElem? (i := 21) rfl)) (by decide) (by decide)) (g := (mkF m 158 #[.val (.int p0), .val (.int p1), .val (.int p2), .val (.int ((p0 &&& (2147483647 : Int32)) % (21 : Int32))), .val (.ref b1), .unset, .unset] [(.int p2), (.int p1), (.int (14 : Int32)), (.int ((p0 &&& (2147483647 : Int32)) % (21 : Int32))), (.ref b1)])) rfl (by rw [hml]; rfl) (argsL := [(.ref b1), (.int ((p0 &&& (2147483647 : Int32)) % (21 : Int32))), (.int (14 : Int32)), (.int p1), (.int p2)]) (rest := []) (lenOf own_pd5 rfl) rfl (by show 2 * 0 + _ ≤ _; exact Nat.le_of_eq rfl) (hb hby at_158) (fun _ _ => ⟨rfl, rfl, (by decide : 4 + 0 ≤ _), (by decide : 2072 + 0 ≤ _)⟩)
  dsimp only [Pt.U, Pt.locs, Pt.cells, Pt.slots] at X80 l80 y80 z80 st80 hQ80
  rw [l80, (y80 : k80 = 4), (z80 : n80 = 2072)] at X80
  clear l80 y80 z80
  obtain ⟨rfl, N81, ⟨ws81, hws81, Kq81⟩, St81⟩ := hQ80
  have nf82 := Fr.app nf77 N81
  have k81 := k76.trans Kq81 (fun x hx => Or.inr (hn0 ▸ hws81 x hx))
  have zs83 : n0 ≤ T80.heap.size := Nat.le_trans Z0 k81.1
  obtain ⟨_, _, ⟨T84, L84, k84, n84⟩, -, X84, ⟨Lc84, hQ84, l84, y84, z84⟩, st84⟩ := Jvm.LawKit.callS X80 hx (y := (⟨"com/example/interleaving/interleaving/store/StateGraphAddInitialPinLaw", "add", "(Lcom/example/interleaving/interleaving/store/StateGraph;IIII)V"⟩ : MethodName)) hown (mvT hZ (hw _ (List.mem_of_getElem? (i := 19) rfl))) (mvT hZ (hw _ (List.mem_of_getElem? (i := 20) rfl))) (mvT hZ (hw _ (List.mem_of_getElem? (i := 21) rfl))) (mvT hZ (hw _ (List.mem_of_getElem? (i := 22) rfl))) (by decide) (backOf (W := 0) (own_rm_adn l Z a0 hw [] b1 ((p0 &&& (2147483647 : Int32)) % (21 : Int32)) (15 : Int32) p1 p2 nn 15 T80.heap n0 zs83 St81 hn hnn rfl (by decide) (by decide)) hZ (hw _ (List.mem_of_getElem? (i := 22) rfl)) (hw _ (List.mem_of_getElem? (i := 21) rfl)) (by decide) (by decide)) (g := (mkF m 168 #[.val (.int p0), .val (.int p1), .val (.int p2), .val (.int ((p0 &&& (2147483647 : Int32)) % (21 : Int32))), .val (.ref b1), .unset, .unset] [(.int p2), (.int p1), (.int (15 : Int32)), (.int ((p0 &&& (2147483647 : Int32)) % (21 : Int32))), (.ref b1)])) rfl (by rw [hml]; rfl) (argsL := [(.ref b1), (.int ((p0 &&& (2147483647 : Int32)) % (21 : Int32))), (.int (15 : Int32)), (.int p1), (.int p2)]) (rest := []) (lenOf own_pd5 rfl) rfl (by show 2 * 0 + _ ≤ _; exact Nat.le_of_eq rfl) (hb hby at_168) (fun _ _ => ⟨rfl, rfl, (by decide : 4 + 0 ≤ _), (by decide : 2072 + 0 ≤ _)⟩)
  dsimp only [Pt.U, Pt.locs, Pt.cells, Pt.slots] at X84 l84 y84 z84 st84 hQ84
  rw [l84, (y84 : k84 = 4), (z84 : n84 = 2072)] at X84
  clear l84 y84 z84
  obtain ⟨rfl, N85, ⟨ws85, hws85, Kq85⟩, St85⟩ := hQ84
  have nf86 := Fr.app nf82 N85
  have k85 := k81.trans Kq85 (fun x hx => Or.inr (hn0 ▸ hws85 x hx))
  have pre87 : ∀ t, Steps p.tables e below (T84.setTop (mkF m 174 #[.val (.int p0), .val (.int p1), .val (.int p2), .val (.int ((p0 &&& (2147483647 : Int32)) % (21 : Int32))), .val (.ref b1), .unset, .unset] [(.int ((p0 &&& (2147483647 : Int32)) % (21 : Int32))), (.ref b1)])) t → Steps p.tables e below (s₁.setTop (entryFrame m #[(.int p0), (.int p1), (.int p2)] maxLocals)) t := by
    intro t kt
    refine pre78 t ?_
    show Steps p.tables e below (T75.setTop (mkF m 154 #[.val (.int p0), .val (.int p1), .val (.int p2), .val (.int ((p0 &&& (2147483647 : Int32)) % (21 : Int32))), .val (.ref b1), .unset, .unset] [(.int ((p0 &&& (2147483647 : Int32)) % (21 : Int32))), (.ref b1)])) _
    refine XS.bipush X75.here hx rfl (hb hby at_154) ?_
    show Steps p.tables e below (T75.setTop (mkF m 156 #[.val (.int p0), .val (.int p1), .val (.int p2), .val (.int ((p0 &&& (2147483647 : Int32)) % (21 : Int32))), .val (.ref b1), .unset, .unset] [(.int (14 : Int32)), (.int ((p0 &&& (2147483647 : Int32)) % (21 : Int32))), (.ref b1)])) _
    refine XS.iloadN X75.here hx rfl (hb hby at_156) rfl ?_
    show Steps p.tables e below (T75.setTop (mkF m 157 #[.val (.int p0), .val (.int p1), .val (.int p2), .val (.int ((p0 &&& (2147483647 : Int32)) % (21 : Int32))), .val (.ref b1), .unset, .unset] [(.int p1), (.int (14 : Int32)), (.int ((p0 &&& (2147483647 : Int32)) % (21 : Int32))), (.ref b1)])) _
    refine XS.iloadN X75.here hx rfl (hb hby at_157) rfl ?_
    show Steps p.tables e below (T75.setTop (mkF m 158 #[.val (.int p0), .val (.int p1), .val (.int p2), .val (.int ((p0 &&& (2147483647 : Int32)) % (21 : Int32))), .val (.ref b1), .unset, .unset] [(.int p2), (.int p1), (.int (14 : Int32)), (.int ((p0 &&& (2147483647 : Int32)) % (21 : Int32))), (.ref b1)])) _
    refine st80 _ ?_
    show Steps p.tables e below (T80.setTop (mkF m 161 #[.val (.int p0), .val (.int p1), .val (.int p2), .val (.int ((p0 &&& (2147483647 : Int32)) % (21 : Int32))), .val (.ref b1), .unset, .unset] [])) _
    refine XS.aload X80.here hx rfl (hb hby at_161) rfl rfl ?_
    show Steps p.tables e below (T80.setTop (mkF m 163 #[.val (.int p0), .val (.int p1), .val (.int p2), .val (.int ((p0 &&& (2147483647 : Int32)) % (21 : Int32))), .val (.ref b1), .unset, .unset] [(.ref b1)])) _
    refine XS.iloadN X80.here hx rfl (hb hby at_163) rfl ?_
    show Steps p.tables e below (T80.setTop (mkF m 164 #[.val (.int p0), .val (.int p1), .val (.int p2), .val (.int ((p0 &&& (2147483647 : Int32)) % (21 : Int32))), .val (.ref b1), .unset, .unset] [(.int ((p0 &&& (2147483647 : Int32)) % (21 : Int32))), (.ref b1)])) _
    refine XS.bipush X80.here hx rfl (hb hby at_164) ?_
    show Steps p.tables e below (T80.setTop (mkF m 166 #[.val (.int p0), .val (.int p1), .val (.int p2), .val (.int ((p0 &&& (2147483647 : Int32)) % (21 : Int32))), .val (.ref b1), .unset, .unset] [(.int (15 : Int32)), (.int ((p0 &&& (2147483647 : Int32)) % (21 : Int32))), (.ref b1)])) _
    refine XS.iloadN X80.here hx rfl (hb hby at_166) rfl ?_
    show Steps p.tables e below (T80.setTop (mkF m 167 #[.val (.int p0), .val (.int p1), .val (.int p2), .val (.int ((p0 &&& (2147483647 : Int32)) % (21 : Int32))), .val (.ref b1), .unset, .unset] [(.int p1), (.int (15 : Int32)), (.int ((p0 &&& (2147483647 : Int32)) % (21 : Int32))), (.ref b1)])) _
    refine XS.iloadN X80.here hx rfl (hb hby at_167) rfl ?_
    show Steps p.tables e below (T80.setTop (mkF m 168 #[.val (.int p0), .val (.int p1), .val (.int p2), .val (.int ((p0 &&& (2147483647 : Int32)) % (21 : Int32))), .val (.ref b1), .unset, .unset] [(.int p2), (.int p1), (.int (15 : Int32)), (.int ((p0 &&& (2147483647 : Int32)) % (21 : Int32))), (.ref b1)])) _
    refine st84 _ ?_
    show Steps p.tables e below (T84.setTop (mkF m 171 #[.val (.int p0), .val (.int p1), .val (.int p2), .val (.int ((p0 &&& (2147483647 : Int32)) % (21 : Int32))), .val (.ref b1), .unset, .unset] [])) _
    refine XS.aload X84.here hx rfl (hb hby at_171) rfl rfl ?_
    show Steps p.tables e below (T84.setTop (mkF m 173 #[.val (.int p0), .val (.int p1), .val (.int p2), .val (.int ((p0 &&& (2147483647 : Int32)) % (21 : Int32))), .val (.ref b1), .unset, .unset] [(.ref b1)])) _
    refine XS.iloadN X84.here hx rfl (hb hby at_173) rfl ?_
    exact kt
  have zs88 : n0 ≤ T84.heap.size := Nat.le_trans Z0 k85.1
  obtain ⟨_, _, ⟨T89, L89, k89, n89⟩, -, X89, ⟨Lc89, hQ89, l89, y89, z89⟩, st89⟩ := Jvm.LawKit.callS X84 hx (y := (⟨"com/example/interleaving/interleaving/store/StateGraphAddInitialPinLaw", "add", "(Lcom/example/interleaving/interleaving/store/StateGraph;IIII)V"⟩ : MethodName)) hown (mvT hZ (hw _ (List.mem_of_getElem? (i := 19) rfl))) (mvT hZ (hw _ (List.mem_of_getElem? (i := 20) rfl))) (mvT hZ (hw _ (List.mem_of_getElem? (i := 21) rfl))) (mvT hZ (hw _ (List.mem_of_getElem? (i := 22) rfl))) (by decide) (backOf (W := 0) (own_rm_adG l Z a0 hw [] b1 ((p0 &&& (2147483647 : Int32)) % (21 : Int32)) p1 p2 nn T84.heap n0 zs88 St85 hn hnn) hZ (hw _ (List.mem_of_getElem? (i := 22) rfl)) (hw _ (List.mem_of_getElem? (i := 21) rfl)) (by decide) (by decide)) (g := (mkF m 178 #[.val (.int p0), .val (.int p1), .val (.int p2), .val (.int ((p0 &&& (2147483647 : Int32)) % (21 : Int32))), .val (.ref b1), .unset, .unset] [(.int p2), (.int p1), (.int (16 : Int32)), (.int ((p0 &&& (2147483647 : Int32)) % (21 : Int32))), (.ref b1)])) rfl (by rw [hml]; rfl) (argsL := [(.ref b1), (.int ((p0 &&& (2147483647 : Int32)) % (21 : Int32))), (.int (16 : Int32)), (.int p1), (.int p2)]) (rest := []) (lenOf own_pd5 rfl) rfl (by show 2 * 0 + _ ≤ _; exact Nat.le_of_eq rfl) (hb hby at_178) (fun _ _ => ⟨rfl, rfl, (by decide : 4 + 1 ≤ _), (by decide : 2072 + 32 ≤ _)⟩)
  dsimp only [Pt.U, Pt.locs, Pt.cells, Pt.slots] at X89 l89 y89 z89 st89 hQ89
  rw [l89, (y89 : k89 = 5), (z89 : n89 = 2104)] at X89
  clear l89 y89 z89
  obtain ⟨rfl, N90, ⟨ws90, hws90, Kq90⟩, St90⟩ := hQ89
  have nf91 := Fr.app nf86 N90
  have k90 := k85.trans Kq90 (fun x hx => Or.inr (hn0 ▸ hws90 x hx))
  have zs92 : n0 ≤ T89.heap.size := Nat.le_trans Z0 k90.1
  obtain ⟨_, _, ⟨T93, L93, k93, n93⟩, -, X93, ⟨Lc93, hQ93, l93, y93, z93⟩, st93⟩ := Jvm.LawKit.callS X89 hx (y := (⟨"com/example/interleaving/interleaving/store/StateGraphAddInitialPinLaw", "add", "(Lcom/example/interleaving/interleaving/store/StateGraph;IIII)V"⟩ : MethodName)) hown (mvT hZ (hw _ (List.mem_of_getElem? (i := 19) rfl))) (mvT hZ (hw _ (List.mem_of_getElem? (i := 20) rfl))) (mvT hZ (hw _ (List.mem_of_getElem? (i := 21) rfl))) (mvT hZ (hw _ (List.mem_of_getElem? (i := 22) rfl))) (by decide) (backOf (W := 0) (own_rm_adn l Z a0 hw [] b1 ((p0 &&& (2147483647 : Int32)) % (21 : Int32)) (17 : Int32) p1 p2 nn 17 T89.heap n0 zs92 St90 hn hnn rfl (by decide) (by decide)) hZ (hw _ (List.mem_of_getElem? (i := 22) rfl)) (hw _ (List.mem_of_getElem? (i := 21) rfl)) (by decide) (by decide)) (g := (mkF m 188 #[.val (.int p0), .val (.int p1), .val (.int p2), .val (.int ((p0 &&& (2147483647 : Int32)) % (21 : Int32))), .val (.ref b1), .unset, .unset] [(.int p2), (.int p1), (.int (17 : Int32)), (.int ((p0 &&& (2147483647 : Int32)) % (21 : Int32))), (.ref b1)])) rfl (by rw [hml]; rfl) (argsL := [(.ref b1), (.int ((p0 &&& (2147483647 : Int32)) % (21 : Int32))), (.int (17 : Int32)), (.int p1), (.int p2)]) (rest := []) (lenOf own_pd5 rfl) rfl (by show 2 * 0 + _ ≤ _; exact Nat.le_of_eq rfl) (hb hby at_188) (fun _ _ => ⟨rfl, rfl, (by decide : 5 + 0 ≤ _), (by decide : 2104 + 0 ≤ _)⟩)
  dsimp only [Pt.U, Pt.locs, Pt.cells, Pt.slots] at X93 l93 y93 z93 st93 hQ93
  rw [l93, (y93 : k93 = 5), (z93 : n93 = 2104)] at X93
  clear l93 y93 z93
  obtain ⟨rfl, N94, ⟨ws94, hws94, Kq94⟩, St94⟩ := hQ93
  have nf95 := Fr.app nf91 N94
  have k94 := k90.trans Kq94 (fun x hx => Or.inr (hn0 ▸ hws94 x hx))
  have pre96 : ∀ t, Steps p.tables e below (T93.setTop (mkF m 194 #[.val (.int p0), .val (.int p1), .val (.int p2), .val (.int ((p0 &&& (2147483647 : Int32)) % (21 : Int32))), .val (.ref b1), .unset, .unset] [(.int ((p0 &&& (2147483647 : Int32)) % (21 : Int32))), (.ref b1)])) t → Steps p.tables e below (s₁.setTop (entryFrame m #[(.int p0), (.int p1), (.int p2)] maxLocals)) t := by
    intro t kt
    refine pre87 t ?_
    show Steps p.tables e below (T84.setTop (mkF m 174 #[.val (.int p0), .val (.int p1), .val (.int p2), .val (.int ((p0 &&& (2147483647 : Int32)) % (21 : Int32))), .val (.ref b1), .unset, .unset] [(.int ((p0 &&& (2147483647 : Int32)) % (21 : Int32))), (.ref b1)])) _
    refine XS.bipush X84.here hx rfl (hb hby at_174) ?_
    show Steps p.tables e below (T84.setTop (mkF m 176 #[.val (.int p0), .val (.int p1), .val (.int p2), .val (.int ((p0 &&& (2147483647 : Int32)) % (21 : Int32))), .val (.ref b1), .unset, .unset] [(.int (16 : Int32)), (.int ((p0 &&& (2147483647 : Int32)) % (21 : Int32))), (.ref b1)])) _
    refine XS.iloadN X84.here hx rfl (hb hby at_176) rfl ?_
    show Steps p.tables e below (T84.setTop (mkF m 177 #[.val (.int p0), .val (.int p1), .val (.int p2), .val (.int ((p0 &&& (2147483647 : Int32)) % (21 : Int32))), .val (.ref b1), .unset, .unset] [(.int p1), (.int (16 : Int32)), (.int ((p0 &&& (2147483647 : Int32)) % (21 : Int32))), (.ref b1)])) _
    refine XS.iloadN X84.here hx rfl (hb hby at_177) rfl ?_
    show Steps p.tables e below (T84.setTop (mkF m 178 #[.val (.int p0), .val (.int p1), .val (.int p2), .val (.int ((p0 &&& (2147483647 : Int32)) % (21 : Int32))), .val (.ref b1), .unset, .unset] [(.int p2), (.int p1), (.int (16 : Int32)), (.int ((p0 &&& (2147483647 : Int32)) % (21 : Int32))), (.ref b1)])) _
    refine st89 _ ?_
    show Steps p.tables e below (T89.setTop (mkF m 181 #[.val (.int p0), .val (.int p1), .val (.int p2), .val (.int ((p0 &&& (2147483647 : Int32)) % (21 : Int32))), .val (.ref b1), .unset, .unset] [])) _
    refine XS.aload X89.here hx rfl (hb hby at_181) rfl rfl ?_
    show Steps p.tables e below (T89.setTop (mkF m 183 #[.val (.int p0), .val (.int p1), .val (.int p2), .val (.int ((p0 &&& (2147483647 : Int32)) % (21 : Int32))), .val (.ref b1), .unset, .unset] [(.ref b1)])) _
    refine XS.iloadN X89.here hx rfl (hb hby at_183) rfl ?_
    show Steps p.tables e below (T89.setTop (mkF m 184 #[.val (.int p0), .val (.int p1), .val (.int p2), .val (.int ((p0 &&& (2147483647 : Int32)) % (21 : Int32))), .val (.ref b1), .unset, .unset] [(.int ((p0 &&& (2147483647 : Int32)) % (21 : Int32))), (.ref b1)])) _
    refine XS.bipush X89.here hx rfl (hb hby at_184) ?_
    show Steps p.tables e below (T89.setTop (mkF m 186 #[.val (.int p0), .val (.int p1), .val (.int p2), .val (.int ((p0 &&& (2147483647 : Int32)) % (21 : Int32))), .val (.ref b1), .unset, .unset] [(.int (17 : Int32)), (.int ((p0 &&& (2147483647 : Int32)) % (21 : Int32))), (.ref b1)])) _
    refine XS.iloadN X89.here hx rfl (hb hby at_186) rfl ?_
    show Steps p.tables e below (T89.setTop (mkF m 187 #[.val (.int p0), .val (.int p1), .val (.int p2), .val (.int ((p0 &&& (2147483647 : Int32)) % (21 : Int32))), .val (.ref b1), .unset, .unset] [(.int p1), (.int (17 : Int32)), (.int ((p0 &&& (2147483647 : Int32)) % (21 : Int32))), (.ref b1)])) _
    refine XS.iloadN X89.here hx rfl (hb hby at_187) rfl ?_
    show Steps p.tables e below (T89.setTop (mkF m 188 #[.val (.int p0), .val (.int p1), .val (.int p2), .val (.int ((p0 &&& (2147483647 : Int32)) % (21 : Int32))), .val (.ref b1), .unset, .unset] [(.int p2), (.int p1), (.int (17 : Int32)), (.int ((p0 &&& (2147483647 : Int32)) % (21 : Int32))), (.ref b1)])) _
    refine st93 _ ?_
    show Steps p.tables e below (T93.setTop (mkF m 191 #[.val (.int p0), .val (.int p1), .val (.int p2), .val (.int ((p0 &&& (2147483647 : Int32)) % (21 : Int32))), .val (.ref b1), .unset, .unset] [])) _
    refine XS.aload X93.here hx rfl (hb hby at_191) rfl rfl ?_
    show Steps p.tables e below (T93.setTop (mkF m 193 #[.val (.int p0), .val (.int p1), .val (.int p2), .val (.int ((p0 &&& (2147483647 : Int32)) % (21 : Int32))), .val (.ref b1), .unset, .unset] [(.ref b1)])) _
    refine XS.iloadN X93.here hx rfl (hb hby at_193) rfl ?_
    exact kt
  have zs97 : n0 ≤ T93.heap.size := Nat.le_trans Z0 k94.1
  obtain ⟨_, _, ⟨T98, L98, k98, n98⟩, -, X98, ⟨Lc98, hQ98, l98, y98, z98⟩, st98⟩ := Jvm.LawKit.callS X93 hx (y := (⟨"com/example/interleaving/interleaving/store/StateGraphAddInitialPinLaw", "add", "(Lcom/example/interleaving/interleaving/store/StateGraph;IIII)V"⟩ : MethodName)) hown (mvT hZ (hw _ (List.mem_of_getElem? (i := 19) rfl))) (mvT hZ (hw _ (List.mem_of_getElem? (i := 20) rfl))) (mvT hZ (hw _ (List.mem_of_getElem? (i := 21) rfl))) (mvT hZ (hw _ (List.mem_of_getElem? (i := 22) rfl))) (by decide) (backOf (W := 0) (own_rm_adn l Z a0 hw [] b1 ((p0 &&& (2147483647 : Int32)) % (21 : Int32)) (18 : Int32) p1 p2 nn 18 T93.heap n0 zs97 St94 hn hnn rfl (by decide) (by decide)) hZ (hw _ (List.mem_of_getElem? (i := 22) rfl)) (hw _ (List.mem_of_getElem? (i := 21) rfl)) (by decide) (by decide)) (g := (mkF m 198 #[.val (.int p0), .val (.int p1), .val (.int p2), .val (.int ((p0 &&& (2147483647 : Int32)) % (21 : Int32))), .val (.ref b1), .unset, .unset] [(.int p2), (.int p1), (.int (18 : Int32)), (.int ((p0 &&& (2147483647 : Int32)) % (21 : Int32))), (.ref b1)])) rfl (by rw [hml]; rfl) (argsL := [(.ref b1), (.int ((p0 &&& (2147483647 : Int32)) % (21 : Int32))), (.int (18 : Int32)), (.int p1), (.int p2)]) (rest := []) (lenOf own_pd5 rfl) rfl (by show 2 * 0 + _ ≤ _; exact Nat.le_of_eq rfl) (hb hby at_198) (fun _ _ => ⟨rfl, rfl, (by decide : 5 + 0 ≤ _), (by decide : 2104 + 0 ≤ _)⟩)
  dsimp only [Pt.U, Pt.locs, Pt.cells, Pt.slots] at X98 l98 y98 z98 st98 hQ98
  rw [l98, (y98 : k98 = 5), (z98 : n98 = 2104)] at X98
  clear l98 y98 z98
  obtain ⟨rfl, N99, ⟨ws99, hws99, Kq99⟩, St99⟩ := hQ98
  have nf100 := Fr.app nf95 N99
  have k99 := k94.trans Kq99 (fun x hx => Or.inr (hn0 ▸ hws99 x hx))
  have zs101 : n0 ≤ T98.heap.size := Nat.le_trans Z0 k99.1
  obtain ⟨_, _, ⟨T102, L102, k102, n102⟩, -, X102, ⟨Lc102, hQ102, l102, y102, z102⟩, st102⟩ := Jvm.LawKit.callS X98 hx (y := (⟨"com/example/interleaving/interleaving/store/StateGraphAddInitialPinLaw", "add", "(Lcom/example/interleaving/interleaving/store/StateGraph;IIII)V"⟩ : MethodName)) hown (mvT hZ (hw _ (List.mem_of_getElem? (i := 19) rfl))) (mvT hZ (hw _ (List.mem_of_getElem? (i := 20) rfl))) (mvT hZ (hw _ (List.mem_of_getElem? (i := 21) rfl))) (mvT hZ (hw _ (List.mem_of_getElem? (i := 22) rfl))) (by decide) (backOf (W := 0) (own_rm_adn l Z a0 hw [] b1 ((p0 &&& (2147483647 : Int32)) % (21 : Int32)) (19 : Int32) p1 p2 nn 19 T98.heap n0 zs101 St99 hn hnn rfl (by decide) (by decide)) hZ (hw _ (List.mem_of_getElem? (i := 22) rfl)) (hw _ (List.mem_of_getElem? (i := 21) rfl)) (by decide) (by decide)) (g := (mkF m 208 #[.val (.int p0), .val (.int p1), .val (.int p2), .val (.int ((p0 &&& (2147483647 : Int32)) % (21 : Int32))), .val (.ref b1), .unset, .unset] [(.int p2), (.int p1), (.int (19 : Int32)), (.int ((p0 &&& (2147483647 : Int32)) % (21 : Int32))), (.ref b1)])) rfl (by rw [hml]; rfl) (argsL := [(.ref b1), (.int ((p0 &&& (2147483647 : Int32)) % (21 : Int32))), (.int (19 : Int32)), (.int p1), (.int p2)]) (rest := []) (lenOf own_pd5 rfl) rfl (by show 2 * 0 + _ ≤ _; exact Nat.le_of_eq rfl) (hb hby at_208) (fun _ _ => ⟨rfl, rfl, (by decide : 5 + 0 ≤ _), (by decide : 2104 + 0 ≤ _)⟩)
  dsimp only [Pt.U, Pt.locs, Pt.cells, Pt.slots] at X102 l102 y102 z102 st102 hQ102
  rw [l102, (y102 : k102 = 5), (z102 : n102 = 2104)] at X102
  clear l102 y102 z102
  obtain ⟨rfl, N103, ⟨ws103, hws103, Kq103⟩, St103⟩ := hQ102
  have nf104 := Fr.app nf100 N103
  have k103 := k99.trans Kq103 (fun x hx => Or.inr (hn0 ▸ hws103 x hx))
  have km : min (19 + 1) nn = nn := by omega
  have StF := St103
  rw [km] at StF
  obtain ⟨bF, fF, EF, F1F, F2F, AF, E2F, g1F, g2F, nabF, hkF, hfF⟩ := StF
  have zs105 : n0 ≤ T102.heap.size := Nat.le_trans Z0 k103.1
  obtain ⟨cq107, kq107, q107a, q107b, q107c⟩ := isOf hZ rfl EF
  obtain ⟨_, _, ⟨T106, L106, k106, n106⟩, -, X106, ⟨Lc106, hQ106, l106, y106, z106⟩, st106⟩ := X102.virtualBack hx (y := (⟨"com/example/interleaving/interleaving/store/StateGraph", "initialStates", "()[I"⟩ : MethodName)) (z := (⟨"com/example/interleaving/interleaving/store/StateGraph", "initialStates", "()[I"⟩ : MethodName)) hown (mvT hZ (hw _ (List.mem_of_getElem? (i := 23) rfl))) (mvT hZ (hw _ (List.mem_of_getElem? (i := 24) rfl))) (notFace_of_selects (args := #[]) (mvT hZ (hw _ (List.mem_of_getElem? (i := 26) rfl)))) (mvT hZ (hw _ (List.mem_of_getElem? (i := 26) rfl))) (mvT hZ (hw _ (List.mem_of_getElem? (i := 25) rfl))) (by decide) (backOf (W := 0) (own_rm_ist l Z a0 hw [] b1 bF nn (own_cap nn) fF T102.heap n0 zs105 F1F F2F AF (own_capk hkF).1 (own_capk hkF).2 E2F) hZ (hw _ (List.mem_of_getElem? (i := 27) rfl)) (hw _ (List.mem_of_getElem? (i := 3) rfl)) (by decide) (by decide)) q107a q107c (g := (mkF m 213 #[.val (.int p0), .val (.int p1), .val (.int p2), .val (.int ((p0 &&& (2147483647 : Int32)) % (21 : Int32))), .val (.ref b1), .unset, .unset] [(.ref b1)])) rfl (by rw [hml]; rfl) (Steps.refl _) (argsL := []) (rest := []) (lenOf own_pd6 rfl) rfl (by show 2 * 0 + _ ≤ _; exact Nat.le_of_eq rfl) (hb hby at_213) (fun _ _ => ⟨rfl, rfl, (by decide : 5 + 1 ≤ _), (by decide : 2104 + 32 ≤ _)⟩)
  dsimp only [Pt.U, Pt.locs, Pt.cells, Pt.slots] at X106 l106 y106 z106 st106 hQ106
  rw [l106, (y106 : k106 = 6), (z106 : n106 = 2136)] at X106
  clear l106 y106 z106
  obtain ⟨r108, rfl, N108, K108, c108_0, c108_1⟩ := hQ106
  have sz_r108 : h0.size ≤ r108 := Nat.le_trans k103.1 c108_0
  have gn_r108 : n0 ≤ r108 := Nat.le_trans Z0 sz_r108
  have ne_b1_r108 : b1 ≠ r108 := Nat.ne_of_lt (Nat.lt_of_lt_of_le EF.lt c108_0)
  have f109 := EF.keep K108
  have k110 := k103.trans K108 all0
  have nf111 := Fr.app nf104 N108
  have pre112 : ∀ t, Steps p.tables e below (T106.setTop (mkF m 216 #[.val (.int p0), .val (.int p1), .val (.int p2), .val (.int ((p0 &&& (2147483647 : Int32)) % (21 : Int32))), .val (.ref b1), .unset, .unset] [(.ref r108)])) t → Steps p.tables e below (s₁.setTop (entryFrame m #[(.int p0), (.int p1), (.int p2)] maxLocals)) t := by
    intro t kt
    refine pre96 t ?_
    show Steps p.tables e below (T93.setTop (mkF m 194 #[.val (.int p0), .val (.int p1), .val (.int p2), .val (.int ((p0 &&& (2147483647 : Int32)) % (21 : Int32))), .val (.ref b1), .unset, .unset] [(.int ((p0 &&& (2147483647 : Int32)) % (21 : Int32))), (.ref b1)])) _
    refine XS.bipush X93.here hx rfl (hb hby at_194) ?_
    show Steps p.tables e below (T93.setTop (mkF m 196 #[.val (.int p0), .val (.int p1), .val (.int p2), .val (.int ((p0 &&& (2147483647 : Int32)) % (21 : Int32))), .val (.ref b1), .unset, .unset] [(.int (18 : Int32)), (.int ((p0 &&& (2147483647 : Int32)) % (21 : Int32))), (.ref b1)])) _
    refine XS.iloadN X93.here hx rfl (hb hby at_196) rfl ?_
    show Steps p.tables e below (T93.setTop (mkF m 197 #[.val (.int p0), .val (.int p1), .val (.int p2), .val (.int ((p0 &&& (2147483647 : Int32)) % (21 : Int32))), .val (.ref b1), .unset, .unset] [(.int p1), (.int (18 : Int32)), (.int ((p0 &&& (2147483647 : Int32)) % (21 : Int32))), (.ref b1)])) _
    refine XS.iloadN X93.here hx rfl (hb hby at_197) rfl ?_
    show Steps p.tables e below (T93.setTop (mkF m 198 #[.val (.int p0), .val (.int p1), .val (.int p2), .val (.int ((p0 &&& (2147483647 : Int32)) % (21 : Int32))), .val (.ref b1), .unset, .unset] [(.int p2), (.int p1), (.int (18 : Int32)), (.int ((p0 &&& (2147483647 : Int32)) % (21 : Int32))), (.ref b1)])) _
    refine st98 _ ?_
    show Steps p.tables e below (T98.setTop (mkF m 201 #[.val (.int p0), .val (.int p1), .val (.int p2), .val (.int ((p0 &&& (2147483647 : Int32)) % (21 : Int32))), .val (.ref b1), .unset, .unset] [])) _
    refine XS.aload X98.here hx rfl (hb hby at_201) rfl rfl ?_
    show Steps p.tables e below (T98.setTop (mkF m 203 #[.val (.int p0), .val (.int p1), .val (.int p2), .val (.int ((p0 &&& (2147483647 : Int32)) % (21 : Int32))), .val (.ref b1), .unset, .unset] [(.ref b1)])) _
    refine XS.iloadN X98.here hx rfl (hb hby at_203) rfl ?_
    show Steps p.tables e below (T98.setTop (mkF m 204 #[.val (.int p0), .val (.int p1), .val (.int p2), .val (.int ((p0 &&& (2147483647 : Int32)) % (21 : Int32))), .val (.ref b1), .unset, .unset] [(.int ((p0 &&& (2147483647 : Int32)) % (21 : Int32))), (.ref b1)])) _
    refine XS.bipush X98.here hx rfl (hb hby at_204) ?_
    show Steps p.tables e below (T98.setTop (mkF m 206 #[.val (.int p0), .val (.int p1), .val (.int p2), .val (.int ((p0 &&& (2147483647 : Int32)) % (21 : Int32))), .val (.ref b1), .unset, .unset] [(.int (19 : Int32)), (.int ((p0 &&& (2147483647 : Int32)) % (21 : Int32))), (.ref b1)])) _
    refine XS.iloadN X98.here hx rfl (hb hby at_206) rfl ?_
    show Steps p.tables e below (T98.setTop (mkF m 207 #[.val (.int p0), .val (.int p1), .val (.int p2), .val (.int ((p0 &&& (2147483647 : Int32)) % (21 : Int32))), .val (.ref b1), .unset, .unset] [(.int p1), (.int (19 : Int32)), (.int ((p0 &&& (2147483647 : Int32)) % (21 : Int32))), (.ref b1)])) _
    refine XS.iloadN X98.here hx rfl (hb hby at_207) rfl ?_
    show Steps p.tables e below (T98.setTop (mkF m 208 #[.val (.int p0), .val (.int p1), .val (.int p2), .val (.int ((p0 &&& (2147483647 : Int32)) % (21 : Int32))), .val (.ref b1), .unset, .unset] [(.int p2), (.int p1), (.int (19 : Int32)), (.int ((p0 &&& (2147483647 : Int32)) % (21 : Int32))), (.ref b1)])) _
    refine st102 _ ?_
    show Steps p.tables e below (T102.setTop (mkF m 211 #[.val (.int p0), .val (.int p1), .val (.int p2), .val (.int ((p0 &&& (2147483647 : Int32)) % (21 : Int32))), .val (.ref b1), .unset, .unset] [])) _
    refine XS.aload X102.here hx rfl (hb hby at_211) rfl rfl ?_
    show Steps p.tables e below (T102.setTop (mkF m 213 #[.val (.int p0), .val (.int p1), .val (.int p2), .val (.int ((p0 &&& (2147483647 : Int32)) % (21 : Int32))), .val (.ref b1), .unset, .unset] [(.ref b1)])) _
    refine st106.trans ?_
    exact kt
  obtain ⟨cl113, Ar113, S113, -⟩ := id c108_1
  have pre114 : ∀ t, Steps p.tables e below (T106.setTop (mkF m 237 #[.val (.int p0), .val (.int p1), .val (.int p2), .val (.int ((p0 &&& (2147483647 : Int32)) % (21 : Int32))), .val (.ref b1), .val (.ref r108), .val (.int (1 : Int32))] [(.int p1), (.int (0 : Int32)), (.int ((p0 &&& (2147483647 : Int32)) % (21 : Int32))), (.ref r108), (.int (1 : Int32))])) t → Steps p.tables e below (s₁.setTop (entryFrame m #[(.int p0), (.int p1), (.int p2)] maxLocals)) t := by
    intro t kt
    refine pre112 t ?_
    show Steps p.tables e below (T106.setTop (mkF m 216 #[.val (.int p0), .val (.int p1), .val (.int p2), .val (.int ((p0 &&& (2147483647 : Int32)) % (21 : Int32))), .val (.ref b1), .unset, .unset] [(.ref r108)])) _
    refine XS.astore X106.here hx rfl (hb hby at_216) rfl rfl (l' := #[.val (.int p0), .val (.int p1), .val (.int p2), .val (.int ((p0 &&& (2147483647 : Int32)) % (21 : Int32))), .val (.ref b1), .val (.ref r108), .unset]) rfl ?_
    show Steps p.tables e below (T106.setTop (mkF m 218 #[.val (.int p0), .val (.int p1), .val (.int p2), .val (.int ((p0 &&& (2147483647 : Int32)) % (21 : Int32))), .val (.ref b1), .val (.ref r108), .unset] [])) _
    refine XS.aload X106.here hx rfl (hb hby at_218) rfl rfl ?_
    show Steps p.tables e below (T106.setTop (mkF m 220 #[.val (.int p0), .val (.int p1), .val (.int p2), .val (.int ((p0 &&& (2147483647 : Int32)) % (21 : Int32))), .val (.ref b1), .val (.ref r108), .unset] [(.ref r108)])) _
    refine X106.arraylength hx Ar113.1 (State.isArrayOf_alike hZ.alike Ar113.2.1) (g := (mkF m 220 #[.val (.int p0), .val (.int p1), .val (.int p2), .val (.int ((p0 &&& (2147483647 : Int32)) % (21 : Int32))), .val (.ref b1), .val (.ref r108), .unset] [(.ref r108)])) rfl rfl (hb hby at_220) _ ?_
    rw [own_len (z := ((p0 &&& (2147483647 : Int32)) % (21 : Int32))) S113 hn.symm]
    show Steps p.tables e below (T106.setTop (mkF m 221 #[.val (.int p0), .val (.int p1), .val (.int p2), .val (.int ((p0 &&& (2147483647 : Int32)) % (21 : Int32))), .val (.ref b1), .val (.ref r108), .unset] [(.int ((p0 &&& (2147483647 : Int32)) % (21 : Int32)))])) _
    refine XS.iloadN X106.here hx rfl (hb hby at_221) rfl ?_
    show Steps p.tables e below (T106.setTop (mkF m 222 #[.val (.int p0), .val (.int p1), .val (.int p2), .val (.int ((p0 &&& (2147483647 : Int32)) % (21 : Int32))), .val (.ref b1), .val (.ref r108), .unset] [(.int ((p0 &&& (2147483647 : Int32)) % (21 : Int32))), (.int ((p0 &&& (2147483647 : Int32)) % (21 : Int32)))])) _
    refine XS.icmpYes X106.here hx rfl (pc0 := 222) (pc' := 227) rfl (hb hby at_222) rfl (teq (rfl : ((p0 &&& (2147483647 : Int32)) % (21 : Int32)) = ((p0 &&& (2147483647 : Int32)) % (21 : Int32)))).1 (by decide) (by decide) ?_
    show Steps p.tables e below (T106.setTop (mkF m 227 #[.val (.int p0), .val (.int p1), .val (.int p2), .val (.int ((p0 &&& (2147483647 : Int32)) % (21 : Int32))), .val (.ref b1), .val (.ref r108), .unset] [])) _
    refine XS.iconst X106.here hx rfl (hb hby at_227) ?_
    show Steps p.tables e below (T106.setTop (mkF m 228 #[.val (.int p0), .val (.int p1), .val (.int p2), .val (.int ((p0 &&& (2147483647 : Int32)) % (21 : Int32))), .val (.ref b1), .val (.ref r108), .unset] [(.int (1 : Int32))])) _
    refine XS.istore X106.here hx rfl (hb hby at_228) rfl (l' := #[.val (.int p0), .val (.int p1), .val (.int p2), .val (.int ((p0 &&& (2147483647 : Int32)) % (21 : Int32))), .val (.ref b1), .val (.ref r108), .val (.int (1 : Int32))]) rfl ?_
    show Steps p.tables e below (T106.setTop (mkF m 230 #[.val (.int p0), .val (.int p1), .val (.int p2), .val (.int ((p0 &&& (2147483647 : Int32)) % (21 : Int32))), .val (.ref b1), .val (.ref r108), .val (.int (1 : Int32))] [])) _
    refine XS.iload X106.here hx rfl (hb hby at_230) rfl ?_
    show Steps p.tables e below (T106.setTop (mkF m 232 #[.val (.int p0), .val (.int p1), .val (.int p2), .val (.int ((p0 &&& (2147483647 : Int32)) % (21 : Int32))), .val (.ref b1), .val (.ref r108), .val (.int (1 : Int32))] [(.int (1 : Int32))])) _
    refine XS.aload X106.here hx rfl (hb hby at_232) rfl rfl ?_
    show Steps p.tables e below (T106.setTop (mkF m 234 #[.val (.int p0), .val (.int p1), .val (.int p2), .val (.int ((p0 &&& (2147483647 : Int32)) % (21 : Int32))), .val (.ref b1), .val (.ref r108), .val (.int (1 : Int32))] [(.ref r108), (.int (1 : Int32))])) _
    refine XS.iloadN X106.here hx rfl (hb hby at_234) rfl ?_
    show Steps p.tables e below (T106.setTop (mkF m 235 #[.val (.int p0), .val (.int p1), .val (.int p2), .val (.int ((p0 &&& (2147483647 : Int32)) % (21 : Int32))), .val (.ref b1), .val (.ref r108), .val (.int (1 : Int32))] [(.int ((p0 &&& (2147483647 : Int32)) % (21 : Int32))), (.ref r108), (.int (1 : Int32))])) _
    refine XS.iconst X106.here hx rfl (hb hby at_235) ?_
    show Steps p.tables e below (T106.setTop (mkF m 236 #[.val (.int p0), .val (.int p1), .val (.int p2), .val (.int ((p0 &&& (2147483647 : Int32)) % (21 : Int32))), .val (.ref b1), .val (.ref r108), .val (.int (1 : Int32))] [(.int (0 : Int32)), (.int ((p0 &&& (2147483647 : Int32)) % (21 : Int32))), (.ref r108), (.int (1 : Int32))])) _
    refine XS.iloadN X106.here hx rfl (hb hby at_236) rfl ?_
    exact kt
  have zs115 : n0 ≤ T106.heap.size := Nat.le_trans Z0 k110.1
  obtain ⟨_, _, ⟨T116, L116, k116, n116⟩, -, X116, ⟨Lc116, hQ116, l116, y116, z116⟩, st116⟩ := Jvm.LawKit.callS X106 hx (y := (⟨"com/example/interleaving/interleaving/store/StateGraphAddInitialPinLaw", "at", "([IIIII)Z"⟩ : MethodName)) hown (mvT hZ (hw _ (List.mem_of_getElem? (i := 42) rfl))) (mvT hZ (hw _ (List.mem_of_getElem? (i := 43) rfl))) (mvT hZ (hw _ (List.mem_of_getElem? (i := 21) rfl))) (mvT hZ (hw _ (List.mem_of_getElem? (i := 44) rfl))) (by decide) (backOf (W := 1) (own_rm_at l Z a0 hw [] r108 ((p0 &&& (2147483647 : Int32)) % (21 : Int32)) (0 : Int32) p1 p2 nn 0 fF T106.heap n0 zs115 c108_1 hn hnn rfl (by decide) hfF) hZ (hw _ (List.mem_of_getElem? (i := 44) rfl)) (hw _ (List.mem_of_getElem? (i := 21) rfl)) (by decide) (by decide)) (g := (mkF m 238 #[.val (.int p0), .val (.int p1), .val (.int p2), .val (.int ((p0 &&& (2147483647 : Int32)) % (21 : Int32))), .val (.ref b1), .val (.ref r108), .val (.int (1 : Int32))] [(.int p2), (.int p1), (.int (0 : Int32)), (.int ((p0 &&& (2147483647 : Int32)) % (21 : Int32))), (.ref r108), (.int (1 : Int32))])) rfl (by rw [hml]; rfl) (argsL := [(.ref r108), (.int ((p0 &&& (2147483647 : Int32)) % (21 : Int32))), (.int (0 : Int32)), (.int p1), (.int p2)]) (rest := [(.int (1 : Int32))]) (lenOf own_pd7 rfl) rfl (by show 2 * 0 + _ ≤ _; exact Nat.le_of_eq rfl) (hb hby at_238) (fun _ _ => ⟨rfl, rfl, (by decide : 6 + 0 ≤ _), (by decide : 2136 + 0 ≤ _)⟩)
  dsimp only [Pt.U, Pt.locs, Pt.cells, Pt.slots] at X116 l116 y116 z116 st116 hQ116
  rw [l116, (y116 : k116 = 6), (z116 : n116 = 2136)] at X116
  clear l116 y116 z116
  obtain ⟨rfl, N117, eq117⟩ := hQ116
  have nf118 := Fr.app nf111 N117
  have zs119 : n0 ≤ T106.heap.size := Nat.le_trans Z0 k110.1
  obtain ⟨_, _, ⟨T120, L120, k120, n120⟩, -, X120, ⟨Lc120, hQ120, l120, y120, z120⟩, st120⟩ := Jvm.LawKit.callS X116 hx (y := (⟨"com/example/interleaving/interleaving/store/StateGraphAddInitialPinLaw", "at", "([IIIII)Z"⟩ : MethodName)) hown (mvT hZ (hw _ (List.mem_of_getElem? (i := 42) rfl))) (mvT hZ (hw _ (List.mem_of_getElem? (i := 43) rfl))) (mvT hZ (hw _ (List.mem_of_getElem? (i := 21) rfl))) (mvT hZ (hw _ (List.mem_of_getElem? (i := 44) rfl))) (by decide) (backOf (W := 1) (own_rm_at l Z a0 hw [] r108 ((p0 &&& (2147483647 : Int32)) % (21 : Int32)) (1 : Int32) p1 p2 nn 1 fF T106.heap n0 zs119 c108_1 hn hnn rfl (by decide) hfF) hZ (hw _ (List.mem_of_getElem? (i := 44) rfl)) (hw _ (List.mem_of_getElem? (i := 21) rfl)) (by decide) (by decide)) (g := (mkF m 252 #[.val (.int p0), .val (.int p1), .val (.int p2), .val (.int ((p0 &&& (2147483647 : Int32)) % (21 : Int32))), .val (.ref b1), .val (.ref r108), .val (.int (1 : Int32))] [(.int p2), (.int p1), (.int (1 : Int32)), (.int ((p0 &&& (2147483647 : Int32)) % (21 : Int32))), (.ref r108), (.int (1 : Int32))])) rfl (by rw [hml]; rfl) (argsL := [(.ref r108), (.int ((p0 &&& (2147483647 : Int32)) % (21 : Int32))), (.int (1 : Int32)), (.int p1), (.int p2)]) (rest := [(.int (1 : Int32))]) (lenOf own_pd7 rfl) rfl (by show 2 * 0 + _ ≤ _; exact Nat.le_of_eq rfl) (hb hby at_252) (fun _ _ => ⟨rfl, eq117, (by decide : 6 + 0 ≤ _), (by decide : 2136 + 0 ≤ _)⟩)
  dsimp only [Pt.U, Pt.locs, Pt.cells, Pt.slots] at X120 l120 y120 z120 st120 hQ120
  rw [l120, (y120 : k120 = 6), (z120 : n120 = 2136)] at X120
  clear l120 y120 z120
  obtain ⟨rfl, N121, eq121⟩ := hQ120
  have nf122 := Fr.app nf118 N121
  have pre123 : ∀ t, Steps p.tables e below (T120.setTop (mkF m 256 #[.val (.int p0), .val (.int p1), .val (.int p2), .val (.int ((p0 &&& (2147483647 : Int32)) % (21 : Int32))), .val (.ref b1), .val (.ref r108), .val (.int (1 : Int32))] [(.int (1 : Int32))])) t → Steps p.tables e below (s₁.setTop (entryFrame m #[(.int p0), (.int p1), (.int p2)] maxLocals)) t := by
    intro t kt
    refine pre114 t ?_
    show Steps p.tables e below (T106.setTop (mkF m 237 #[.val (.int p0), .val (.int p1), .val (.int p2), .val (.int ((p0 &&& (2147483647 : Int32)) % (21 : Int32))), .val (.ref b1), .val (.ref r108), .val (.int (1 : Int32))] [(.int p1), (.int (0 : Int32)), (.int ((p0 &&& (2147483647 : Int32)) % (21 : Int32))), (.ref r108), (.int (1 : Int32))])) _
    refine XS.iloadN X106.here hx rfl (hb hby at_237) rfl ?_
    show Steps p.tables e below (T106.setTop (mkF m 238 #[.val (.int p0), .val (.int p1), .val (.int p2), .val (.int ((p0 &&& (2147483647 : Int32)) % (21 : Int32))), .val (.ref b1), .val (.ref r108), .val (.int (1 : Int32))] [(.int p2), (.int p1), (.int (0 : Int32)), (.int ((p0 &&& (2147483647 : Int32)) % (21 : Int32))), (.ref r108), (.int (1 : Int32))])) _
    refine st116 _ ?_
    show Steps p.tables e below (T116.setTop (mkF m 241 #[.val (.int p0), .val (.int p1), .val (.int p2), .val (.int ((p0 &&& (2147483647 : Int32)) % (21 : Int32))), .val (.ref b1), .val (.ref r108), .val (.int (1 : Int32))] [(.int (1 : Int32)), (.int (1 : Int32))])) _
    refine XS.iand X116.here hx rfl (hb hby at_241) rfl ?_
    show Steps p.tables e below (T116.setTop (mkF m 242 #[.val (.int p0), .val (.int p1), .val (.int p2), .val (.int ((p0 &&& (2147483647 : Int32)) % (21 : Int32))), .val (.ref b1), .val (.ref r108), .val (.int (1 : Int32))] [(.int (1 : Int32))])) _
    refine XS.istore X116.here hx rfl (hb hby at_242) rfl (l' := #[.val (.int p0), .val (.int p1), .val (.int p2), .val (.int ((p0 &&& (2147483647 : Int32)) % (21 : Int32))), .val (.ref b1), .val (.ref r108), .val (.int (1 : Int32))]) rfl ?_
    show Steps p.tables e below (T116.setTop (mkF m 244 #[.val (.int p0), .val (.int p1), .val (.int p2), .val (.int ((p0 &&& (2147483647 : Int32)) % (21 : Int32))), .val (.ref b1), .val (.ref r108), .val (.int (1 : Int32))] [])) _
    refine XS.iload X116.here hx rfl (hb hby at_244) rfl ?_
    show Steps p.tables e below (T116.setTop (mkF m 246 #[.val (.int p0), .val (.int p1), .val (.int p2), .val (.int ((p0 &&& (2147483647 : Int32)) % (21 : Int32))), .val (.ref b1), .val (.ref r108), .val (.int (1 : Int32))] [(.int (1 : Int32))])) _
    refine XS.aload X116.here hx rfl (hb hby at_246) rfl rfl ?_
    show Steps p.tables e below (T116.setTop (mkF m 248 #[.val (.int p0), .val (.int p1), .val (.int p2), .val (.int ((p0 &&& (2147483647 : Int32)) % (21 : Int32))), .val (.ref b1), .val (.ref r108), .val (.int (1 : Int32))] [(.ref r108), (.int (1 : Int32))])) _
    refine XS.iloadN X116.here hx rfl (hb hby at_248) rfl ?_
    show Steps p.tables e below (T116.setTop (mkF m 249 #[.val (.int p0), .val (.int p1), .val (.int p2), .val (.int ((p0 &&& (2147483647 : Int32)) % (21 : Int32))), .val (.ref b1), .val (.ref r108), .val (.int (1 : Int32))] [(.int ((p0 &&& (2147483647 : Int32)) % (21 : Int32))), (.ref r108), (.int (1 : Int32))])) _
    refine XS.iconst X116.here hx rfl (hb hby at_249) ?_
    show Steps p.tables e below (T116.setTop (mkF m 250 #[.val (.int p0), .val (.int p1), .val (.int p2), .val (.int ((p0 &&& (2147483647 : Int32)) % (21 : Int32))), .val (.ref b1), .val (.ref r108), .val (.int (1 : Int32))] [(.int (1 : Int32)), (.int ((p0 &&& (2147483647 : Int32)) % (21 : Int32))), (.ref r108), (.int (1 : Int32))])) _
    refine XS.iloadN X116.here hx rfl (hb hby at_250) rfl ?_
    show Steps p.tables e below (T116.setTop (mkF m 251 #[.val (.int p0), .val (.int p1), .val (.int p2), .val (.int ((p0 &&& (2147483647 : Int32)) % (21 : Int32))), .val (.ref b1), .val (.ref r108), .val (.int (1 : Int32))] [(.int p1), (.int (1 : Int32)), (.int ((p0 &&& (2147483647 : Int32)) % (21 : Int32))), (.ref r108), (.int (1 : Int32))])) _
    refine XS.iloadN X116.here hx rfl (hb hby at_251) rfl ?_
    show Steps p.tables e below (T116.setTop (mkF m 252 #[.val (.int p0), .val (.int p1), .val (.int p2), .val (.int ((p0 &&& (2147483647 : Int32)) % (21 : Int32))), .val (.ref b1), .val (.ref r108), .val (.int (1 : Int32))] [(.int p2), (.int p1), (.int (1 : Int32)), (.int ((p0 &&& (2147483647 : Int32)) % (21 : Int32))), (.ref r108), (.int (1 : Int32))])) _
    refine st120 _ ?_
    show Steps p.tables e below (T120.setTop (mkF m 255 #[.val (.int p0), .val (.int p1), .val (.int p2), .val (.int ((p0 &&& (2147483647 : Int32)) % (21 : Int32))), .val (.ref b1), .val (.ref r108), .val (.int (1 : Int32))] [(.int (1 : Int32)), (.int (1 : Int32))])) _
    refine XS.iand X120.here hx rfl (hb hby at_255) rfl ?_
    exact kt
  have zs124 : n0 ≤ T106.heap.size := Nat.le_trans Z0 k110.1
  obtain ⟨_, _, ⟨T125, L125, k125, n125⟩, -, X125, ⟨Lc125, hQ125, l125, y125, z125⟩, st125⟩ := Jvm.LawKit.callS X120 hx (y := (⟨"com/example/interleaving/interleaving/store/StateGraphAddInitialPinLaw", "at", "([IIIII)Z"⟩ : MethodName)) hown (mvT hZ (hw _ (List.mem_of_getElem? (i := 42) rfl))) (mvT hZ (hw _ (List.mem_of_getElem? (i := 43) rfl))) (mvT hZ (hw _ (List.mem_of_getElem? (i := 21) rfl))) (mvT hZ (hw _ (List.mem_of_getElem? (i := 44) rfl))) (by decide) (backOf (W := 1) (own_rm_at l Z a0 hw [] r108 ((p0 &&& (2147483647 : Int32)) % (21 : Int32)) (2 : Int32) p1 p2 nn 2 fF T106.heap n0 zs124 c108_1 hn hnn rfl (by decide) hfF) hZ (hw _ (List.mem_of_getElem? (i := 44) rfl)) (hw _ (List.mem_of_getElem? (i := 21) rfl)) (by decide) (by decide)) (g := (mkF m 266 #[.val (.int p0), .val (.int p1), .val (.int p2), .val (.int ((p0 &&& (2147483647 : Int32)) % (21 : Int32))), .val (.ref b1), .val (.ref r108), .val (.int (1 : Int32))] [(.int p2), (.int p1), (.int (2 : Int32)), (.int ((p0 &&& (2147483647 : Int32)) % (21 : Int32))), (.ref r108), (.int (1 : Int32))])) rfl (by rw [hml]; rfl) (argsL := [(.ref r108), (.int ((p0 &&& (2147483647 : Int32)) % (21 : Int32))), (.int (2 : Int32)), (.int p1), (.int p2)]) (rest := [(.int (1 : Int32))]) (lenOf own_pd7 rfl) rfl (by show 2 * 0 + _ ≤ _; exact Nat.le_of_eq rfl) (hb hby at_266) (fun _ _ => ⟨rfl, eq121, (by decide : 6 + 0 ≤ _), (by decide : 2136 + 0 ≤ _)⟩)
  dsimp only [Pt.U, Pt.locs, Pt.cells, Pt.slots] at X125 l125 y125 z125 st125 hQ125
  rw [l125, (y125 : k125 = 6), (z125 : n125 = 2136)] at X125
  clear l125 y125 z125
  obtain ⟨rfl, N126, eq126⟩ := hQ125
  have nf127 := Fr.app nf122 N126
  have pre128 : ∀ t, Steps p.tables e below (T125.setTop (mkF m 276 #[.val (.int p0), .val (.int p1), .val (.int p2), .val (.int ((p0 &&& (2147483647 : Int32)) % (21 : Int32))), .val (.ref b1), .val (.ref r108), .val (.int (1 : Int32))] [(.ref r108), (.int (1 : Int32))])) t → Steps p.tables e below (s₁.setTop (entryFrame m #[(.int p0), (.int p1), (.int p2)] maxLocals)) t := by
    intro t kt
    refine pre123 t ?_
    show Steps p.tables e below (T120.setTop (mkF m 256 #[.val (.int p0), .val (.int p1), .val (.int p2), .val (.int ((p0 &&& (2147483647 : Int32)) % (21 : Int32))), .val (.ref b1), .val (.ref r108), .val (.int (1 : Int32))] [(.int (1 : Int32))])) _
    refine XS.istore X120.here hx rfl (hb hby at_256) rfl (l' := #[.val (.int p0), .val (.int p1), .val (.int p2), .val (.int ((p0 &&& (2147483647 : Int32)) % (21 : Int32))), .val (.ref b1), .val (.ref r108), .val (.int (1 : Int32))]) rfl ?_
    show Steps p.tables e below (T120.setTop (mkF m 258 #[.val (.int p0), .val (.int p1), .val (.int p2), .val (.int ((p0 &&& (2147483647 : Int32)) % (21 : Int32))), .val (.ref b1), .val (.ref r108), .val (.int (1 : Int32))] [])) _
    refine XS.iload X120.here hx rfl (hb hby at_258) rfl ?_
    show Steps p.tables e below (T120.setTop (mkF m 260 #[.val (.int p0), .val (.int p1), .val (.int p2), .val (.int ((p0 &&& (2147483647 : Int32)) % (21 : Int32))), .val (.ref b1), .val (.ref r108), .val (.int (1 : Int32))] [(.int (1 : Int32))])) _
    refine XS.aload X120.here hx rfl (hb hby at_260) rfl rfl ?_
    show Steps p.tables e below (T120.setTop (mkF m 262 #[.val (.int p0), .val (.int p1), .val (.int p2), .val (.int ((p0 &&& (2147483647 : Int32)) % (21 : Int32))), .val (.ref b1), .val (.ref r108), .val (.int (1 : Int32))] [(.ref r108), (.int (1 : Int32))])) _
    refine XS.iloadN X120.here hx rfl (hb hby at_262) rfl ?_
    show Steps p.tables e below (T120.setTop (mkF m 263 #[.val (.int p0), .val (.int p1), .val (.int p2), .val (.int ((p0 &&& (2147483647 : Int32)) % (21 : Int32))), .val (.ref b1), .val (.ref r108), .val (.int (1 : Int32))] [(.int ((p0 &&& (2147483647 : Int32)) % (21 : Int32))), (.ref r108), (.int (1 : Int32))])) _
    refine XS.iconst X120.here hx rfl (hb hby at_263) ?_
    show Steps p.tables e below (T120.setTop (mkF m 264 #[.val (.int p0), .val (.int p1), .val (.int p2), .val (.int ((p0 &&& (2147483647 : Int32)) % (21 : Int32))), .val (.ref b1), .val (.ref r108), .val (.int (1 : Int32))] [(.int (2 : Int32)), (.int ((p0 &&& (2147483647 : Int32)) % (21 : Int32))), (.ref r108), (.int (1 : Int32))])) _
    refine XS.iloadN X120.here hx rfl (hb hby at_264) rfl ?_
    show Steps p.tables e below (T120.setTop (mkF m 265 #[.val (.int p0), .val (.int p1), .val (.int p2), .val (.int ((p0 &&& (2147483647 : Int32)) % (21 : Int32))), .val (.ref b1), .val (.ref r108), .val (.int (1 : Int32))] [(.int p1), (.int (2 : Int32)), (.int ((p0 &&& (2147483647 : Int32)) % (21 : Int32))), (.ref r108), (.int (1 : Int32))])) _
    refine XS.iloadN X120.here hx rfl (hb hby at_265) rfl ?_
    show Steps p.tables e below (T120.setTop (mkF m 266 #[.val (.int p0), .val (.int p1), .val (.int p2), .val (.int ((p0 &&& (2147483647 : Int32)) % (21 : Int32))), .val (.ref b1), .val (.ref r108), .val (.int (1 : Int32))] [(.int p2), (.int p1), (.int (2 : Int32)), (.int ((p0 &&& (2147483647 : Int32)) % (21 : Int32))), (.ref r108), (.int (1 : Int32))])) _
    refine st125 _ ?_
    show Steps p.tables e below (T125.setTop (mkF m 269 #[.val (.int p0), .val (.int p1), .val (.int p2), .val (.int ((p0 &&& (2147483647 : Int32)) % (21 : Int32))), .val (.ref b1), .val (.ref r108), .val (.int (1 : Int32))] [(.int (1 : Int32)), (.int (1 : Int32))])) _
    refine XS.iand X125.here hx rfl (hb hby at_269) rfl ?_
    show Steps p.tables e below (T125.setTop (mkF m 270 #[.val (.int p0), .val (.int p1), .val (.int p2), .val (.int ((p0 &&& (2147483647 : Int32)) % (21 : Int32))), .val (.ref b1), .val (.ref r108), .val (.int (1 : Int32))] [(.int (1 : Int32))])) _
    refine XS.istore X125.here hx rfl (hb hby at_270) rfl (l' := #[.val (.int p0), .val (.int p1), .val (.int p2), .val (.int ((p0 &&& (2147483647 : Int32)) % (21 : Int32))), .val (.ref b1), .val (.ref r108), .val (.int (1 : Int32))]) rfl ?_
    show Steps p.tables e below (T125.setTop (mkF m 272 #[.val (.int p0), .val (.int p1), .val (.int p2), .val (.int ((p0 &&& (2147483647 : Int32)) % (21 : Int32))), .val (.ref b1), .val (.ref r108), .val (.int (1 : Int32))] [])) _
    refine XS.iload X125.here hx rfl (hb hby at_272) rfl ?_
    show Steps p.tables e below (T125.setTop (mkF m 274 #[.val (.int p0), .val (.int p1), .val (.int p2), .val (.int ((p0 &&& (2147483647 : Int32)) % (21 : Int32))), .val (.ref b1), .val (.ref r108), .val (.int (1 : Int32))] [(.int (1 : Int32))])) _
    refine XS.aload X125.here hx rfl (hb hby at_274) rfl rfl ?_
    exact kt
  have zs129 : n0 ≤ T106.heap.size := Nat.le_trans Z0 k110.1
  obtain ⟨_, _, ⟨T130, L130, k130, n130⟩, -, X130, ⟨Lc130, hQ130, l130, y130, z130⟩, st130⟩ := Jvm.LawKit.callS X125 hx (y := (⟨"com/example/interleaving/interleaving/store/StateGraphAddInitialPinLaw", "at", "([IIIII)Z"⟩ : MethodName)) hown (mvT hZ (hw _ (List.mem_of_getElem? (i := 42) rfl))) (mvT hZ (hw _ (List.mem_of_getElem? (i := 43) rfl))) (mvT hZ (hw _ (List.mem_of_getElem? (i := 21) rfl))) (mvT hZ (hw _ (List.mem_of_getElem? (i := 44) rfl))) (by decide) (backOf (W := 1) (own_rm_at l Z a0 hw [] r108 ((p0 &&& (2147483647 : Int32)) % (21 : Int32)) (3 : Int32) p1 p2 nn 3 fF T106.heap n0 zs129 c108_1 hn hnn rfl (by decide) hfF) hZ (hw _ (List.mem_of_getElem? (i := 44) rfl)) (hw _ (List.mem_of_getElem? (i := 21) rfl)) (by decide) (by decide)) (g := (mkF m 280 #[.val (.int p0), .val (.int p1), .val (.int p2), .val (.int ((p0 &&& (2147483647 : Int32)) % (21 : Int32))), .val (.ref b1), .val (.ref r108), .val (.int (1 : Int32))] [(.int p2), (.int p1), (.int (3 : Int32)), (.int ((p0 &&& (2147483647 : Int32)) % (21 : Int32))), (.ref r108), (.int (1 : Int32))])) rfl (by rw [hml]; rfl) (argsL := [(.ref r108), (.int ((p0 &&& (2147483647 : Int32)) % (21 : Int32))), (.int (3 : Int32)), (.int p1), (.int p2)]) (rest := [(.int (1 : Int32))]) (lenOf own_pd7 rfl) rfl (by show 2 * 0 + _ ≤ _; exact Nat.le_of_eq rfl) (hb hby at_280) (fun _ _ => ⟨rfl, eq126, (by decide : 6 + 0 ≤ _), (by decide : 2136 + 0 ≤ _)⟩)
  dsimp only [Pt.U, Pt.locs, Pt.cells, Pt.slots] at X130 l130 y130 z130 st130 hQ130
  rw [l130, (y130 : k130 = 6), (z130 : n130 = 2136)] at X130
  clear l130 y130 z130
  obtain ⟨rfl, N131, eq131⟩ := hQ130
  have nf132 := Fr.app nf127 N131
  have pre133 : ∀ t, Steps p.tables e below (T130.setTop (mkF m 293 #[.val (.int p0), .val (.int p1), .val (.int p2), .val (.int ((p0 &&& (2147483647 : Int32)) % (21 : Int32))), .val (.ref b1), .val (.ref r108), .val (.int (1 : Int32))] [(.int p1), (.int (4 : Int32)), (.int ((p0 &&& (2147483647 : Int32)) % (21 : Int32))), (.ref r108), (.int (1 : Int32))])) t → Steps p.tables e below (s₁.setTop (entryFrame m #[(.int p0), (.int p1), (.int p2)] maxLocals)) t := by
    intro t kt
    refine pre128 t ?_
    show Steps p.tables e below (T125.setTop (mkF m 276 #[.val (.int p0), .val (.int p1), .val (.int p2), .val (.int ((p0 &&& (2147483647 : Int32)) % (21 : Int32))), .val (.ref b1), .val (.ref r108), .val (.int (1 : Int32))] [(.ref r108), (.int (1 : Int32))])) _
    refine XS.iloadN X125.here hx rfl (hb hby at_276) rfl ?_
    show Steps p.tables e below (T125.setTop (mkF m 277 #[.val (.int p0), .val (.int p1), .val (.int p2), .val (.int ((p0 &&& (2147483647 : Int32)) % (21 : Int32))), .val (.ref b1), .val (.ref r108), .val (.int (1 : Int32))] [(.int ((p0 &&& (2147483647 : Int32)) % (21 : Int32))), (.ref r108), (.int (1 : Int32))])) _
    refine XS.iconst X125.here hx rfl (hb hby at_277) ?_
    show Steps p.tables e below (T125.setTop (mkF m 278 #[.val (.int p0), .val (.int p1), .val (.int p2), .val (.int ((p0 &&& (2147483647 : Int32)) % (21 : Int32))), .val (.ref b1), .val (.ref r108), .val (.int (1 : Int32))] [(.int (3 : Int32)), (.int ((p0 &&& (2147483647 : Int32)) % (21 : Int32))), (.ref r108), (.int (1 : Int32))])) _
    refine XS.iloadN X125.here hx rfl (hb hby at_278) rfl ?_
    show Steps p.tables e below (T125.setTop (mkF m 279 #[.val (.int p0), .val (.int p1), .val (.int p2), .val (.int ((p0 &&& (2147483647 : Int32)) % (21 : Int32))), .val (.ref b1), .val (.ref r108), .val (.int (1 : Int32))] [(.int p1), (.int (3 : Int32)), (.int ((p0 &&& (2147483647 : Int32)) % (21 : Int32))), (.ref r108), (.int (1 : Int32))])) _
    refine XS.iloadN X125.here hx rfl (hb hby at_279) rfl ?_
    show Steps p.tables e below (T125.setTop (mkF m 280 #[.val (.int p0), .val (.int p1), .val (.int p2), .val (.int ((p0 &&& (2147483647 : Int32)) % (21 : Int32))), .val (.ref b1), .val (.ref r108), .val (.int (1 : Int32))] [(.int p2), (.int p1), (.int (3 : Int32)), (.int ((p0 &&& (2147483647 : Int32)) % (21 : Int32))), (.ref r108), (.int (1 : Int32))])) _
    refine st130 _ ?_
    show Steps p.tables e below (T130.setTop (mkF m 283 #[.val (.int p0), .val (.int p1), .val (.int p2), .val (.int ((p0 &&& (2147483647 : Int32)) % (21 : Int32))), .val (.ref b1), .val (.ref r108), .val (.int (1 : Int32))] [(.int (1 : Int32)), (.int (1 : Int32))])) _
    refine XS.iand X130.here hx rfl (hb hby at_283) rfl ?_
    show Steps p.tables e below (T130.setTop (mkF m 284 #[.val (.int p0), .val (.int p1), .val (.int p2), .val (.int ((p0 &&& (2147483647 : Int32)) % (21 : Int32))), .val (.ref b1), .val (.ref r108), .val (.int (1 : Int32))] [(.int (1 : Int32))])) _
    refine XS.istore X130.here hx rfl (hb hby at_284) rfl (l' := #[.val (.int p0), .val (.int p1), .val (.int p2), .val (.int ((p0 &&& (2147483647 : Int32)) % (21 : Int32))), .val (.ref b1), .val (.ref r108), .val (.int (1 : Int32))]) rfl ?_
    show Steps p.tables e below (T130.setTop (mkF m 286 #[.val (.int p0), .val (.int p1), .val (.int p2), .val (.int ((p0 &&& (2147483647 : Int32)) % (21 : Int32))), .val (.ref b1), .val (.ref r108), .val (.int (1 : Int32))] [])) _
    refine XS.iload X130.here hx rfl (hb hby at_286) rfl ?_
    show Steps p.tables e below (T130.setTop (mkF m 288 #[.val (.int p0), .val (.int p1), .val (.int p2), .val (.int ((p0 &&& (2147483647 : Int32)) % (21 : Int32))), .val (.ref b1), .val (.ref r108), .val (.int (1 : Int32))] [(.int (1 : Int32))])) _
    refine XS.aload X130.here hx rfl (hb hby at_288) rfl rfl ?_
    show Steps p.tables e below (T130.setTop (mkF m 290 #[.val (.int p0), .val (.int p1), .val (.int p2), .val (.int ((p0 &&& (2147483647 : Int32)) % (21 : Int32))), .val (.ref b1), .val (.ref r108), .val (.int (1 : Int32))] [(.ref r108), (.int (1 : Int32))])) _
    refine XS.iloadN X130.here hx rfl (hb hby at_290) rfl ?_
    show Steps p.tables e below (T130.setTop (mkF m 291 #[.val (.int p0), .val (.int p1), .val (.int p2), .val (.int ((p0 &&& (2147483647 : Int32)) % (21 : Int32))), .val (.ref b1), .val (.ref r108), .val (.int (1 : Int32))] [(.int ((p0 &&& (2147483647 : Int32)) % (21 : Int32))), (.ref r108), (.int (1 : Int32))])) _
    refine XS.iconst X130.here hx rfl (hb hby at_291) ?_
    show Steps p.tables e below (T130.setTop (mkF m 292 #[.val (.int p0), .val (.int p1), .val (.int p2), .val (.int ((p0 &&& (2147483647 : Int32)) % (21 : Int32))), .val (.ref b1), .val (.ref r108), .val (.int (1 : Int32))] [(.int (4 : Int32)), (.int ((p0 &&& (2147483647 : Int32)) % (21 : Int32))), (.ref r108), (.int (1 : Int32))])) _
    refine XS.iloadN X130.here hx rfl (hb hby at_292) rfl ?_
    exact kt
  have zs134 : n0 ≤ T106.heap.size := Nat.le_trans Z0 k110.1
  obtain ⟨_, _, ⟨T135, L135, k135, n135⟩, -, X135, ⟨Lc135, hQ135, l135, y135, z135⟩, st135⟩ := Jvm.LawKit.callS X130 hx (y := (⟨"com/example/interleaving/interleaving/store/StateGraphAddInitialPinLaw", "at", "([IIIII)Z"⟩ : MethodName)) hown (mvT hZ (hw _ (List.mem_of_getElem? (i := 42) rfl))) (mvT hZ (hw _ (List.mem_of_getElem? (i := 43) rfl))) (mvT hZ (hw _ (List.mem_of_getElem? (i := 21) rfl))) (mvT hZ (hw _ (List.mem_of_getElem? (i := 44) rfl))) (by decide) (backOf (W := 1) (own_rm_at l Z a0 hw [] r108 ((p0 &&& (2147483647 : Int32)) % (21 : Int32)) (4 : Int32) p1 p2 nn 4 fF T106.heap n0 zs134 c108_1 hn hnn rfl (by decide) hfF) hZ (hw _ (List.mem_of_getElem? (i := 44) rfl)) (hw _ (List.mem_of_getElem? (i := 21) rfl)) (by decide) (by decide)) (g := (mkF m 294 #[.val (.int p0), .val (.int p1), .val (.int p2), .val (.int ((p0 &&& (2147483647 : Int32)) % (21 : Int32))), .val (.ref b1), .val (.ref r108), .val (.int (1 : Int32))] [(.int p2), (.int p1), (.int (4 : Int32)), (.int ((p0 &&& (2147483647 : Int32)) % (21 : Int32))), (.ref r108), (.int (1 : Int32))])) rfl (by rw [hml]; rfl) (argsL := [(.ref r108), (.int ((p0 &&& (2147483647 : Int32)) % (21 : Int32))), (.int (4 : Int32)), (.int p1), (.int p2)]) (rest := [(.int (1 : Int32))]) (lenOf own_pd7 rfl) rfl (by show 2 * 0 + _ ≤ _; exact Nat.le_of_eq rfl) (hb hby at_294) (fun _ _ => ⟨rfl, eq131, (by decide : 6 + 0 ≤ _), (by decide : 2136 + 0 ≤ _)⟩)
  dsimp only [Pt.U, Pt.locs, Pt.cells, Pt.slots] at X135 l135 y135 z135 st135 hQ135
  rw [l135, (y135 : k135 = 6), (z135 : n135 = 2136)] at X135
  clear l135 y135 z135
  obtain ⟨rfl, N136, eq136⟩ := hQ135
  have nf137 := Fr.app nf132 N136
  have zs138 : n0 ≤ T106.heap.size := Nat.le_trans Z0 k110.1
  obtain ⟨_, _, ⟨T139, L139, k139, n139⟩, -, X139, ⟨Lc139, hQ139, l139, y139, z139⟩, st139⟩ := Jvm.LawKit.callS X135 hx (y := (⟨"com/example/interleaving/interleaving/store/StateGraphAddInitialPinLaw", "at", "([IIIII)Z"⟩ : MethodName)) hown (mvT hZ (hw _ (List.mem_of_getElem? (i := 42) rfl))) (mvT hZ (hw _ (List.mem_of_getElem? (i := 43) rfl))) (mvT hZ (hw _ (List.mem_of_getElem? (i := 21) rfl))) (mvT hZ (hw _ (List.mem_of_getElem? (i := 44) rfl))) (by decide) (backOf (W := 1) (own_rm_at l Z a0 hw [] r108 ((p0 &&& (2147483647 : Int32)) % (21 : Int32)) (5 : Int32) p1 p2 nn 5 fF T106.heap n0 zs138 c108_1 hn hnn rfl (by decide) hfF) hZ (hw _ (List.mem_of_getElem? (i := 44) rfl)) (hw _ (List.mem_of_getElem? (i := 21) rfl)) (by decide) (by decide)) (g := (mkF m 308 #[.val (.int p0), .val (.int p1), .val (.int p2), .val (.int ((p0 &&& (2147483647 : Int32)) % (21 : Int32))), .val (.ref b1), .val (.ref r108), .val (.int (1 : Int32))] [(.int p2), (.int p1), (.int (5 : Int32)), (.int ((p0 &&& (2147483647 : Int32)) % (21 : Int32))), (.ref r108), (.int (1 : Int32))])) rfl (by rw [hml]; rfl) (argsL := [(.ref r108), (.int ((p0 &&& (2147483647 : Int32)) % (21 : Int32))), (.int (5 : Int32)), (.int p1), (.int p2)]) (rest := [(.int (1 : Int32))]) (lenOf own_pd7 rfl) rfl (by show 2 * 0 + _ ≤ _; exact Nat.le_of_eq rfl) (hb hby at_308) (fun _ _ => ⟨rfl, eq136, (by decide : 6 + 0 ≤ _), (by decide : 2136 + 0 ≤ _)⟩)
  dsimp only [Pt.U, Pt.locs, Pt.cells, Pt.slots] at X139 l139 y139 z139 st139 hQ139
  rw [l139, (y139 : k139 = 6), (z139 : n139 = 2136)] at X139
  clear l139 y139 z139
  obtain ⟨rfl, N140, eq140⟩ := hQ139
  have nf141 := Fr.app nf137 N140
  have pre142 : ∀ t, Steps p.tables e below (T139.setTop (mkF m 312 #[.val (.int p0), .val (.int p1), .val (.int p2), .val (.int ((p0 &&& (2147483647 : Int32)) % (21 : Int32))), .val (.ref b1), .val (.ref r108), .val (.int (1 : Int32))] [(.int (1 : Int32))])) t → Steps p.tables e below (s₁.setTop (entryFrame m #[(.int p0), (.int p1), (.int p2)] maxLocals)) t := by
    intro t kt
    refine pre133 t ?_
    show Steps p.tables e below (T130.setTop (mkF m 293 #[.val (.int p0), .val (.int p1), .val (.int p2), .val (.int ((p0 &&& (2147483647 : Int32)) % (21 : Int32))), .val (.ref b1), .val (.ref r108), .val (.int (1 : Int32))] [(.int p1), (.int (4 : Int32)), (.int ((p0 &&& (2147483647 : Int32)) % (21 : Int32))), (.ref r108), (.int (1 : Int32))])) _
    refine XS.iloadN X130.here hx rfl (hb hby at_293) rfl ?_
    show Steps p.tables e below (T130.setTop (mkF m 294 #[.val (.int p0), .val (.int p1), .val (.int p2), .val (.int ((p0 &&& (2147483647 : Int32)) % (21 : Int32))), .val (.ref b1), .val (.ref r108), .val (.int (1 : Int32))] [(.int p2), (.int p1), (.int (4 : Int32)), (.int ((p0 &&& (2147483647 : Int32)) % (21 : Int32))), (.ref r108), (.int (1 : Int32))])) _
    refine st135 _ ?_
    show Steps p.tables e below (T135.setTop (mkF m 297 #[.val (.int p0), .val (.int p1), .val (.int p2), .val (.int ((p0 &&& (2147483647 : Int32)) % (21 : Int32))), .val (.ref b1), .val (.ref r108), .val (.int (1 : Int32))] [(.int (1 : Int32)), (.int (1 : Int32))])) _
    refine XS.iand X135.here hx rfl (hb hby at_297) rfl ?_
    show Steps p.tables e below (T135.setTop (mkF m 298 #[.val (.int p0), .val (.int p1), .val (.int p2), .val (.int ((p0 &&& (2147483647 : Int32)) % (21 : Int32))), .val (.ref b1), .val (.ref r108), .val (.int (1 : Int32))] [(.int (1 : Int32))])) _
    refine XS.istore X135.here hx rfl (hb hby at_298) rfl (l' := #[.val (.int p0), .val (.int p1), .val (.int p2), .val (.int ((p0 &&& (2147483647 : Int32)) % (21 : Int32))), .val (.ref b1), .val (.ref r108), .val (.int (1 : Int32))]) rfl ?_
    show Steps p.tables e below (T135.setTop (mkF m 300 #[.val (.int p0), .val (.int p1), .val (.int p2), .val (.int ((p0 &&& (2147483647 : Int32)) % (21 : Int32))), .val (.ref b1), .val (.ref r108), .val (.int (1 : Int32))] [])) _
    refine XS.iload X135.here hx rfl (hb hby at_300) rfl ?_
    show Steps p.tables e below (T135.setTop (mkF m 302 #[.val (.int p0), .val (.int p1), .val (.int p2), .val (.int ((p0 &&& (2147483647 : Int32)) % (21 : Int32))), .val (.ref b1), .val (.ref r108), .val (.int (1 : Int32))] [(.int (1 : Int32))])) _
    refine XS.aload X135.here hx rfl (hb hby at_302) rfl rfl ?_
    show Steps p.tables e below (T135.setTop (mkF m 304 #[.val (.int p0), .val (.int p1), .val (.int p2), .val (.int ((p0 &&& (2147483647 : Int32)) % (21 : Int32))), .val (.ref b1), .val (.ref r108), .val (.int (1 : Int32))] [(.ref r108), (.int (1 : Int32))])) _
    refine XS.iloadN X135.here hx rfl (hb hby at_304) rfl ?_
    show Steps p.tables e below (T135.setTop (mkF m 305 #[.val (.int p0), .val (.int p1), .val (.int p2), .val (.int ((p0 &&& (2147483647 : Int32)) % (21 : Int32))), .val (.ref b1), .val (.ref r108), .val (.int (1 : Int32))] [(.int ((p0 &&& (2147483647 : Int32)) % (21 : Int32))), (.ref r108), (.int (1 : Int32))])) _
    refine XS.iconst X135.here hx rfl (hb hby at_305) ?_
    show Steps p.tables e below (T135.setTop (mkF m 306 #[.val (.int p0), .val (.int p1), .val (.int p2), .val (.int ((p0 &&& (2147483647 : Int32)) % (21 : Int32))), .val (.ref b1), .val (.ref r108), .val (.int (1 : Int32))] [(.int (5 : Int32)), (.int ((p0 &&& (2147483647 : Int32)) % (21 : Int32))), (.ref r108), (.int (1 : Int32))])) _
    refine XS.iloadN X135.here hx rfl (hb hby at_306) rfl ?_
    show Steps p.tables e below (T135.setTop (mkF m 307 #[.val (.int p0), .val (.int p1), .val (.int p2), .val (.int ((p0 &&& (2147483647 : Int32)) % (21 : Int32))), .val (.ref b1), .val (.ref r108), .val (.int (1 : Int32))] [(.int p1), (.int (5 : Int32)), (.int ((p0 &&& (2147483647 : Int32)) % (21 : Int32))), (.ref r108), (.int (1 : Int32))])) _
    refine XS.iloadN X135.here hx rfl (hb hby at_307) rfl ?_
    show Steps p.tables e below (T135.setTop (mkF m 308 #[.val (.int p0), .val (.int p1), .val (.int p2), .val (.int ((p0 &&& (2147483647 : Int32)) % (21 : Int32))), .val (.ref b1), .val (.ref r108), .val (.int (1 : Int32))] [(.int p2), (.int p1), (.int (5 : Int32)), (.int ((p0 &&& (2147483647 : Int32)) % (21 : Int32))), (.ref r108), (.int (1 : Int32))])) _
    refine st139 _ ?_
    show Steps p.tables e below (T139.setTop (mkF m 311 #[.val (.int p0), .val (.int p1), .val (.int p2), .val (.int ((p0 &&& (2147483647 : Int32)) % (21 : Int32))), .val (.ref b1), .val (.ref r108), .val (.int (1 : Int32))] [(.int (1 : Int32)), (.int (1 : Int32))])) _
    refine XS.iand X139.here hx rfl (hb hby at_311) rfl ?_
    exact kt
  have zs143 : n0 ≤ T106.heap.size := Nat.le_trans Z0 k110.1
  obtain ⟨_, _, ⟨T144, L144, k144, n144⟩, -, X144, ⟨Lc144, hQ144, l144, y144, z144⟩, st144⟩ := Jvm.LawKit.callS X139 hx (y := (⟨"com/example/interleaving/interleaving/store/StateGraphAddInitialPinLaw", "at", "([IIIII)Z"⟩ : MethodName)) hown (mvT hZ (hw _ (List.mem_of_getElem? (i := 42) rfl))) (mvT hZ (hw _ (List.mem_of_getElem? (i := 43) rfl))) (mvT hZ (hw _ (List.mem_of_getElem? (i := 21) rfl))) (mvT hZ (hw _ (List.mem_of_getElem? (i := 44) rfl))) (by decide) (backOf (W := 1) (own_rm_at l Z a0 hw [] r108 ((p0 &&& (2147483647 : Int32)) % (21 : Int32)) (6 : Int32) p1 p2 nn 6 fF T106.heap n0 zs143 c108_1 hn hnn rfl (by decide) hfF) hZ (hw _ (List.mem_of_getElem? (i := 44) rfl)) (hw _ (List.mem_of_getElem? (i := 21) rfl)) (by decide) (by decide)) (g := (mkF m 323 #[.val (.int p0), .val (.int p1), .val (.int p2), .val (.int ((p0 &&& (2147483647 : Int32)) % (21 : Int32))), .val (.ref b1), .val (.ref r108), .val (.int (1 : Int32))] [(.int p2), (.int p1), (.int (6 : Int32)), (.int ((p0 &&& (2147483647 : Int32)) % (21 : Int32))), (.ref r108), (.int (1 : Int32))])) rfl (by rw [hml]; rfl) (argsL := [(.ref r108), (.int ((p0 &&& (2147483647 : Int32)) % (21 : Int32))), (.int (6 : Int32)), (.int p1), (.int p2)]) (rest := [(.int (1 : Int32))]) (lenOf own_pd7 rfl) rfl (by show 2 * 0 + _ ≤ _; exact Nat.le_of_eq rfl) (hb hby at_323) (fun _ _ => ⟨rfl, eq140, (by decide : 6 + 0 ≤ _), (by decide : 2136 + 0 ≤ _)⟩)
  dsimp only [Pt.U, Pt.locs, Pt.cells, Pt.slots] at X144 l144 y144 z144 st144 hQ144
  rw [l144, (y144 : k144 = 6), (z144 : n144 = 2136)] at X144
  clear l144 y144 z144
  obtain ⟨rfl, N145, eq145⟩ := hQ144
  have nf146 := Fr.app nf141 N145
  have pre147 : ∀ t, Steps p.tables e below (T144.setTop (mkF m 333 #[.val (.int p0), .val (.int p1), .val (.int p2), .val (.int ((p0 &&& (2147483647 : Int32)) % (21 : Int32))), .val (.ref b1), .val (.ref r108), .val (.int (1 : Int32))] [(.ref r108), (.int (1 : Int32))])) t → Steps p.tables e below (s₁.setTop (entryFrame m #[(.int p0), (.int p1), (.int p2)] maxLocals)) t := by
    intro t kt
    refine pre142 t ?_
    show Steps p.tables e below (T139.setTop (mkF m 312 #[.val (.int p0), .val (.int p1), .val (.int p2), .val (.int ((p0 &&& (2147483647 : Int32)) % (21 : Int32))), .val (.ref b1), .val (.ref r108), .val (.int (1 : Int32))] [(.int (1 : Int32))])) _
    refine XS.istore X139.here hx rfl (hb hby at_312) rfl (l' := #[.val (.int p0), .val (.int p1), .val (.int p2), .val (.int ((p0 &&& (2147483647 : Int32)) % (21 : Int32))), .val (.ref b1), .val (.ref r108), .val (.int (1 : Int32))]) rfl ?_
    show Steps p.tables e below (T139.setTop (mkF m 314 #[.val (.int p0), .val (.int p1), .val (.int p2), .val (.int ((p0 &&& (2147483647 : Int32)) % (21 : Int32))), .val (.ref b1), .val (.ref r108), .val (.int (1 : Int32))] [])) _
    refine XS.iload X139.here hx rfl (hb hby at_314) rfl ?_
    show Steps p.tables e below (T139.setTop (mkF m 316 #[.val (.int p0), .val (.int p1), .val (.int p2), .val (.int ((p0 &&& (2147483647 : Int32)) % (21 : Int32))), .val (.ref b1), .val (.ref r108), .val (.int (1 : Int32))] [(.int (1 : Int32))])) _
    refine XS.aload X139.here hx rfl (hb hby at_316) rfl rfl ?_
    show Steps p.tables e below (T139.setTop (mkF m 318 #[.val (.int p0), .val (.int p1), .val (.int p2), .val (.int ((p0 &&& (2147483647 : Int32)) % (21 : Int32))), .val (.ref b1), .val (.ref r108), .val (.int (1 : Int32))] [(.ref r108), (.int (1 : Int32))])) _
    refine XS.iloadN X139.here hx rfl (hb hby at_318) rfl ?_
    show Steps p.tables e below (T139.setTop (mkF m 319 #[.val (.int p0), .val (.int p1), .val (.int p2), .val (.int ((p0 &&& (2147483647 : Int32)) % (21 : Int32))), .val (.ref b1), .val (.ref r108), .val (.int (1 : Int32))] [(.int ((p0 &&& (2147483647 : Int32)) % (21 : Int32))), (.ref r108), (.int (1 : Int32))])) _
    refine XS.bipush X139.here hx rfl (hb hby at_319) ?_
    show Steps p.tables e below (T139.setTop (mkF m 321 #[.val (.int p0), .val (.int p1), .val (.int p2), .val (.int ((p0 &&& (2147483647 : Int32)) % (21 : Int32))), .val (.ref b1), .val (.ref r108), .val (.int (1 : Int32))] [(.int (6 : Int32)), (.int ((p0 &&& (2147483647 : Int32)) % (21 : Int32))), (.ref r108), (.int (1 : Int32))])) _
    refine XS.iloadN X139.here hx rfl (hb hby at_321) rfl ?_
    show Steps p.tables e below (T139.setTop (mkF m 322 #[.val (.int p0), .val (.int p1), .val (.int p2), .val (.int ((p0 &&& (2147483647 : Int32)) % (21 : Int32))), .val (.ref b1), .val (.ref r108), .val (.int (1 : Int32))] [(.int p1), (.int (6 : Int32)), (.int ((p0 &&& (2147483647 : Int32)) % (21 : Int32))), (.ref r108), (.int (1 : Int32))])) _
    refine XS.iloadN X139.here hx rfl (hb hby at_322) rfl ?_
    show Steps p.tables e below (T139.setTop (mkF m 323 #[.val (.int p0), .val (.int p1), .val (.int p2), .val (.int ((p0 &&& (2147483647 : Int32)) % (21 : Int32))), .val (.ref b1), .val (.ref r108), .val (.int (1 : Int32))] [(.int p2), (.int p1), (.int (6 : Int32)), (.int ((p0 &&& (2147483647 : Int32)) % (21 : Int32))), (.ref r108), (.int (1 : Int32))])) _
    refine st144 _ ?_
    show Steps p.tables e below (T144.setTop (mkF m 326 #[.val (.int p0), .val (.int p1), .val (.int p2), .val (.int ((p0 &&& (2147483647 : Int32)) % (21 : Int32))), .val (.ref b1), .val (.ref r108), .val (.int (1 : Int32))] [(.int (1 : Int32)), (.int (1 : Int32))])) _
    refine XS.iand X144.here hx rfl (hb hby at_326) rfl ?_
    show Steps p.tables e below (T144.setTop (mkF m 327 #[.val (.int p0), .val (.int p1), .val (.int p2), .val (.int ((p0 &&& (2147483647 : Int32)) % (21 : Int32))), .val (.ref b1), .val (.ref r108), .val (.int (1 : Int32))] [(.int (1 : Int32))])) _
    refine XS.istore X144.here hx rfl (hb hby at_327) rfl (l' := #[.val (.int p0), .val (.int p1), .val (.int p2), .val (.int ((p0 &&& (2147483647 : Int32)) % (21 : Int32))), .val (.ref b1), .val (.ref r108), .val (.int (1 : Int32))]) rfl ?_
    show Steps p.tables e below (T144.setTop (mkF m 329 #[.val (.int p0), .val (.int p1), .val (.int p2), .val (.int ((p0 &&& (2147483647 : Int32)) % (21 : Int32))), .val (.ref b1), .val (.ref r108), .val (.int (1 : Int32))] [])) _
    refine XS.iload X144.here hx rfl (hb hby at_329) rfl ?_
    show Steps p.tables e below (T144.setTop (mkF m 331 #[.val (.int p0), .val (.int p1), .val (.int p2), .val (.int ((p0 &&& (2147483647 : Int32)) % (21 : Int32))), .val (.ref b1), .val (.ref r108), .val (.int (1 : Int32))] [(.int (1 : Int32))])) _
    refine XS.aload X144.here hx rfl (hb hby at_331) rfl rfl ?_
    exact kt
  have zs148 : n0 ≤ T106.heap.size := Nat.le_trans Z0 k110.1
  obtain ⟨_, _, ⟨T149, L149, k149, n149⟩, -, X149, ⟨Lc149, hQ149, l149, y149, z149⟩, st149⟩ := Jvm.LawKit.callS X144 hx (y := (⟨"com/example/interleaving/interleaving/store/StateGraphAddInitialPinLaw", "at", "([IIIII)Z"⟩ : MethodName)) hown (mvT hZ (hw _ (List.mem_of_getElem? (i := 42) rfl))) (mvT hZ (hw _ (List.mem_of_getElem? (i := 43) rfl))) (mvT hZ (hw _ (List.mem_of_getElem? (i := 21) rfl))) (mvT hZ (hw _ (List.mem_of_getElem? (i := 44) rfl))) (by decide) (backOf (W := 1) (own_rm_at l Z a0 hw [] r108 ((p0 &&& (2147483647 : Int32)) % (21 : Int32)) (7 : Int32) p1 p2 nn 7 fF T106.heap n0 zs148 c108_1 hn hnn rfl (by decide) hfF) hZ (hw _ (List.mem_of_getElem? (i := 44) rfl)) (hw _ (List.mem_of_getElem? (i := 21) rfl)) (by decide) (by decide)) (g := (mkF m 338 #[.val (.int p0), .val (.int p1), .val (.int p2), .val (.int ((p0 &&& (2147483647 : Int32)) % (21 : Int32))), .val (.ref b1), .val (.ref r108), .val (.int (1 : Int32))] [(.int p2), (.int p1), (.int (7 : Int32)), (.int ((p0 &&& (2147483647 : Int32)) % (21 : Int32))), (.ref r108), (.int (1 : Int32))])) rfl (by rw [hml]; rfl) (argsL := [(.ref r108), (.int ((p0 &&& (2147483647 : Int32)) % (21 : Int32))), (.int (7 : Int32)), (.int p1), (.int p2)]) (rest := [(.int (1 : Int32))]) (lenOf own_pd7 rfl) rfl (by show 2 * 0 + _ ≤ _; exact Nat.le_of_eq rfl) (hb hby at_338) (fun _ _ => ⟨rfl, eq145, (by decide : 6 + 0 ≤ _), (by decide : 2136 + 0 ≤ _)⟩)
  dsimp only [Pt.U, Pt.locs, Pt.cells, Pt.slots] at X149 l149 y149 z149 st149 hQ149
  rw [l149, (y149 : k149 = 6), (z149 : n149 = 2136)] at X149
  clear l149 y149 z149
  obtain ⟨rfl, N150, eq150⟩ := hQ149
  have nf151 := Fr.app nf146 N150
  have pre152 : ∀ t, Steps p.tables e below (T149.setTop (mkF m 352 #[.val (.int p0), .val (.int p1), .val (.int p2), .val (.int ((p0 &&& (2147483647 : Int32)) % (21 : Int32))), .val (.ref b1), .val (.ref r108), .val (.int (1 : Int32))] [(.int p1), (.int (8 : Int32)), (.int ((p0 &&& (2147483647 : Int32)) % (21 : Int32))), (.ref r108), (.int (1 : Int32))])) t → Steps p.tables e below (s₁.setTop (entryFrame m #[(.int p0), (.int p1), (.int p2)] maxLocals)) t := by
    intro t kt
    refine pre147 t ?_
    show Steps p.tables e below (T144.setTop (mkF m 333 #[.val (.int p0), .val (.int p1), .val (.int p2), .val (.int ((p0 &&& (2147483647 : Int32)) % (21 : Int32))), .val (.ref b1), .val (.ref r108), .val (.int (1 : Int32))] [(.ref r108), (.int (1 : Int32))])) _
    refine XS.iloadN X144.here hx rfl (hb hby at_333) rfl ?_
    show Steps p.tables e below (T144.setTop (mkF m 334 #[.val (.int p0), .val (.int p1), .val (.int p2), .val (.int ((p0 &&& (2147483647 : Int32)) % (21 : Int32))), .val (.ref b1), .val (.ref r108), .val (.int (1 : Int32))] [(.int ((p0 &&& (2147483647 : Int32)) % (21 : Int32))), (.ref r108), (.int (1 : Int32))])) _
    refine XS.bipush X144.here hx rfl (hb hby at_334) ?_
    show Steps p.tables e below (T144.setTop (mkF m 336 #[.val (.int p0), .val (.int p1), .val (.int p2), .val (.int ((p0 &&& (2147483647 : Int32)) % (21 : Int32))), .val (.ref b1), .val (.ref r108), .val (.int (1 : Int32))] [(.int (7 : Int32)), (.int ((p0 &&& (2147483647 : Int32)) % (21 : Int32))), (.ref r108), (.int (1 : Int32))])) _
    refine XS.iloadN X144.here hx rfl (hb hby at_336) rfl ?_
    show Steps p.tables e below (T144.setTop (mkF m 337 #[.val (.int p0), .val (.int p1), .val (.int p2), .val (.int ((p0 &&& (2147483647 : Int32)) % (21 : Int32))), .val (.ref b1), .val (.ref r108), .val (.int (1 : Int32))] [(.int p1), (.int (7 : Int32)), (.int ((p0 &&& (2147483647 : Int32)) % (21 : Int32))), (.ref r108), (.int (1 : Int32))])) _
    refine XS.iloadN X144.here hx rfl (hb hby at_337) rfl ?_
    show Steps p.tables e below (T144.setTop (mkF m 338 #[.val (.int p0), .val (.int p1), .val (.int p2), .val (.int ((p0 &&& (2147483647 : Int32)) % (21 : Int32))), .val (.ref b1), .val (.ref r108), .val (.int (1 : Int32))] [(.int p2), (.int p1), (.int (7 : Int32)), (.int ((p0 &&& (2147483647 : Int32)) % (21 : Int32))), (.ref r108), (.int (1 : Int32))])) _
    refine st149 _ ?_
    show Steps p.tables e below (T149.setTop (mkF m 341 #[.val (.int p0), .val (.int p1), .val (.int p2), .val (.int ((p0 &&& (2147483647 : Int32)) % (21 : Int32))), .val (.ref b1), .val (.ref r108), .val (.int (1 : Int32))] [(.int (1 : Int32)), (.int (1 : Int32))])) _
    refine XS.iand X149.here hx rfl (hb hby at_341) rfl ?_
    show Steps p.tables e below (T149.setTop (mkF m 342 #[.val (.int p0), .val (.int p1), .val (.int p2), .val (.int ((p0 &&& (2147483647 : Int32)) % (21 : Int32))), .val (.ref b1), .val (.ref r108), .val (.int (1 : Int32))] [(.int (1 : Int32))])) _
    refine XS.istore X149.here hx rfl (hb hby at_342) rfl (l' := #[.val (.int p0), .val (.int p1), .val (.int p2), .val (.int ((p0 &&& (2147483647 : Int32)) % (21 : Int32))), .val (.ref b1), .val (.ref r108), .val (.int (1 : Int32))]) rfl ?_
    show Steps p.tables e below (T149.setTop (mkF m 344 #[.val (.int p0), .val (.int p1), .val (.int p2), .val (.int ((p0 &&& (2147483647 : Int32)) % (21 : Int32))), .val (.ref b1), .val (.ref r108), .val (.int (1 : Int32))] [])) _
    refine XS.iload X149.here hx rfl (hb hby at_344) rfl ?_
    show Steps p.tables e below (T149.setTop (mkF m 346 #[.val (.int p0), .val (.int p1), .val (.int p2), .val (.int ((p0 &&& (2147483647 : Int32)) % (21 : Int32))), .val (.ref b1), .val (.ref r108), .val (.int (1 : Int32))] [(.int (1 : Int32))])) _
    refine XS.aload X149.here hx rfl (hb hby at_346) rfl rfl ?_
    show Steps p.tables e below (T149.setTop (mkF m 348 #[.val (.int p0), .val (.int p1), .val (.int p2), .val (.int ((p0 &&& (2147483647 : Int32)) % (21 : Int32))), .val (.ref b1), .val (.ref r108), .val (.int (1 : Int32))] [(.ref r108), (.int (1 : Int32))])) _
    refine XS.iloadN X149.here hx rfl (hb hby at_348) rfl ?_
    show Steps p.tables e below (T149.setTop (mkF m 349 #[.val (.int p0), .val (.int p1), .val (.int p2), .val (.int ((p0 &&& (2147483647 : Int32)) % (21 : Int32))), .val (.ref b1), .val (.ref r108), .val (.int (1 : Int32))] [(.int ((p0 &&& (2147483647 : Int32)) % (21 : Int32))), (.ref r108), (.int (1 : Int32))])) _
    refine XS.bipush X149.here hx rfl (hb hby at_349) ?_
    show Steps p.tables e below (T149.setTop (mkF m 351 #[.val (.int p0), .val (.int p1), .val (.int p2), .val (.int ((p0 &&& (2147483647 : Int32)) % (21 : Int32))), .val (.ref b1), .val (.ref r108), .val (.int (1 : Int32))] [(.int (8 : Int32)), (.int ((p0 &&& (2147483647 : Int32)) % (21 : Int32))), (.ref r108), (.int (1 : Int32))])) _
    refine XS.iloadN X149.here hx rfl (hb hby at_351) rfl ?_
    exact kt
  have zs153 : n0 ≤ T106.heap.size := Nat.le_trans Z0 k110.1
  obtain ⟨_, _, ⟨T154, L154, k154, n154⟩, -, X154, ⟨Lc154, hQ154, l154, y154, z154⟩, st154⟩ := Jvm.LawKit.callS X149 hx (y := (⟨"com/example/interleaving/interleaving/store/StateGraphAddInitialPinLaw", "at", "([IIIII)Z"⟩ : MethodName)) hown (mvT hZ (hw _ (List.mem_of_getElem? (i := 42) rfl))) (mvT hZ (hw _ (List.mem_of_getElem? (i := 43) rfl))) (mvT hZ (hw _ (List.mem_of_getElem? (i := 21) rfl))) (mvT hZ (hw _ (List.mem_of_getElem? (i := 44) rfl))) (by decide) (backOf (W := 1) (own_rm_at l Z a0 hw [] r108 ((p0 &&& (2147483647 : Int32)) % (21 : Int32)) (8 : Int32) p1 p2 nn 8 fF T106.heap n0 zs153 c108_1 hn hnn rfl (by decide) hfF) hZ (hw _ (List.mem_of_getElem? (i := 44) rfl)) (hw _ (List.mem_of_getElem? (i := 21) rfl)) (by decide) (by decide)) (g := (mkF m 353 #[.val (.int p0), .val (.int p1), .val (.int p2), .val (.int ((p0 &&& (2147483647 : Int32)) % (21 : Int32))), .val (.ref b1), .val (.ref r108), .val (.int (1 : Int32))] [(.int p2), (.int p1), (.int (8 : Int32)), (.int ((p0 &&& (2147483647 : Int32)) % (21 : Int32))), (.ref r108), (.int (1 : Int32))])) rfl (by rw [hml]; rfl) (argsL := [(.ref r108), (.int ((p0 &&& (2147483647 : Int32)) % (21 : Int32))), (.int (8 : Int32)), (.int p1), (.int p2)]) (rest := [(.int (1 : Int32))]) (lenOf own_pd7 rfl) rfl (by show 2 * 0 + _ ≤ _; exact Nat.le_of_eq rfl) (hb hby at_353) (fun _ _ => ⟨rfl, eq150, (by decide : 6 + 0 ≤ _), (by decide : 2136 + 0 ≤ _)⟩)
  dsimp only [Pt.U, Pt.locs, Pt.cells, Pt.slots] at X154 l154 y154 z154 st154 hQ154
  rw [l154, (y154 : k154 = 6), (z154 : n154 = 2136)] at X154
  clear l154 y154 z154
  obtain ⟨rfl, N155, eq155⟩ := hQ154
  have nf156 := Fr.app nf151 N155
  have zs157 : n0 ≤ T106.heap.size := Nat.le_trans Z0 k110.1
  obtain ⟨_, _, ⟨T158, L158, k158, n158⟩, -, X158, ⟨Lc158, hQ158, l158, y158, z158⟩, st158⟩ := Jvm.LawKit.callS X154 hx (y := (⟨"com/example/interleaving/interleaving/store/StateGraphAddInitialPinLaw", "at", "([IIIII)Z"⟩ : MethodName)) hown (mvT hZ (hw _ (List.mem_of_getElem? (i := 42) rfl))) (mvT hZ (hw _ (List.mem_of_getElem? (i := 43) rfl))) (mvT hZ (hw _ (List.mem_of_getElem? (i := 21) rfl))) (mvT hZ (hw _ (List.mem_of_getElem? (i := 44) rfl))) (by decide) (backOf (W := 1) (own_rm_at l Z a0 hw [] r108 ((p0 &&& (2147483647 : Int32)) % (21 : Int32)) (9 : Int32) p1 p2 nn 9 fF T106.heap n0 zs157 c108_1 hn hnn rfl (by decide) hfF) hZ (hw _ (List.mem_of_getElem? (i := 44) rfl)) (hw _ (List.mem_of_getElem? (i := 21) rfl)) (by decide) (by decide)) (g := (mkF m 368 #[.val (.int p0), .val (.int p1), .val (.int p2), .val (.int ((p0 &&& (2147483647 : Int32)) % (21 : Int32))), .val (.ref b1), .val (.ref r108), .val (.int (1 : Int32))] [(.int p2), (.int p1), (.int (9 : Int32)), (.int ((p0 &&& (2147483647 : Int32)) % (21 : Int32))), (.ref r108), (.int (1 : Int32))])) rfl (by rw [hml]; rfl) (argsL := [(.ref r108), (.int ((p0 &&& (2147483647 : Int32)) % (21 : Int32))), (.int (9 : Int32)), (.int p1), (.int p2)]) (rest := [(.int (1 : Int32))]) (lenOf own_pd7 rfl) rfl (by show 2 * 0 + _ ≤ _; exact Nat.le_of_eq rfl) (hb hby at_368) (fun _ _ => ⟨rfl, eq155, (by decide : 6 + 0 ≤ _), (by decide : 2136 + 0 ≤ _)⟩)
  dsimp only [Pt.U, Pt.locs, Pt.cells, Pt.slots] at X158 l158 y158 z158 st158 hQ158
  rw [l158, (y158 : k158 = 6), (z158 : n158 = 2136)] at X158
  clear l158 y158 z158
  obtain ⟨rfl, N159, eq159⟩ := hQ158
  have nf160 := Fr.app nf156 N159
  have pre161 : ∀ t, Steps p.tables e below (T158.setTop (mkF m 372 #[.val (.int p0), .val (.int p1), .val (.int p2), .val (.int ((p0 &&& (2147483647 : Int32)) % (21 : Int32))), .val (.ref b1), .val (.ref r108), .val (.int (1 : Int32))] [(.int (1 : Int32))])) t → Steps p.tables e below (s₁.setTop (entryFrame m #[(.int p0), (.int p1), (.int p2)] maxLocals)) t := by
    intro t kt
    refine pre152 t ?_
    show Steps p.tables e below (T149.setTop (mkF m 352 #[.val (.int p0), .val (.int p1), .val (.int p2), .val (.int ((p0 &&& (2147483647 : Int32)) % (21 : Int32))), .val (.ref b1), .val (.ref r108), .val (.int (1 : Int32))] [(.int p1), (.int (8 : Int32)), (.int ((p0 &&& (2147483647 : Int32)) % (21 : Int32))), (.ref r108), (.int (1 : Int32))])) _
    refine XS.iloadN X149.here hx rfl (hb hby at_352) rfl ?_
    show Steps p.tables e below (T149.setTop (mkF m 353 #[.val (.int p0), .val (.int p1), .val (.int p2), .val (.int ((p0 &&& (2147483647 : Int32)) % (21 : Int32))), .val (.ref b1), .val (.ref r108), .val (.int (1 : Int32))] [(.int p2), (.int p1), (.int (8 : Int32)), (.int ((p0 &&& (2147483647 : Int32)) % (21 : Int32))), (.ref r108), (.int (1 : Int32))])) _
    refine st154 _ ?_
    show Steps p.tables e below (T154.setTop (mkF m 356 #[.val (.int p0), .val (.int p1), .val (.int p2), .val (.int ((p0 &&& (2147483647 : Int32)) % (21 : Int32))), .val (.ref b1), .val (.ref r108), .val (.int (1 : Int32))] [(.int (1 : Int32)), (.int (1 : Int32))])) _
    refine XS.iand X154.here hx rfl (hb hby at_356) rfl ?_
    show Steps p.tables e below (T154.setTop (mkF m 357 #[.val (.int p0), .val (.int p1), .val (.int p2), .val (.int ((p0 &&& (2147483647 : Int32)) % (21 : Int32))), .val (.ref b1), .val (.ref r108), .val (.int (1 : Int32))] [(.int (1 : Int32))])) _
    refine XS.istore X154.here hx rfl (hb hby at_357) rfl (l' := #[.val (.int p0), .val (.int p1), .val (.int p2), .val (.int ((p0 &&& (2147483647 : Int32)) % (21 : Int32))), .val (.ref b1), .val (.ref r108), .val (.int (1 : Int32))]) rfl ?_
    show Steps p.tables e below (T154.setTop (mkF m 359 #[.val (.int p0), .val (.int p1), .val (.int p2), .val (.int ((p0 &&& (2147483647 : Int32)) % (21 : Int32))), .val (.ref b1), .val (.ref r108), .val (.int (1 : Int32))] [])) _
    refine XS.iload X154.here hx rfl (hb hby at_359) rfl ?_
    show Steps p.tables e below (T154.setTop (mkF m 361 #[.val (.int p0), .val (.int p1), .val (.int p2), .val (.int ((p0 &&& (2147483647 : Int32)) % (21 : Int32))), .val (.ref b1), .val (.ref r108), .val (.int (1 : Int32))] [(.int (1 : Int32))])) _
    refine XS.aload X154.here hx rfl (hb hby at_361) rfl rfl ?_
    show Steps p.tables e below (T154.setTop (mkF m 363 #[.val (.int p0), .val (.int p1), .val (.int p2), .val (.int ((p0 &&& (2147483647 : Int32)) % (21 : Int32))), .val (.ref b1), .val (.ref r108), .val (.int (1 : Int32))] [(.ref r108), (.int (1 : Int32))])) _
    refine XS.iloadN X154.here hx rfl (hb hby at_363) rfl ?_
    show Steps p.tables e below (T154.setTop (mkF m 364 #[.val (.int p0), .val (.int p1), .val (.int p2), .val (.int ((p0 &&& (2147483647 : Int32)) % (21 : Int32))), .val (.ref b1), .val (.ref r108), .val (.int (1 : Int32))] [(.int ((p0 &&& (2147483647 : Int32)) % (21 : Int32))), (.ref r108), (.int (1 : Int32))])) _
    refine XS.bipush X154.here hx rfl (hb hby at_364) ?_
    show Steps p.tables e below (T154.setTop (mkF m 366 #[.val (.int p0), .val (.int p1), .val (.int p2), .val (.int ((p0 &&& (2147483647 : Int32)) % (21 : Int32))), .val (.ref b1), .val (.ref r108), .val (.int (1 : Int32))] [(.int (9 : Int32)), (.int ((p0 &&& (2147483647 : Int32)) % (21 : Int32))), (.ref r108), (.int (1 : Int32))])) _
    refine XS.iloadN X154.here hx rfl (hb hby at_366) rfl ?_
    show Steps p.tables e below (T154.setTop (mkF m 367 #[.val (.int p0), .val (.int p1), .val (.int p2), .val (.int ((p0 &&& (2147483647 : Int32)) % (21 : Int32))), .val (.ref b1), .val (.ref r108), .val (.int (1 : Int32))] [(.int p1), (.int (9 : Int32)), (.int ((p0 &&& (2147483647 : Int32)) % (21 : Int32))), (.ref r108), (.int (1 : Int32))])) _
    refine XS.iloadN X154.here hx rfl (hb hby at_367) rfl ?_
    show Steps p.tables e below (T154.setTop (mkF m 368 #[.val (.int p0), .val (.int p1), .val (.int p2), .val (.int ((p0 &&& (2147483647 : Int32)) % (21 : Int32))), .val (.ref b1), .val (.ref r108), .val (.int (1 : Int32))] [(.int p2), (.int p1), (.int (9 : Int32)), (.int ((p0 &&& (2147483647 : Int32)) % (21 : Int32))), (.ref r108), (.int (1 : Int32))])) _
    refine st158 _ ?_
    show Steps p.tables e below (T158.setTop (mkF m 371 #[.val (.int p0), .val (.int p1), .val (.int p2), .val (.int ((p0 &&& (2147483647 : Int32)) % (21 : Int32))), .val (.ref b1), .val (.ref r108), .val (.int (1 : Int32))] [(.int (1 : Int32)), (.int (1 : Int32))])) _
    refine XS.iand X158.here hx rfl (hb hby at_371) rfl ?_
    exact kt
  have zs162 : n0 ≤ T106.heap.size := Nat.le_trans Z0 k110.1
  obtain ⟨_, _, ⟨T163, L163, k163, n163⟩, -, X163, ⟨Lc163, hQ163, l163, y163, z163⟩, st163⟩ := Jvm.LawKit.callS X158 hx (y := (⟨"com/example/interleaving/interleaving/store/StateGraphAddInitialPinLaw", "at", "([IIIII)Z"⟩ : MethodName)) hown (mvT hZ (hw _ (List.mem_of_getElem? (i := 42) rfl))) (mvT hZ (hw _ (List.mem_of_getElem? (i := 43) rfl))) (mvT hZ (hw _ (List.mem_of_getElem? (i := 21) rfl))) (mvT hZ (hw _ (List.mem_of_getElem? (i := 44) rfl))) (by decide) (backOf (W := 1) (own_rm_at l Z a0 hw [] r108 ((p0 &&& (2147483647 : Int32)) % (21 : Int32)) (10 : Int32) p1 p2 nn 10 fF T106.heap n0 zs162 c108_1 hn hnn rfl (by decide) hfF) hZ (hw _ (List.mem_of_getElem? (i := 44) rfl)) (hw _ (List.mem_of_getElem? (i := 21) rfl)) (by decide) (by decide)) (g := (mkF m 383 #[.val (.int p0), .val (.int p1), .val (.int p2), .val (.int ((p0 &&& (2147483647 : Int32)) % (21 : Int32))), .val (.ref b1), .val (.ref r108), .val (.int (1 : Int32))] [(.int p2), (.int p1), (.int (10 : Int32)), (.int ((p0 &&& (2147483647 : Int32)) % (21 : Int32))), (.ref r108), (.int (1 : Int32))])) rfl (by rw [hml]; rfl) (argsL := [(.ref r108), (.int ((p0 &&& (2147483647 : Int32)) % (21 : Int32))), (.int (10 : Int32)), (.int p1), (.int p2)]) (rest := [(.int (1 : Int32))]) (lenOf own_pd7 rfl) rfl (by show 2 * 0 + _ ≤ _; exact Nat.le_of_eq rfl) (hb hby at_383) (fun _ _ => ⟨rfl, eq159, (by decide : 6 + 0 ≤ _), (by decide : 2136 + 0 ≤ _)⟩)
  dsimp only [Pt.U, Pt.locs, Pt.cells, Pt.slots] at X163 l163 y163 z163 st163 hQ163
  rw [l163, (y163 : k163 = 6), (z163 : n163 = 2136)] at X163
  clear l163 y163 z163
  obtain ⟨rfl, N164, eq164⟩ := hQ163
  have nf165 := Fr.app nf160 N164
  have pre166 : ∀ t, Steps p.tables e below (T163.setTop (mkF m 393 #[.val (.int p0), .val (.int p1), .val (.int p2), .val (.int ((p0 &&& (2147483647 : Int32)) % (21 : Int32))), .val (.ref b1), .val (.ref r108), .val (.int (1 : Int32))] [(.ref r108), (.int (1 : Int32))])) t → Steps p.tables e below (s₁.setTop (entryFrame m #[(.int p0), (.int p1), (.int p2)] maxLocals)) t := by
    intro t kt
    refine pre161 t ?_
    show Steps p.tables e below (T158.setTop (mkF m 372 #[.val (.int p0), .val (.int p1), .val (.int p2), .val (.int ((p0 &&& (2147483647 : Int32)) % (21 : Int32))), .val (.ref b1), .val (.ref r108), .val (.int (1 : Int32))] [(.int (1 : Int32))])) _
    refine XS.istore X158.here hx rfl (hb hby at_372) rfl (l' := #[.val (.int p0), .val (.int p1), .val (.int p2), .val (.int ((p0 &&& (2147483647 : Int32)) % (21 : Int32))), .val (.ref b1), .val (.ref r108), .val (.int (1 : Int32))]) rfl ?_
    show Steps p.tables e below (T158.setTop (mkF m 374 #[.val (.int p0), .val (.int p1), .val (.int p2), .val (.int ((p0 &&& (2147483647 : Int32)) % (21 : Int32))), .val (.ref b1), .val (.ref r108), .val (.int (1 : Int32))] [])) _
    refine XS.iload X158.here hx rfl (hb hby at_374) rfl ?_
    show Steps p.tables e below (T158.setTop (mkF m 376 #[.val (.int p0), .val (.int p1), .val (.int p2), .val (.int ((p0 &&& (2147483647 : Int32)) % (21 : Int32))), .val (.ref b1), .val (.ref r108), .val (.int (1 : Int32))] [(.int (1 : Int32))])) _
    refine XS.aload X158.here hx rfl (hb hby at_376) rfl rfl ?_
    show Steps p.tables e below (T158.setTop (mkF m 378 #[.val (.int p0), .val (.int p1), .val (.int p2), .val (.int ((p0 &&& (2147483647 : Int32)) % (21 : Int32))), .val (.ref b1), .val (.ref r108), .val (.int (1 : Int32))] [(.ref r108), (.int (1 : Int32))])) _
    refine XS.iloadN X158.here hx rfl (hb hby at_378) rfl ?_
    show Steps p.tables e below (T158.setTop (mkF m 379 #[.val (.int p0), .val (.int p1), .val (.int p2), .val (.int ((p0 &&& (2147483647 : Int32)) % (21 : Int32))), .val (.ref b1), .val (.ref r108), .val (.int (1 : Int32))] [(.int ((p0 &&& (2147483647 : Int32)) % (21 : Int32))), (.ref r108), (.int (1 : Int32))])) _
    refine XS.bipush X158.here hx rfl (hb hby at_379) ?_
    show Steps p.tables e below (T158.setTop (mkF m 381 #[.val (.int p0), .val (.int p1), .val (.int p2), .val (.int ((p0 &&& (2147483647 : Int32)) % (21 : Int32))), .val (.ref b1), .val (.ref r108), .val (.int (1 : Int32))] [(.int (10 : Int32)), (.int ((p0 &&& (2147483647 : Int32)) % (21 : Int32))), (.ref r108), (.int (1 : Int32))])) _
    refine XS.iloadN X158.here hx rfl (hb hby at_381) rfl ?_
    show Steps p.tables e below (T158.setTop (mkF m 382 #[.val (.int p0), .val (.int p1), .val (.int p2), .val (.int ((p0 &&& (2147483647 : Int32)) % (21 : Int32))), .val (.ref b1), .val (.ref r108), .val (.int (1 : Int32))] [(.int p1), (.int (10 : Int32)), (.int ((p0 &&& (2147483647 : Int32)) % (21 : Int32))), (.ref r108), (.int (1 : Int32))])) _
    refine XS.iloadN X158.here hx rfl (hb hby at_382) rfl ?_
    show Steps p.tables e below (T158.setTop (mkF m 383 #[.val (.int p0), .val (.int p1), .val (.int p2), .val (.int ((p0 &&& (2147483647 : Int32)) % (21 : Int32))), .val (.ref b1), .val (.ref r108), .val (.int (1 : Int32))] [(.int p2), (.int p1), (.int (10 : Int32)), (.int ((p0 &&& (2147483647 : Int32)) % (21 : Int32))), (.ref r108), (.int (1 : Int32))])) _
    refine st163 _ ?_
    show Steps p.tables e below (T163.setTop (mkF m 386 #[.val (.int p0), .val (.int p1), .val (.int p2), .val (.int ((p0 &&& (2147483647 : Int32)) % (21 : Int32))), .val (.ref b1), .val (.ref r108), .val (.int (1 : Int32))] [(.int (1 : Int32)), (.int (1 : Int32))])) _
    refine XS.iand X163.here hx rfl (hb hby at_386) rfl ?_
    show Steps p.tables e below (T163.setTop (mkF m 387 #[.val (.int p0), .val (.int p1), .val (.int p2), .val (.int ((p0 &&& (2147483647 : Int32)) % (21 : Int32))), .val (.ref b1), .val (.ref r108), .val (.int (1 : Int32))] [(.int (1 : Int32))])) _
    refine XS.istore X163.here hx rfl (hb hby at_387) rfl (l' := #[.val (.int p0), .val (.int p1), .val (.int p2), .val (.int ((p0 &&& (2147483647 : Int32)) % (21 : Int32))), .val (.ref b1), .val (.ref r108), .val (.int (1 : Int32))]) rfl ?_
    show Steps p.tables e below (T163.setTop (mkF m 389 #[.val (.int p0), .val (.int p1), .val (.int p2), .val (.int ((p0 &&& (2147483647 : Int32)) % (21 : Int32))), .val (.ref b1), .val (.ref r108), .val (.int (1 : Int32))] [])) _
    refine XS.iload X163.here hx rfl (hb hby at_389) rfl ?_
    show Steps p.tables e below (T163.setTop (mkF m 391 #[.val (.int p0), .val (.int p1), .val (.int p2), .val (.int ((p0 &&& (2147483647 : Int32)) % (21 : Int32))), .val (.ref b1), .val (.ref r108), .val (.int (1 : Int32))] [(.int (1 : Int32))])) _
    refine XS.aload X163.here hx rfl (hb hby at_391) rfl rfl ?_
    exact kt
  have zs167 : n0 ≤ T106.heap.size := Nat.le_trans Z0 k110.1
  obtain ⟨_, _, ⟨T168, L168, k168, n168⟩, -, X168, ⟨Lc168, hQ168, l168, y168, z168⟩, st168⟩ := Jvm.LawKit.callS X163 hx (y := (⟨"com/example/interleaving/interleaving/store/StateGraphAddInitialPinLaw", "at", "([IIIII)Z"⟩ : MethodName)) hown (mvT hZ (hw _ (List.mem_of_getElem? (i := 42) rfl))) (mvT hZ (hw _ (List.mem_of_getElem? (i := 43) rfl))) (mvT hZ (hw _ (List.mem_of_getElem? (i := 21) rfl))) (mvT hZ (hw _ (List.mem_of_getElem? (i := 44) rfl))) (by decide) (backOf (W := 1) (own_rm_at l Z a0 hw [] r108 ((p0 &&& (2147483647 : Int32)) % (21 : Int32)) (11 : Int32) p1 p2 nn 11 fF T106.heap n0 zs167 c108_1 hn hnn rfl (by decide) hfF) hZ (hw _ (List.mem_of_getElem? (i := 44) rfl)) (hw _ (List.mem_of_getElem? (i := 21) rfl)) (by decide) (by decide)) (g := (mkF m 398 #[.val (.int p0), .val (.int p1), .val (.int p2), .val (.int ((p0 &&& (2147483647 : Int32)) % (21 : Int32))), .val (.ref b1), .val (.ref r108), .val (.int (1 : Int32))] [(.int p2), (.int p1), (.int (11 : Int32)), (.int ((p0 &&& (2147483647 : Int32)) % (21 : Int32))), (.ref r108), (.int (1 : Int32))])) rfl (by rw [hml]; rfl) (argsL := [(.ref r108), (.int ((p0 &&& (2147483647 : Int32)) % (21 : Int32))), (.int (11 : Int32)), (.int p1), (.int p2)]) (rest := [(.int (1 : Int32))]) (lenOf own_pd7 rfl) rfl (by show 2 * 0 + _ ≤ _; exact Nat.le_of_eq rfl) (hb hby at_398) (fun _ _ => ⟨rfl, eq164, (by decide : 6 + 0 ≤ _), (by decide : 2136 + 0 ≤ _)⟩)
  dsimp only [Pt.U, Pt.locs, Pt.cells, Pt.slots] at X168 l168 y168 z168 st168 hQ168
  rw [l168, (y168 : k168 = 6), (z168 : n168 = 2136)] at X168
  clear l168 y168 z168
  obtain ⟨rfl, N169, eq169⟩ := hQ168
  have nf170 := Fr.app nf165 N169
  have pre171 : ∀ t, Steps p.tables e below (T168.setTop (mkF m 412 #[.val (.int p0), .val (.int p1), .val (.int p2), .val (.int ((p0 &&& (2147483647 : Int32)) % (21 : Int32))), .val (.ref b1), .val (.ref r108), .val (.int (1 : Int32))] [(.int p1), (.int (12 : Int32)), (.int ((p0 &&& (2147483647 : Int32)) % (21 : Int32))), (.ref r108), (.int (1 : Int32))])) t → Steps p.tables e below (s₁.setTop (entryFrame m #[(.int p0), (.int p1), (.int p2)] maxLocals)) t := by
    intro t kt
    refine pre166 t ?_
    show Steps p.tables e below (T163.setTop (mkF m 393 #[.val (.int p0), .val (.int p1), .val (.int p2), .val (.int ((p0 &&& (2147483647 : Int32)) % (21 : Int32))), .val (.ref b1), .val (.ref r108), .val (.int (1 : Int32))] [(.ref r108), (.int (1 : Int32))])) _
    refine XS.iloadN X163.here hx rfl (hb hby at_393) rfl ?_
    show Steps p.tables e below (T163.setTop (mkF m 394 #[.val (.int p0), .val (.int p1), .val (.int p2), .val (.int ((p0 &&& (2147483647 : Int32)) % (21 : Int32))), .val (.ref b1), .val (.ref r108), .val (.int (1 : Int32))] [(.int ((p0 &&& (2147483647 : Int32)) % (21 : Int32))), (.ref r108), (.int (1 : Int32))])) _
    refine XS.bipush X163.here hx rfl (hb hby at_394) ?_
    show Steps p.tables e below (T163.setTop (mkF m 396 #[.val (.int p0), .val (.int p1), .val (.int p2), .val (.int ((p0 &&& (2147483647 : Int32)) % (21 : Int32))), .val (.ref b1), .val (.ref r108), .val (.int (1 : Int32))] [(.int (11 : Int32)), (.int ((p0 &&& (2147483647 : Int32)) % (21 : Int32))), (.ref r108), (.int (1 : Int32))])) _
    refine XS.iloadN X163.here hx rfl (hb hby at_396) rfl ?_
    show Steps p.tables e below (T163.setTop (mkF m 397 #[.val (.int p0), .val (.int p1), .val (.int p2), .val (.int ((p0 &&& (2147483647 : Int32)) % (21 : Int32))), .val (.ref b1), .val (.ref r108), .val (.int (1 : Int32))] [(.int p1), (.int (11 : Int32)), (.int ((p0 &&& (2147483647 : Int32)) % (21 : Int32))), (.ref r108), (.int (1 : Int32))])) _
    refine XS.iloadN X163.here hx rfl (hb hby at_397) rfl ?_
    show Steps p.tables e below (T163.setTop (mkF m 398 #[.val (.int p0), .val (.int p1), .val (.int p2), .val (.int ((p0 &&& (2147483647 : Int32)) % (21 : Int32))), .val (.ref b1), .val (.ref r108), .val (.int (1 : Int32))] [(.int p2), (.int p1), (.int (11 : Int32)), (.int ((p0 &&& (2147483647 : Int32)) % (21 : Int32))), (.ref r108), (.int (1 : Int32))])) _
    refine st168 _ ?_
    show Steps p.tables e below (T168.setTop (mkF m 401 #[.val (.int p0), .val (.int p1), .val (.int p2), .val (.int ((p0 &&& (2147483647 : Int32)) % (21 : Int32))), .val (.ref b1), .val (.ref r108), .val (.int (1 : Int32))] [(.int (1 : Int32)), (.int (1 : Int32))])) _
    refine XS.iand X168.here hx rfl (hb hby at_401) rfl ?_
    show Steps p.tables e below (T168.setTop (mkF m 402 #[.val (.int p0), .val (.int p1), .val (.int p2), .val (.int ((p0 &&& (2147483647 : Int32)) % (21 : Int32))), .val (.ref b1), .val (.ref r108), .val (.int (1 : Int32))] [(.int (1 : Int32))])) _
    refine XS.istore X168.here hx rfl (hb hby at_402) rfl (l' := #[.val (.int p0), .val (.int p1), .val (.int p2), .val (.int ((p0 &&& (2147483647 : Int32)) % (21 : Int32))), .val (.ref b1), .val (.ref r108), .val (.int (1 : Int32))]) rfl ?_
    show Steps p.tables e below (T168.setTop (mkF m 404 #[.val (.int p0), .val (.int p1), .val (.int p2), .val (.int ((p0 &&& (2147483647 : Int32)) % (21 : Int32))), .val (.ref b1), .val (.ref r108), .val (.int (1 : Int32))] [])) _
    refine XS.iload X168.here hx rfl (hb hby at_404) rfl ?_
    show Steps p.tables e below (T168.setTop (mkF m 406 #[.val (.int p0), .val (.int p1), .val (.int p2), .val (.int ((p0 &&& (2147483647 : Int32)) % (21 : Int32))), .val (.ref b1), .val (.ref r108), .val (.int (1 : Int32))] [(.int (1 : Int32))])) _
    refine XS.aload X168.here hx rfl (hb hby at_406) rfl rfl ?_
    show Steps p.tables e below (T168.setTop (mkF m 408 #[.val (.int p0), .val (.int p1), .val (.int p2), .val (.int ((p0 &&& (2147483647 : Int32)) % (21 : Int32))), .val (.ref b1), .val (.ref r108), .val (.int (1 : Int32))] [(.ref r108), (.int (1 : Int32))])) _
    refine XS.iloadN X168.here hx rfl (hb hby at_408) rfl ?_
    show Steps p.tables e below (T168.setTop (mkF m 409 #[.val (.int p0), .val (.int p1), .val (.int p2), .val (.int ((p0 &&& (2147483647 : Int32)) % (21 : Int32))), .val (.ref b1), .val (.ref r108), .val (.int (1 : Int32))] [(.int ((p0 &&& (2147483647 : Int32)) % (21 : Int32))), (.ref r108), (.int (1 : Int32))])) _
    refine XS.bipush X168.here hx rfl (hb hby at_409) ?_
    show Steps p.tables e below (T168.setTop (mkF m 411 #[.val (.int p0), .val (.int p1), .val (.int p2), .val (.int ((p0 &&& (2147483647 : Int32)) % (21 : Int32))), .val (.ref b1), .val (.ref r108), .val (.int (1 : Int32))] [(.int (12 : Int32)), (.int ((p0 &&& (2147483647 : Int32)) % (21 : Int32))), (.ref r108), (.int (1 : Int32))])) _
    refine XS.iloadN X168.here hx rfl (hb hby at_411) rfl ?_
    exact kt
  have zs172 : n0 ≤ T106.heap.size := Nat.le_trans Z0 k110.1
  obtain ⟨_, _, ⟨T173, L173, k173, n173⟩, -, X173, ⟨Lc173, hQ173, l173, y173, z173⟩, st173⟩ := Jvm.LawKit.callS X168 hx (y := (⟨"com/example/interleaving/interleaving/store/StateGraphAddInitialPinLaw", "at", "([IIIII)Z"⟩ : MethodName)) hown (mvT hZ (hw _ (List.mem_of_getElem? (i := 42) rfl))) (mvT hZ (hw _ (List.mem_of_getElem? (i := 43) rfl))) (mvT hZ (hw _ (List.mem_of_getElem? (i := 21) rfl))) (mvT hZ (hw _ (List.mem_of_getElem? (i := 44) rfl))) (by decide) (backOf (W := 1) (own_rm_at l Z a0 hw [] r108 ((p0 &&& (2147483647 : Int32)) % (21 : Int32)) (12 : Int32) p1 p2 nn 12 fF T106.heap n0 zs172 c108_1 hn hnn rfl (by decide) hfF) hZ (hw _ (List.mem_of_getElem? (i := 44) rfl)) (hw _ (List.mem_of_getElem? (i := 21) rfl)) (by decide) (by decide)) (g := (mkF m 413 #[.val (.int p0), .val (.int p1), .val (.int p2), .val (.int ((p0 &&& (2147483647 : Int32)) % (21 : Int32))), .val (.ref b1), .val (.ref r108), .val (.int (1 : Int32))] [(.int p2), (.int p1), (.int (12 : Int32)), (.int ((p0 &&& (2147483647 : Int32)) % (21 : Int32))), (.ref r108), (.int (1 : Int32))])) rfl (by rw [hml]; rfl) (argsL := [(.ref r108), (.int ((p0 &&& (2147483647 : Int32)) % (21 : Int32))), (.int (12 : Int32)), (.int p1), (.int p2)]) (rest := [(.int (1 : Int32))]) (lenOf own_pd7 rfl) rfl (by show 2 * 0 + _ ≤ _; exact Nat.le_of_eq rfl) (hb hby at_413) (fun _ _ => ⟨rfl, eq169, (by decide : 6 + 0 ≤ _), (by decide : 2136 + 0 ≤ _)⟩)
  dsimp only [Pt.U, Pt.locs, Pt.cells, Pt.slots] at X173 l173 y173 z173 st173 hQ173
  rw [l173, (y173 : k173 = 6), (z173 : n173 = 2136)] at X173
  clear l173 y173 z173
  obtain ⟨rfl, N174, eq174⟩ := hQ173
  have nf175 := Fr.app nf170 N174
  have zs176 : n0 ≤ T106.heap.size := Nat.le_trans Z0 k110.1
  obtain ⟨_, _, ⟨T177, L177, k177, n177⟩, -, X177, ⟨Lc177, hQ177, l177, y177, z177⟩, st177⟩ := Jvm.LawKit.callS X173 hx (y := (⟨"com/example/interleaving/interleaving/store/StateGraphAddInitialPinLaw", "at", "([IIIII)Z"⟩ : MethodName)) hown (mvT hZ (hw _ (List.mem_of_getElem? (i := 42) rfl))) (mvT hZ (hw _ (List.mem_of_getElem? (i := 43) rfl))) (mvT hZ (hw _ (List.mem_of_getElem? (i := 21) rfl))) (mvT hZ (hw _ (List.mem_of_getElem? (i := 44) rfl))) (by decide) (backOf (W := 1) (own_rm_at l Z a0 hw [] r108 ((p0 &&& (2147483647 : Int32)) % (21 : Int32)) (13 : Int32) p1 p2 nn 13 fF T106.heap n0 zs176 c108_1 hn hnn rfl (by decide) hfF) hZ (hw _ (List.mem_of_getElem? (i := 44) rfl)) (hw _ (List.mem_of_getElem? (i := 21) rfl)) (by decide) (by decide)) (g := (mkF m 428 #[.val (.int p0), .val (.int p1), .val (.int p2), .val (.int ((p0 &&& (2147483647 : Int32)) % (21 : Int32))), .val (.ref b1), .val (.ref r108), .val (.int (1 : Int32))] [(.int p2), (.int p1), (.int (13 : Int32)), (.int ((p0 &&& (2147483647 : Int32)) % (21 : Int32))), (.ref r108), (.int (1 : Int32))])) rfl (by rw [hml]; rfl) (argsL := [(.ref r108), (.int ((p0 &&& (2147483647 : Int32)) % (21 : Int32))), (.int (13 : Int32)), (.int p1), (.int p2)]) (rest := [(.int (1 : Int32))]) (lenOf own_pd7 rfl) rfl (by show 2 * 0 + _ ≤ _; exact Nat.le_of_eq rfl) (hb hby at_428) (fun _ _ => ⟨rfl, eq174, (by decide : 6 + 0 ≤ _), (by decide : 2136 + 0 ≤ _)⟩)
  dsimp only [Pt.U, Pt.locs, Pt.cells, Pt.slots] at X177 l177 y177 z177 st177 hQ177
  rw [l177, (y177 : k177 = 6), (z177 : n177 = 2136)] at X177
  clear l177 y177 z177
  obtain ⟨rfl, N178, eq178⟩ := hQ177
  have nf179 := Fr.app nf175 N178
  have pre180 : ∀ t, Steps p.tables e below (T177.setTop (mkF m 432 #[.val (.int p0), .val (.int p1), .val (.int p2), .val (.int ((p0 &&& (2147483647 : Int32)) % (21 : Int32))), .val (.ref b1), .val (.ref r108), .val (.int (1 : Int32))] [(.int (1 : Int32))])) t → Steps p.tables e below (s₁.setTop (entryFrame m #[(.int p0), (.int p1), (.int p2)] maxLocals)) t := by
    intro t kt
    refine pre171 t ?_
    show Steps p.tables e below (T168.setTop (mkF m 412 #[.val (.int p0), .val (.int p1), .val (.int p2), .val (.int ((p0 &&& (2147483647 : Int32)) % (21 : Int32))), .val (.ref b1), .val (.ref r108), .val (.int (1 : Int32))] [(.int p1), (.int (12 : Int32)), (.int ((p0 &&& (2147483647 : Int32)) % (21 : Int32))), (.ref r108), (.int (1 : Int32))])) _
    refine XS.iloadN X168.here hx rfl (hb hby at_412) rfl ?_
    show Steps p.tables e below (T168.setTop (mkF m 413 #[.val (.int p0), .val (.int p1), .val (.int p2), .val (.int ((p0 &&& (2147483647 : Int32)) % (21 : Int32))), .val (.ref b1), .val (.ref r108), .val (.int (1 : Int32))] [(.int p2), (.int p1), (.int (12 : Int32)), (.int ((p0 &&& (2147483647 : Int32)) % (21 : Int32))), (.ref r108), (.int (1 : Int32))])) _
    refine st173 _ ?_
    show Steps p.tables e below (T173.setTop (mkF m 416 #[.val (.int p0), .val (.int p1), .val (.int p2), .val (.int ((p0 &&& (2147483647 : Int32)) % (21 : Int32))), .val (.ref b1), .val (.ref r108), .val (.int (1 : Int32))] [(.int (1 : Int32)), (.int (1 : Int32))])) _
    refine XS.iand X173.here hx rfl (hb hby at_416) rfl ?_
    show Steps p.tables e below (T173.setTop (mkF m 417 #[.val (.int p0), .val (.int p1), .val (.int p2), .val (.int ((p0 &&& (2147483647 : Int32)) % (21 : Int32))), .val (.ref b1), .val (.ref r108), .val (.int (1 : Int32))] [(.int (1 : Int32))])) _
    refine XS.istore X173.here hx rfl (hb hby at_417) rfl (l' := #[.val (.int p0), .val (.int p1), .val (.int p2), .val (.int ((p0 &&& (2147483647 : Int32)) % (21 : Int32))), .val (.ref b1), .val (.ref r108), .val (.int (1 : Int32))]) rfl ?_
    show Steps p.tables e below (T173.setTop (mkF m 419 #[.val (.int p0), .val (.int p1), .val (.int p2), .val (.int ((p0 &&& (2147483647 : Int32)) % (21 : Int32))), .val (.ref b1), .val (.ref r108), .val (.int (1 : Int32))] [])) _
    refine XS.iload X173.here hx rfl (hb hby at_419) rfl ?_
    show Steps p.tables e below (T173.setTop (mkF m 421 #[.val (.int p0), .val (.int p1), .val (.int p2), .val (.int ((p0 &&& (2147483647 : Int32)) % (21 : Int32))), .val (.ref b1), .val (.ref r108), .val (.int (1 : Int32))] [(.int (1 : Int32))])) _
    refine XS.aload X173.here hx rfl (hb hby at_421) rfl rfl ?_
    show Steps p.tables e below (T173.setTop (mkF m 423 #[.val (.int p0), .val (.int p1), .val (.int p2), .val (.int ((p0 &&& (2147483647 : Int32)) % (21 : Int32))), .val (.ref b1), .val (.ref r108), .val (.int (1 : Int32))] [(.ref r108), (.int (1 : Int32))])) _
    refine XS.iloadN X173.here hx rfl (hb hby at_423) rfl ?_
    show Steps p.tables e below (T173.setTop (mkF m 424 #[.val (.int p0), .val (.int p1), .val (.int p2), .val (.int ((p0 &&& (2147483647 : Int32)) % (21 : Int32))), .val (.ref b1), .val (.ref r108), .val (.int (1 : Int32))] [(.int ((p0 &&& (2147483647 : Int32)) % (21 : Int32))), (.ref r108), (.int (1 : Int32))])) _
    refine XS.bipush X173.here hx rfl (hb hby at_424) ?_
    show Steps p.tables e below (T173.setTop (mkF m 426 #[.val (.int p0), .val (.int p1), .val (.int p2), .val (.int ((p0 &&& (2147483647 : Int32)) % (21 : Int32))), .val (.ref b1), .val (.ref r108), .val (.int (1 : Int32))] [(.int (13 : Int32)), (.int ((p0 &&& (2147483647 : Int32)) % (21 : Int32))), (.ref r108), (.int (1 : Int32))])) _
    refine XS.iloadN X173.here hx rfl (hb hby at_426) rfl ?_
    show Steps p.tables e below (T173.setTop (mkF m 427 #[.val (.int p0), .val (.int p1), .val (.int p2), .val (.int ((p0 &&& (2147483647 : Int32)) % (21 : Int32))), .val (.ref b1), .val (.ref r108), .val (.int (1 : Int32))] [(.int p1), (.int (13 : Int32)), (.int ((p0 &&& (2147483647 : Int32)) % (21 : Int32))), (.ref r108), (.int (1 : Int32))])) _
    refine XS.iloadN X173.here hx rfl (hb hby at_427) rfl ?_
    show Steps p.tables e below (T173.setTop (mkF m 428 #[.val (.int p0), .val (.int p1), .val (.int p2), .val (.int ((p0 &&& (2147483647 : Int32)) % (21 : Int32))), .val (.ref b1), .val (.ref r108), .val (.int (1 : Int32))] [(.int p2), (.int p1), (.int (13 : Int32)), (.int ((p0 &&& (2147483647 : Int32)) % (21 : Int32))), (.ref r108), (.int (1 : Int32))])) _
    refine st177 _ ?_
    show Steps p.tables e below (T177.setTop (mkF m 431 #[.val (.int p0), .val (.int p1), .val (.int p2), .val (.int ((p0 &&& (2147483647 : Int32)) % (21 : Int32))), .val (.ref b1), .val (.ref r108), .val (.int (1 : Int32))] [(.int (1 : Int32)), (.int (1 : Int32))])) _
    refine XS.iand X177.here hx rfl (hb hby at_431) rfl ?_
    exact kt
  have zs181 : n0 ≤ T106.heap.size := Nat.le_trans Z0 k110.1
  obtain ⟨_, _, ⟨T182, L182, k182, n182⟩, -, X182, ⟨Lc182, hQ182, l182, y182, z182⟩, st182⟩ := Jvm.LawKit.callS X177 hx (y := (⟨"com/example/interleaving/interleaving/store/StateGraphAddInitialPinLaw", "at", "([IIIII)Z"⟩ : MethodName)) hown (mvT hZ (hw _ (List.mem_of_getElem? (i := 42) rfl))) (mvT hZ (hw _ (List.mem_of_getElem? (i := 43) rfl))) (mvT hZ (hw _ (List.mem_of_getElem? (i := 21) rfl))) (mvT hZ (hw _ (List.mem_of_getElem? (i := 44) rfl))) (by decide) (backOf (W := 1) (own_rm_at l Z a0 hw [] r108 ((p0 &&& (2147483647 : Int32)) % (21 : Int32)) (14 : Int32) p1 p2 nn 14 fF T106.heap n0 zs181 c108_1 hn hnn rfl (by decide) hfF) hZ (hw _ (List.mem_of_getElem? (i := 44) rfl)) (hw _ (List.mem_of_getElem? (i := 21) rfl)) (by decide) (by decide)) (g := (mkF m 443 #[.val (.int p0), .val (.int p1), .val (.int p2), .val (.int ((p0 &&& (2147483647 : Int32)) % (21 : Int32))), .val (.ref b1), .val (.ref r108), .val (.int (1 : Int32))] [(.int p2), (.int p1), (.int (14 : Int32)), (.int ((p0 &&& (2147483647 : Int32)) % (21 : Int32))), (.ref r108), (.int (1 : Int32))])) rfl (by rw [hml]; rfl) (argsL := [(.ref r108), (.int ((p0 &&& (2147483647 : Int32)) % (21 : Int32))), (.int (14 : Int32)), (.int p1), (.int p2)]) (rest := [(.int (1 : Int32))]) (lenOf own_pd7 rfl) rfl (by show 2 * 0 + _ ≤ _; exact Nat.le_of_eq rfl) (hb hby at_443) (fun _ _ => ⟨rfl, eq178, (by decide : 6 + 0 ≤ _), (by decide : 2136 + 0 ≤ _)⟩)
  dsimp only [Pt.U, Pt.locs, Pt.cells, Pt.slots] at X182 l182 y182 z182 st182 hQ182
  rw [l182, (y182 : k182 = 6), (z182 : n182 = 2136)] at X182
  clear l182 y182 z182
  obtain ⟨rfl, N183, eq183⟩ := hQ182
  have nf184 := Fr.app nf179 N183
  have pre185 : ∀ t, Steps p.tables e below (T182.setTop (mkF m 453 #[.val (.int p0), .val (.int p1), .val (.int p2), .val (.int ((p0 &&& (2147483647 : Int32)) % (21 : Int32))), .val (.ref b1), .val (.ref r108), .val (.int (1 : Int32))] [(.ref r108), (.int (1 : Int32))])) t → Steps p.tables e below (s₁.setTop (entryFrame m #[(.int p0), (.int p1), (.int p2)] maxLocals)) t := by
    intro t kt
    refine pre180 t ?_
    show Steps p.tables e below (T177.setTop (mkF m 432 #[.val (.int p0), .val (.int p1), .val (.int p2), .val (.int ((p0 &&& (2147483647 : Int32)) % (21 : Int32))), .val (.ref b1), .val (.ref r108), .val (.int (1 : Int32))] [(.int (1 : Int32))])) _
    refine XS.istore X177.here hx rfl (hb hby at_432) rfl (l' := #[.val (.int p0), .val (.int p1), .val (.int p2), .val (.int ((p0 &&& (2147483647 : Int32)) % (21 : Int32))), .val (.ref b1), .val (.ref r108), .val (.int (1 : Int32))]) rfl ?_
    show Steps p.tables e below (T177.setTop (mkF m 434 #[.val (.int p0), .val (.int p1), .val (.int p2), .val (.int ((p0 &&& (2147483647 : Int32)) % (21 : Int32))), .val (.ref b1), .val (.ref r108), .val (.int (1 : Int32))] [])) _
    refine XS.iload X177.here hx rfl (hb hby at_434) rfl ?_
    show Steps p.tables e below (T177.setTop (mkF m 436 #[.val (.int p0), .val (.int p1), .val (.int p2), .val (.int ((p0 &&& (2147483647 : Int32)) % (21 : Int32))), .val (.ref b1), .val (.ref r108), .val (.int (1 : Int32))] [(.int (1 : Int32))])) _
    refine XS.aload X177.here hx rfl (hb hby at_436) rfl rfl ?_
    show Steps p.tables e below (T177.setTop (mkF m 438 #[.val (.int p0), .val (.int p1), .val (.int p2), .val (.int ((p0 &&& (2147483647 : Int32)) % (21 : Int32))), .val (.ref b1), .val (.ref r108), .val (.int (1 : Int32))] [(.ref r108), (.int (1 : Int32))])) _
    refine XS.iloadN X177.here hx rfl (hb hby at_438) rfl ?_
    show Steps p.tables e below (T177.setTop (mkF m 439 #[.val (.int p0), .val (.int p1), .val (.int p2), .val (.int ((p0 &&& (2147483647 : Int32)) % (21 : Int32))), .val (.ref b1), .val (.ref r108), .val (.int (1 : Int32))] [(.int ((p0 &&& (2147483647 : Int32)) % (21 : Int32))), (.ref r108), (.int (1 : Int32))])) _
    refine XS.bipush X177.here hx rfl (hb hby at_439) ?_
    show Steps p.tables e below (T177.setTop (mkF m 441 #[.val (.int p0), .val (.int p1), .val (.int p2), .val (.int ((p0 &&& (2147483647 : Int32)) % (21 : Int32))), .val (.ref b1), .val (.ref r108), .val (.int (1 : Int32))] [(.int (14 : Int32)), (.int ((p0 &&& (2147483647 : Int32)) % (21 : Int32))), (.ref r108), (.int (1 : Int32))])) _
    refine XS.iloadN X177.here hx rfl (hb hby at_441) rfl ?_
    show Steps p.tables e below (T177.setTop (mkF m 442 #[.val (.int p0), .val (.int p1), .val (.int p2), .val (.int ((p0 &&& (2147483647 : Int32)) % (21 : Int32))), .val (.ref b1), .val (.ref r108), .val (.int (1 : Int32))] [(.int p1), (.int (14 : Int32)), (.int ((p0 &&& (2147483647 : Int32)) % (21 : Int32))), (.ref r108), (.int (1 : Int32))])) _
    refine XS.iloadN X177.here hx rfl (hb hby at_442) rfl ?_
    show Steps p.tables e below (T177.setTop (mkF m 443 #[.val (.int p0), .val (.int p1), .val (.int p2), .val (.int ((p0 &&& (2147483647 : Int32)) % (21 : Int32))), .val (.ref b1), .val (.ref r108), .val (.int (1 : Int32))] [(.int p2), (.int p1), (.int (14 : Int32)), (.int ((p0 &&& (2147483647 : Int32)) % (21 : Int32))), (.ref r108), (.int (1 : Int32))])) _
    refine st182 _ ?_
    show Steps p.tables e below (T182.setTop (mkF m 446 #[.val (.int p0), .val (.int p1), .val (.int p2), .val (.int ((p0 &&& (2147483647 : Int32)) % (21 : Int32))), .val (.ref b1), .val (.ref r108), .val (.int (1 : Int32))] [(.int (1 : Int32)), (.int (1 : Int32))])) _
    refine XS.iand X182.here hx rfl (hb hby at_446) rfl ?_
    show Steps p.tables e below (T182.setTop (mkF m 447 #[.val (.int p0), .val (.int p1), .val (.int p2), .val (.int ((p0 &&& (2147483647 : Int32)) % (21 : Int32))), .val (.ref b1), .val (.ref r108), .val (.int (1 : Int32))] [(.int (1 : Int32))])) _
    refine XS.istore X182.here hx rfl (hb hby at_447) rfl (l' := #[.val (.int p0), .val (.int p1), .val (.int p2), .val (.int ((p0 &&& (2147483647 : Int32)) % (21 : Int32))), .val (.ref b1), .val (.ref r108), .val (.int (1 : Int32))]) rfl ?_
    show Steps p.tables e below (T182.setTop (mkF m 449 #[.val (.int p0), .val (.int p1), .val (.int p2), .val (.int ((p0 &&& (2147483647 : Int32)) % (21 : Int32))), .val (.ref b1), .val (.ref r108), .val (.int (1 : Int32))] [])) _
    refine XS.iload X182.here hx rfl (hb hby at_449) rfl ?_
    show Steps p.tables e below (T182.setTop (mkF m 451 #[.val (.int p0), .val (.int p1), .val (.int p2), .val (.int ((p0 &&& (2147483647 : Int32)) % (21 : Int32))), .val (.ref b1), .val (.ref r108), .val (.int (1 : Int32))] [(.int (1 : Int32))])) _
    refine XS.aload X182.here hx rfl (hb hby at_451) rfl rfl ?_
    exact kt
  have zs186 : n0 ≤ T106.heap.size := Nat.le_trans Z0 k110.1
  obtain ⟨_, _, ⟨T187, L187, k187, n187⟩, -, X187, ⟨Lc187, hQ187, l187, y187, z187⟩, st187⟩ := Jvm.LawKit.callS X182 hx (y := (⟨"com/example/interleaving/interleaving/store/StateGraphAddInitialPinLaw", "at", "([IIIII)Z"⟩ : MethodName)) hown (mvT hZ (hw _ (List.mem_of_getElem? (i := 42) rfl))) (mvT hZ (hw _ (List.mem_of_getElem? (i := 43) rfl))) (mvT hZ (hw _ (List.mem_of_getElem? (i := 21) rfl))) (mvT hZ (hw _ (List.mem_of_getElem? (i := 44) rfl))) (by decide) (backOf (W := 1) (own_rm_at l Z a0 hw [] r108 ((p0 &&& (2147483647 : Int32)) % (21 : Int32)) (15 : Int32) p1 p2 nn 15 fF T106.heap n0 zs186 c108_1 hn hnn rfl (by decide) hfF) hZ (hw _ (List.mem_of_getElem? (i := 44) rfl)) (hw _ (List.mem_of_getElem? (i := 21) rfl)) (by decide) (by decide)) (g := (mkF m 458 #[.val (.int p0), .val (.int p1), .val (.int p2), .val (.int ((p0 &&& (2147483647 : Int32)) % (21 : Int32))), .val (.ref b1), .val (.ref r108), .val (.int (1 : Int32))] [(.int p2), (.int p1), (.int (15 : Int32)), (.int ((p0 &&& (2147483647 : Int32)) % (21 : Int32))), (.ref r108), (.int (1 : Int32))])) rfl (by rw [hml]; rfl) (argsL := [(.ref r108), (.int ((p0 &&& (2147483647 : Int32)) % (21 : Int32))), (.int (15 : Int32)), (.int p1), (.int p2)]) (rest := [(.int (1 : Int32))]) (lenOf own_pd7 rfl) rfl (by show 2 * 0 + _ ≤ _; exact Nat.le_of_eq rfl) (hb hby at_458) (fun _ _ => ⟨rfl, eq183, (by decide : 6 + 0 ≤ _), (by decide : 2136 + 0 ≤ _)⟩)
  dsimp only [Pt.U, Pt.locs, Pt.cells, Pt.slots] at X187 l187 y187 z187 st187 hQ187
  rw [l187, (y187 : k187 = 6), (z187 : n187 = 2136)] at X187
  clear l187 y187 z187
  obtain ⟨rfl, N188, eq188⟩ := hQ187
  have nf189 := Fr.app nf184 N188
  have pre190 : ∀ t, Steps p.tables e below (T187.setTop (mkF m 472 #[.val (.int p0), .val (.int p1), .val (.int p2), .val (.int ((p0 &&& (2147483647 : Int32)) % (21 : Int32))), .val (.ref b1), .val (.ref r108), .val (.int (1 : Int32))] [(.int p1), (.int (16 : Int32)), (.int ((p0 &&& (2147483647 : Int32)) % (21 : Int32))), (.ref r108), (.int (1 : Int32))])) t → Steps p.tables e below (s₁.setTop (entryFrame m #[(.int p0), (.int p1), (.int p2)] maxLocals)) t := by
    intro t kt
    refine pre185 t ?_
    show Steps p.tables e below (T182.setTop (mkF m 453 #[.val (.int p0), .val (.int p1), .val (.int p2), .val (.int ((p0 &&& (2147483647 : Int32)) % (21 : Int32))), .val (.ref b1), .val (.ref r108), .val (.int (1 : Int32))] [(.ref r108), (.int (1 : Int32))])) _
    refine XS.iloadN X182.here hx rfl (hb hby at_453) rfl ?_
    show Steps p.tables e below (T182.setTop (mkF m 454 #[.val (.int p0), .val (.int p1), .val (.int p2), .val (.int ((p0 &&& (2147483647 : Int32)) % (21 : Int32))), .val (.ref b1), .val (.ref r108), .val (.int (1 : Int32))] [(.int ((p0 &&& (2147483647 : Int32)) % (21 : Int32))), (.ref r108), (.int (1 : Int32))])) _
    refine XS.bipush X182.here hx rfl (hb hby at_454) ?_
    show Steps p.tables e below (T182.setTop (mkF m 456 #[.val (.int p0), .val (.int p1), .val (.int p2), .val (.int ((p0 &&& (2147483647 : Int32)) % (21 : Int32))), .val (.ref b1), .val (.ref r108), .val (.int (1 : Int32))] [(.int (15 : Int32)), (.int ((p0 &&& (2147483647 : Int32)) % (21 : Int32))), (.ref r108), (.int (1 : Int32))])) _
    refine XS.iloadN X182.here hx rfl (hb hby at_456) rfl ?_
    show Steps p.tables e below (T182.setTop (mkF m 457 #[.val (.int p0), .val (.int p1), .val (.int p2), .val (.int ((p0 &&& (2147483647 : Int32)) % (21 : Int32))), .val (.ref b1), .val (.ref r108), .val (.int (1 : Int32))] [(.int p1), (.int (15 : Int32)), (.int ((p0 &&& (2147483647 : Int32)) % (21 : Int32))), (.ref r108), (.int (1 : Int32))])) _
    refine XS.iloadN X182.here hx rfl (hb hby at_457) rfl ?_
    show Steps p.tables e below (T182.setTop (mkF m 458 #[.val (.int p0), .val (.int p1), .val (.int p2), .val (.int ((p0 &&& (2147483647 : Int32)) % (21 : Int32))), .val (.ref b1), .val (.ref r108), .val (.int (1 : Int32))] [(.int p2), (.int p1), (.int (15 : Int32)), (.int ((p0 &&& (2147483647 : Int32)) % (21 : Int32))), (.ref r108), (.int (1 : Int32))])) _
    refine st187 _ ?_
    show Steps p.tables e below (T187.setTop (mkF m 461 #[.val (.int p0), .val (.int p1), .val (.int p2), .val (.int ((p0 &&& (2147483647 : Int32)) % (21 : Int32))), .val (.ref b1), .val (.ref r108), .val (.int (1 : Int32))] [(.int (1 : Int32)), (.int (1 : Int32))])) _
    refine XS.iand X187.here hx rfl (hb hby at_461) rfl ?_
    show Steps p.tables e below (T187.setTop (mkF m 462 #[.val (.int p0), .val (.int p1), .val (.int p2), .val (.int ((p0 &&& (2147483647 : Int32)) % (21 : Int32))), .val (.ref b1), .val (.ref r108), .val (.int (1 : Int32))] [(.int (1 : Int32))])) _
    refine XS.istore X187.here hx rfl (hb hby at_462) rfl (l' := #[.val (.int p0), .val (.int p1), .val (.int p2), .val (.int ((p0 &&& (2147483647 : Int32)) % (21 : Int32))), .val (.ref b1), .val (.ref r108), .val (.int (1 : Int32))]) rfl ?_
    show Steps p.tables e below (T187.setTop (mkF m 464 #[.val (.int p0), .val (.int p1), .val (.int p2), .val (.int ((p0 &&& (2147483647 : Int32)) % (21 : Int32))), .val (.ref b1), .val (.ref r108), .val (.int (1 : Int32))] [])) _
    refine XS.iload X187.here hx rfl (hb hby at_464) rfl ?_
    show Steps p.tables e below (T187.setTop (mkF m 466 #[.val (.int p0), .val (.int p1), .val (.int p2), .val (.int ((p0 &&& (2147483647 : Int32)) % (21 : Int32))), .val (.ref b1), .val (.ref r108), .val (.int (1 : Int32))] [(.int (1 : Int32))])) _
    refine XS.aload X187.here hx rfl (hb hby at_466) rfl rfl ?_
    show Steps p.tables e below (T187.setTop (mkF m 468 #[.val (.int p0), .val (.int p1), .val (.int p2), .val (.int ((p0 &&& (2147483647 : Int32)) % (21 : Int32))), .val (.ref b1), .val (.ref r108), .val (.int (1 : Int32))] [(.ref r108), (.int (1 : Int32))])) _
    refine XS.iloadN X187.here hx rfl (hb hby at_468) rfl ?_
    show Steps p.tables e below (T187.setTop (mkF m 469 #[.val (.int p0), .val (.int p1), .val (.int p2), .val (.int ((p0 &&& (2147483647 : Int32)) % (21 : Int32))), .val (.ref b1), .val (.ref r108), .val (.int (1 : Int32))] [(.int ((p0 &&& (2147483647 : Int32)) % (21 : Int32))), (.ref r108), (.int (1 : Int32))])) _
    refine XS.bipush X187.here hx rfl (hb hby at_469) ?_
    show Steps p.tables e below (T187.setTop (mkF m 471 #[.val (.int p0), .val (.int p1), .val (.int p2), .val (.int ((p0 &&& (2147483647 : Int32)) % (21 : Int32))), .val (.ref b1), .val (.ref r108), .val (.int (1 : Int32))] [(.int (16 : Int32)), (.int ((p0 &&& (2147483647 : Int32)) % (21 : Int32))), (.ref r108), (.int (1 : Int32))])) _
    refine XS.iloadN X187.here hx rfl (hb hby at_471) rfl ?_
    exact kt
  have zs191 : n0 ≤ T106.heap.size := Nat.le_trans Z0 k110.1
  obtain ⟨_, _, ⟨T192, L192, k192, n192⟩, -, X192, ⟨Lc192, hQ192, l192, y192, z192⟩, st192⟩ := Jvm.LawKit.callS X187 hx (y := (⟨"com/example/interleaving/interleaving/store/StateGraphAddInitialPinLaw", "at", "([IIIII)Z"⟩ : MethodName)) hown (mvT hZ (hw _ (List.mem_of_getElem? (i := 42) rfl))) (mvT hZ (hw _ (List.mem_of_getElem? (i := 43) rfl))) (mvT hZ (hw _ (List.mem_of_getElem? (i := 21) rfl))) (mvT hZ (hw _ (List.mem_of_getElem? (i := 44) rfl))) (by decide) (backOf (W := 1) (own_rm_at l Z a0 hw [] r108 ((p0 &&& (2147483647 : Int32)) % (21 : Int32)) (16 : Int32) p1 p2 nn 16 fF T106.heap n0 zs191 c108_1 hn hnn rfl (by decide) hfF) hZ (hw _ (List.mem_of_getElem? (i := 44) rfl)) (hw _ (List.mem_of_getElem? (i := 21) rfl)) (by decide) (by decide)) (g := (mkF m 473 #[.val (.int p0), .val (.int p1), .val (.int p2), .val (.int ((p0 &&& (2147483647 : Int32)) % (21 : Int32))), .val (.ref b1), .val (.ref r108), .val (.int (1 : Int32))] [(.int p2), (.int p1), (.int (16 : Int32)), (.int ((p0 &&& (2147483647 : Int32)) % (21 : Int32))), (.ref r108), (.int (1 : Int32))])) rfl (by rw [hml]; rfl) (argsL := [(.ref r108), (.int ((p0 &&& (2147483647 : Int32)) % (21 : Int32))), (.int (16 : Int32)), (.int p1), (.int p2)]) (rest := [(.int (1 : Int32))]) (lenOf own_pd7 rfl) rfl (by show 2 * 0 + _ ≤ _; exact Nat.le_of_eq rfl) (hb hby at_473) (fun _ _ => ⟨rfl, eq188, (by decide : 6 + 0 ≤ _), (by decide : 2136 + 0 ≤ _)⟩)
  dsimp only [Pt.U, Pt.locs, Pt.cells, Pt.slots] at X192 l192 y192 z192 st192 hQ192
  rw [l192, (y192 : k192 = 6), (z192 : n192 = 2136)] at X192
  clear l192 y192 z192
  obtain ⟨rfl, N193, eq193⟩ := hQ192
  have nf194 := Fr.app nf189 N193
  have zs195 : n0 ≤ T106.heap.size := Nat.le_trans Z0 k110.1
  obtain ⟨_, _, ⟨T196, L196, k196, n196⟩, -, X196, ⟨Lc196, hQ196, l196, y196, z196⟩, st196⟩ := Jvm.LawKit.callS X192 hx (y := (⟨"com/example/interleaving/interleaving/store/StateGraphAddInitialPinLaw", "at", "([IIIII)Z"⟩ : MethodName)) hown (mvT hZ (hw _ (List.mem_of_getElem? (i := 42) rfl))) (mvT hZ (hw _ (List.mem_of_getElem? (i := 43) rfl))) (mvT hZ (hw _ (List.mem_of_getElem? (i := 21) rfl))) (mvT hZ (hw _ (List.mem_of_getElem? (i := 44) rfl))) (by decide) (backOf (W := 1) (own_rm_at l Z a0 hw [] r108 ((p0 &&& (2147483647 : Int32)) % (21 : Int32)) (17 : Int32) p1 p2 nn 17 fF T106.heap n0 zs195 c108_1 hn hnn rfl (by decide) hfF) hZ (hw _ (List.mem_of_getElem? (i := 44) rfl)) (hw _ (List.mem_of_getElem? (i := 21) rfl)) (by decide) (by decide)) (g := (mkF m 488 #[.val (.int p0), .val (.int p1), .val (.int p2), .val (.int ((p0 &&& (2147483647 : Int32)) % (21 : Int32))), .val (.ref b1), .val (.ref r108), .val (.int (1 : Int32))] [(.int p2), (.int p1), (.int (17 : Int32)), (.int ((p0 &&& (2147483647 : Int32)) % (21 : Int32))), (.ref r108), (.int (1 : Int32))])) rfl (by rw [hml]; rfl) (argsL := [(.ref r108), (.int ((p0 &&& (2147483647 : Int32)) % (21 : Int32))), (.int (17 : Int32)), (.int p1), (.int p2)]) (rest := [(.int (1 : Int32))]) (lenOf own_pd7 rfl) rfl (by show 2 * 0 + _ ≤ _; exact Nat.le_of_eq rfl) (hb hby at_488) (fun _ _ => ⟨rfl, eq193, (by decide : 6 + 0 ≤ _), (by decide : 2136 + 0 ≤ _)⟩)
  dsimp only [Pt.U, Pt.locs, Pt.cells, Pt.slots] at X196 l196 y196 z196 st196 hQ196
  rw [l196, (y196 : k196 = 6), (z196 : n196 = 2136)] at X196
  clear l196 y196 z196
  obtain ⟨rfl, N197, eq197⟩ := hQ196
  have nf198 := Fr.app nf194 N197
  have pre199 : ∀ t, Steps p.tables e below (T196.setTop (mkF m 492 #[.val (.int p0), .val (.int p1), .val (.int p2), .val (.int ((p0 &&& (2147483647 : Int32)) % (21 : Int32))), .val (.ref b1), .val (.ref r108), .val (.int (1 : Int32))] [(.int (1 : Int32))])) t → Steps p.tables e below (s₁.setTop (entryFrame m #[(.int p0), (.int p1), (.int p2)] maxLocals)) t := by
    intro t kt
    refine pre190 t ?_
    show Steps p.tables e below (T187.setTop (mkF m 472 #[.val (.int p0), .val (.int p1), .val (.int p2), .val (.int ((p0 &&& (2147483647 : Int32)) % (21 : Int32))), .val (.ref b1), .val (.ref r108), .val (.int (1 : Int32))] [(.int p1), (.int (16 : Int32)), (.int ((p0 &&& (2147483647 : Int32)) % (21 : Int32))), (.ref r108), (.int (1 : Int32))])) _
    refine XS.iloadN X187.here hx rfl (hb hby at_472) rfl ?_
    show Steps p.tables e below (T187.setTop (mkF m 473 #[.val (.int p0), .val (.int p1), .val (.int p2), .val (.int ((p0 &&& (2147483647 : Int32)) % (21 : Int32))), .val (.ref b1), .val (.ref r108), .val (.int (1 : Int32))] [(.int p2), (.int p1), (.int (16 : Int32)), (.int ((p0 &&& (2147483647 : Int32)) % (21 : Int32))), (.ref r108), (.int (1 : Int32))])) _
    refine st192 _ ?_
    show Steps p.tables e below (T192.setTop (mkF m 476 #[.val (.int p0), .val (.int p1), .val (.int p2), .val (.int ((p0 &&& (2147483647 : Int32)) % (21 : Int32))), .val (.ref b1), .val (.ref r108), .val (.int (1 : Int32))] [(.int (1 : Int32)), (.int (1 : Int32))])) _
    refine XS.iand X192.here hx rfl (hb hby at_476) rfl ?_
    show Steps p.tables e below (T192.setTop (mkF m 477 #[.val (.int p0), .val (.int p1), .val (.int p2), .val (.int ((p0 &&& (2147483647 : Int32)) % (21 : Int32))), .val (.ref b1), .val (.ref r108), .val (.int (1 : Int32))] [(.int (1 : Int32))])) _
    refine XS.istore X192.here hx rfl (hb hby at_477) rfl (l' := #[.val (.int p0), .val (.int p1), .val (.int p2), .val (.int ((p0 &&& (2147483647 : Int32)) % (21 : Int32))), .val (.ref b1), .val (.ref r108), .val (.int (1 : Int32))]) rfl ?_
    show Steps p.tables e below (T192.setTop (mkF m 479 #[.val (.int p0), .val (.int p1), .val (.int p2), .val (.int ((p0 &&& (2147483647 : Int32)) % (21 : Int32))), .val (.ref b1), .val (.ref r108), .val (.int (1 : Int32))] [])) _
    refine XS.iload X192.here hx rfl (hb hby at_479) rfl ?_
    show Steps p.tables e below (T192.setTop (mkF m 481 #[.val (.int p0), .val (.int p1), .val (.int p2), .val (.int ((p0 &&& (2147483647 : Int32)) % (21 : Int32))), .val (.ref b1), .val (.ref r108), .val (.int (1 : Int32))] [(.int (1 : Int32))])) _
    refine XS.aload X192.here hx rfl (hb hby at_481) rfl rfl ?_
    show Steps p.tables e below (T192.setTop (mkF m 483 #[.val (.int p0), .val (.int p1), .val (.int p2), .val (.int ((p0 &&& (2147483647 : Int32)) % (21 : Int32))), .val (.ref b1), .val (.ref r108), .val (.int (1 : Int32))] [(.ref r108), (.int (1 : Int32))])) _
    refine XS.iloadN X192.here hx rfl (hb hby at_483) rfl ?_
    show Steps p.tables e below (T192.setTop (mkF m 484 #[.val (.int p0), .val (.int p1), .val (.int p2), .val (.int ((p0 &&& (2147483647 : Int32)) % (21 : Int32))), .val (.ref b1), .val (.ref r108), .val (.int (1 : Int32))] [(.int ((p0 &&& (2147483647 : Int32)) % (21 : Int32))), (.ref r108), (.int (1 : Int32))])) _
    refine XS.bipush X192.here hx rfl (hb hby at_484) ?_
    show Steps p.tables e below (T192.setTop (mkF m 486 #[.val (.int p0), .val (.int p1), .val (.int p2), .val (.int ((p0 &&& (2147483647 : Int32)) % (21 : Int32))), .val (.ref b1), .val (.ref r108), .val (.int (1 : Int32))] [(.int (17 : Int32)), (.int ((p0 &&& (2147483647 : Int32)) % (21 : Int32))), (.ref r108), (.int (1 : Int32))])) _
    refine XS.iloadN X192.here hx rfl (hb hby at_486) rfl ?_
    show Steps p.tables e below (T192.setTop (mkF m 487 #[.val (.int p0), .val (.int p1), .val (.int p2), .val (.int ((p0 &&& (2147483647 : Int32)) % (21 : Int32))), .val (.ref b1), .val (.ref r108), .val (.int (1 : Int32))] [(.int p1), (.int (17 : Int32)), (.int ((p0 &&& (2147483647 : Int32)) % (21 : Int32))), (.ref r108), (.int (1 : Int32))])) _
    refine XS.iloadN X192.here hx rfl (hb hby at_487) rfl ?_
    show Steps p.tables e below (T192.setTop (mkF m 488 #[.val (.int p0), .val (.int p1), .val (.int p2), .val (.int ((p0 &&& (2147483647 : Int32)) % (21 : Int32))), .val (.ref b1), .val (.ref r108), .val (.int (1 : Int32))] [(.int p2), (.int p1), (.int (17 : Int32)), (.int ((p0 &&& (2147483647 : Int32)) % (21 : Int32))), (.ref r108), (.int (1 : Int32))])) _
    refine st196 _ ?_
    show Steps p.tables e below (T196.setTop (mkF m 491 #[.val (.int p0), .val (.int p1), .val (.int p2), .val (.int ((p0 &&& (2147483647 : Int32)) % (21 : Int32))), .val (.ref b1), .val (.ref r108), .val (.int (1 : Int32))] [(.int (1 : Int32)), (.int (1 : Int32))])) _
    refine XS.iand X196.here hx rfl (hb hby at_491) rfl ?_
    exact kt
  have zs200 : n0 ≤ T106.heap.size := Nat.le_trans Z0 k110.1
  obtain ⟨_, _, ⟨T201, L201, k201, n201⟩, -, X201, ⟨Lc201, hQ201, l201, y201, z201⟩, st201⟩ := Jvm.LawKit.callS X196 hx (y := (⟨"com/example/interleaving/interleaving/store/StateGraphAddInitialPinLaw", "at", "([IIIII)Z"⟩ : MethodName)) hown (mvT hZ (hw _ (List.mem_of_getElem? (i := 42) rfl))) (mvT hZ (hw _ (List.mem_of_getElem? (i := 43) rfl))) (mvT hZ (hw _ (List.mem_of_getElem? (i := 21) rfl))) (mvT hZ (hw _ (List.mem_of_getElem? (i := 44) rfl))) (by decide) (backOf (W := 1) (own_rm_at l Z a0 hw [] r108 ((p0 &&& (2147483647 : Int32)) % (21 : Int32)) (18 : Int32) p1 p2 nn 18 fF T106.heap n0 zs200 c108_1 hn hnn rfl (by decide) hfF) hZ (hw _ (List.mem_of_getElem? (i := 44) rfl)) (hw _ (List.mem_of_getElem? (i := 21) rfl)) (by decide) (by decide)) (g := (mkF m 503 #[.val (.int p0), .val (.int p1), .val (.int p2), .val (.int ((p0 &&& (2147483647 : Int32)) % (21 : Int32))), .val (.ref b1), .val (.ref r108), .val (.int (1 : Int32))] [(.int p2), (.int p1), (.int (18 : Int32)), (.int ((p0 &&& (2147483647 : Int32)) % (21 : Int32))), (.ref r108), (.int (1 : Int32))])) rfl (by rw [hml]; rfl) (argsL := [(.ref r108), (.int ((p0 &&& (2147483647 : Int32)) % (21 : Int32))), (.int (18 : Int32)), (.int p1), (.int p2)]) (rest := [(.int (1 : Int32))]) (lenOf own_pd7 rfl) rfl (by show 2 * 0 + _ ≤ _; exact Nat.le_of_eq rfl) (hb hby at_503) (fun _ _ => ⟨rfl, eq197, (by decide : 6 + 0 ≤ _), (by decide : 2136 + 0 ≤ _)⟩)
  dsimp only [Pt.U, Pt.locs, Pt.cells, Pt.slots] at X201 l201 y201 z201 st201 hQ201
  rw [l201, (y201 : k201 = 6), (z201 : n201 = 2136)] at X201
  clear l201 y201 z201
  obtain ⟨rfl, N202, eq202⟩ := hQ201
  have nf203 := Fr.app nf198 N202
  have pre204 : ∀ t, Steps p.tables e below (T201.setTop (mkF m 513 #[.val (.int p0), .val (.int p1), .val (.int p2), .val (.int ((p0 &&& (2147483647 : Int32)) % (21 : Int32))), .val (.ref b1), .val (.ref r108), .val (.int (1 : Int32))] [(.ref r108), (.int (1 : Int32))])) t → Steps p.tables e below (s₁.setTop (entryFrame m #[(.int p0), (.int p1), (.int p2)] maxLocals)) t := by
    intro t kt
    refine pre199 t ?_
    show Steps p.tables e below (T196.setTop (mkF m 492 #[.val (.int p0), .val (.int p1), .val (.int p2), .val (.int ((p0 &&& (2147483647 : Int32)) % (21 : Int32))), .val (.ref b1), .val (.ref r108), .val (.int (1 : Int32))] [(.int (1 : Int32))])) _
    refine XS.istore X196.here hx rfl (hb hby at_492) rfl (l' := #[.val (.int p0), .val (.int p1), .val (.int p2), .val (.int ((p0 &&& (2147483647 : Int32)) % (21 : Int32))), .val (.ref b1), .val (.ref r108), .val (.int (1 : Int32))]) rfl ?_
    show Steps p.tables e below (T196.setTop (mkF m 494 #[.val (.int p0), .val (.int p1), .val (.int p2), .val (.int ((p0 &&& (2147483647 : Int32)) % (21 : Int32))), .val (.ref b1), .val (.ref r108), .val (.int (1 : Int32))] [])) _
    refine XS.iload X196.here hx rfl (hb hby at_494) rfl ?_
    show Steps p.tables e below (T196.setTop (mkF m 496 #[.val (.int p0), .val (.int p1), .val (.int p2), .val (.int ((p0 &&& (2147483647 : Int32)) % (21 : Int32))), .val (.ref b1), .val (.ref r108), .val (.int (1 : Int32))] [(.int (1 : Int32))])) _
    refine XS.aload X196.here hx rfl (hb hby at_496) rfl rfl ?_
    show Steps p.tables e below (T196.setTop (mkF m 498 #[.val (.int p0), .val (.int p1), .val (.int p2), .val (.int ((p0 &&& (2147483647 : Int32)) % (21 : Int32))), .val (.ref b1), .val (.ref r108), .val (.int (1 : Int32))] [(.ref r108), (.int (1 : Int32))])) _
    refine XS.iloadN X196.here hx rfl (hb hby at_498) rfl ?_
    show Steps p.tables e below (T196.setTop (mkF m 499 #[.val (.int p0), .val (.int p1), .val (.int p2), .val (.int ((p0 &&& (2147483647 : Int32)) % (21 : Int32))), .val (.ref b1), .val (.ref r108), .val (.int (1 : Int32))] [(.int ((p0 &&& (2147483647 : Int32)) % (21 : Int32))), (.ref r108), (.int (1 : Int32))])) _
    refine XS.bipush X196.here hx rfl (hb hby at_499) ?_
    show Steps p.tables e below (T196.setTop (mkF m 501 #[.val (.int p0), .val (.int p1), .val (.int p2), .val (.int ((p0 &&& (2147483647 : Int32)) % (21 : Int32))), .val (.ref b1), .val (.ref r108), .val (.int (1 : Int32))] [(.int (18 : Int32)), (.int ((p0 &&& (2147483647 : Int32)) % (21 : Int32))), (.ref r108), (.int (1 : Int32))])) _
    refine XS.iloadN X196.here hx rfl (hb hby at_501) rfl ?_
    show Steps p.tables e below (T196.setTop (mkF m 502 #[.val (.int p0), .val (.int p1), .val (.int p2), .val (.int ((p0 &&& (2147483647 : Int32)) % (21 : Int32))), .val (.ref b1), .val (.ref r108), .val (.int (1 : Int32))] [(.int p1), (.int (18 : Int32)), (.int ((p0 &&& (2147483647 : Int32)) % (21 : Int32))), (.ref r108), (.int (1 : Int32))])) _
    refine XS.iloadN X196.here hx rfl (hb hby at_502) rfl ?_
    show Steps p.tables e below (T196.setTop (mkF m 503 #[.val (.int p0), .val (.int p1), .val (.int p2), .val (.int ((p0 &&& (2147483647 : Int32)) % (21 : Int32))), .val (.ref b1), .val (.ref r108), .val (.int (1 : Int32))] [(.int p2), (.int p1), (.int (18 : Int32)), (.int ((p0 &&& (2147483647 : Int32)) % (21 : Int32))), (.ref r108), (.int (1 : Int32))])) _
    refine st201 _ ?_
    show Steps p.tables e below (T201.setTop (mkF m 506 #[.val (.int p0), .val (.int p1), .val (.int p2), .val (.int ((p0 &&& (2147483647 : Int32)) % (21 : Int32))), .val (.ref b1), .val (.ref r108), .val (.int (1 : Int32))] [(.int (1 : Int32)), (.int (1 : Int32))])) _
    refine XS.iand X201.here hx rfl (hb hby at_506) rfl ?_
    show Steps p.tables e below (T201.setTop (mkF m 507 #[.val (.int p0), .val (.int p1), .val (.int p2), .val (.int ((p0 &&& (2147483647 : Int32)) % (21 : Int32))), .val (.ref b1), .val (.ref r108), .val (.int (1 : Int32))] [(.int (1 : Int32))])) _
    refine XS.istore X201.here hx rfl (hb hby at_507) rfl (l' := #[.val (.int p0), .val (.int p1), .val (.int p2), .val (.int ((p0 &&& (2147483647 : Int32)) % (21 : Int32))), .val (.ref b1), .val (.ref r108), .val (.int (1 : Int32))]) rfl ?_
    show Steps p.tables e below (T201.setTop (mkF m 509 #[.val (.int p0), .val (.int p1), .val (.int p2), .val (.int ((p0 &&& (2147483647 : Int32)) % (21 : Int32))), .val (.ref b1), .val (.ref r108), .val (.int (1 : Int32))] [])) _
    refine XS.iload X201.here hx rfl (hb hby at_509) rfl ?_
    show Steps p.tables e below (T201.setTop (mkF m 511 #[.val (.int p0), .val (.int p1), .val (.int p2), .val (.int ((p0 &&& (2147483647 : Int32)) % (21 : Int32))), .val (.ref b1), .val (.ref r108), .val (.int (1 : Int32))] [(.int (1 : Int32))])) _
    refine XS.aload X201.here hx rfl (hb hby at_511) rfl rfl ?_
    exact kt
  have zs205 : n0 ≤ T106.heap.size := Nat.le_trans Z0 k110.1
  obtain ⟨_, _, ⟨T206, L206, k206, n206⟩, -, X206, ⟨Lc206, hQ206, l206, y206, z206⟩, st206⟩ := Jvm.LawKit.callS X201 hx (y := (⟨"com/example/interleaving/interleaving/store/StateGraphAddInitialPinLaw", "at", "([IIIII)Z"⟩ : MethodName)) hown (mvT hZ (hw _ (List.mem_of_getElem? (i := 42) rfl))) (mvT hZ (hw _ (List.mem_of_getElem? (i := 43) rfl))) (mvT hZ (hw _ (List.mem_of_getElem? (i := 21) rfl))) (mvT hZ (hw _ (List.mem_of_getElem? (i := 44) rfl))) (by decide) (backOf (W := 1) (own_rm_at l Z a0 hw [] r108 ((p0 &&& (2147483647 : Int32)) % (21 : Int32)) (19 : Int32) p1 p2 nn 19 fF T106.heap n0 zs205 c108_1 hn hnn rfl (by decide) hfF) hZ (hw _ (List.mem_of_getElem? (i := 44) rfl)) (hw _ (List.mem_of_getElem? (i := 21) rfl)) (by decide) (by decide)) (g := (mkF m 518 #[.val (.int p0), .val (.int p1), .val (.int p2), .val (.int ((p0 &&& (2147483647 : Int32)) % (21 : Int32))), .val (.ref b1), .val (.ref r108), .val (.int (1 : Int32))] [(.int p2), (.int p1), (.int (19 : Int32)), (.int ((p0 &&& (2147483647 : Int32)) % (21 : Int32))), (.ref r108), (.int (1 : Int32))])) rfl (by rw [hml]; rfl) (argsL := [(.ref r108), (.int ((p0 &&& (2147483647 : Int32)) % (21 : Int32))), (.int (19 : Int32)), (.int p1), (.int p2)]) (rest := [(.int (1 : Int32))]) (lenOf own_pd7 rfl) rfl (by show 2 * 0 + _ ≤ _; exact Nat.le_of_eq rfl) (hb hby at_518) (fun _ _ => ⟨rfl, eq202, (by decide : 6 + 0 ≤ _), (by decide : 2136 + 0 ≤ _)⟩)
  dsimp only [Pt.U, Pt.locs, Pt.cells, Pt.slots] at X206 l206 y206 z206 st206 hQ206
  rw [l206, (y206 : k206 = 6), (z206 : n206 = 2136)] at X206
  clear l206 y206 z206
  obtain ⟨rfl, N207, eq207⟩ := hQ206
  have nf208 := Fr.app nf203 N207
  have pre209 : ∀ t, Steps p.tables e below (T206.setTop (mkF m 526 #[.val (.int p0), .val (.int p1), .val (.int p2), .val (.int ((p0 &&& (2147483647 : Int32)) % (21 : Int32))), .val (.ref b1), .val (.ref r108), .val (.int (1 : Int32))] [(.int (1 : Int32))])) t → Steps p.tables e below (s₁.setTop (entryFrame m #[(.int p0), (.int p1), (.int p2)] maxLocals)) t := by
    intro t kt
    refine pre204 t ?_
    show Steps p.tables e below (T201.setTop (mkF m 513 #[.val (.int p0), .val (.int p1), .val (.int p2), .val (.int ((p0 &&& (2147483647 : Int32)) % (21 : Int32))), .val (.ref b1), .val (.ref r108), .val (.int (1 : Int32))] [(.ref r108), (.int (1 : Int32))])) _
    refine XS.iloadN X201.here hx rfl (hb hby at_513) rfl ?_
    show Steps p.tables e below (T201.setTop (mkF m 514 #[.val (.int p0), .val (.int p1), .val (.int p2), .val (.int ((p0 &&& (2147483647 : Int32)) % (21 : Int32))), .val (.ref b1), .val (.ref r108), .val (.int (1 : Int32))] [(.int ((p0 &&& (2147483647 : Int32)) % (21 : Int32))), (.ref r108), (.int (1 : Int32))])) _
    refine XS.bipush X201.here hx rfl (hb hby at_514) ?_
    show Steps p.tables e below (T201.setTop (mkF m 516 #[.val (.int p0), .val (.int p1), .val (.int p2), .val (.int ((p0 &&& (2147483647 : Int32)) % (21 : Int32))), .val (.ref b1), .val (.ref r108), .val (.int (1 : Int32))] [(.int (19 : Int32)), (.int ((p0 &&& (2147483647 : Int32)) % (21 : Int32))), (.ref r108), (.int (1 : Int32))])) _
    refine XS.iloadN X201.here hx rfl (hb hby at_516) rfl ?_
    show Steps p.tables e below (T201.setTop (mkF m 517 #[.val (.int p0), .val (.int p1), .val (.int p2), .val (.int ((p0 &&& (2147483647 : Int32)) % (21 : Int32))), .val (.ref b1), .val (.ref r108), .val (.int (1 : Int32))] [(.int p1), (.int (19 : Int32)), (.int ((p0 &&& (2147483647 : Int32)) % (21 : Int32))), (.ref r108), (.int (1 : Int32))])) _
    refine XS.iloadN X201.here hx rfl (hb hby at_517) rfl ?_
    show Steps p.tables e below (T201.setTop (mkF m 518 #[.val (.int p0), .val (.int p1), .val (.int p2), .val (.int ((p0 &&& (2147483647 : Int32)) % (21 : Int32))), .val (.ref b1), .val (.ref r108), .val (.int (1 : Int32))] [(.int p2), (.int p1), (.int (19 : Int32)), (.int ((p0 &&& (2147483647 : Int32)) % (21 : Int32))), (.ref r108), (.int (1 : Int32))])) _
    refine st206 _ ?_
    show Steps p.tables e below (T206.setTop (mkF m 521 #[.val (.int p0), .val (.int p1), .val (.int p2), .val (.int ((p0 &&& (2147483647 : Int32)) % (21 : Int32))), .val (.ref b1), .val (.ref r108), .val (.int (1 : Int32))] [(.int (1 : Int32)), (.int (1 : Int32))])) _
    refine XS.iand X206.here hx rfl (hb hby at_521) rfl ?_
    show Steps p.tables e below (T206.setTop (mkF m 522 #[.val (.int p0), .val (.int p1), .val (.int p2), .val (.int ((p0 &&& (2147483647 : Int32)) % (21 : Int32))), .val (.ref b1), .val (.ref r108), .val (.int (1 : Int32))] [(.int (1 : Int32))])) _
    refine XS.istore X206.here hx rfl (hb hby at_522) rfl (l' := #[.val (.int p0), .val (.int p1), .val (.int p2), .val (.int ((p0 &&& (2147483647 : Int32)) % (21 : Int32))), .val (.ref b1), .val (.ref r108), .val (.int (1 : Int32))]) rfl ?_
    show Steps p.tables e below (T206.setTop (mkF m 524 #[.val (.int p0), .val (.int p1), .val (.int p2), .val (.int ((p0 &&& (2147483647 : Int32)) % (21 : Int32))), .val (.ref b1), .val (.ref r108), .val (.int (1 : Int32))] [])) _
    refine XS.iload X206.here hx rfl (hb hby at_524) rfl ?_
    exact kt
  obtain ⟨fs, hr, hrun, hended, hW, hsame⟩ := X206.leave (v := some (.int (1 : Int32))) (fun h => by rw [Bd.returns] at h; cases h)
  refine ⟨_, _, pre209 _ ?_, hrun, hended, _, _, rfl, ?_, ⟨_, rfl⟩, hW, hsame.mono (by decide) (by decide)⟩
  · show Steps p.tables e below (T206.setTop (mkF m 526 #[.val (.int p0), .val (.int p1), .val (.int p2), .val (.int ((p0 &&& (2147483647 : Int32)) % (21 : Int32))), .val (.ref b1), .val (.ref r108), .val (.int (1 : Int32))] [(.int (1 : Int32))])) _
    exact retN X206 hx (t := .boolean) Bd.returns (by simp) (hb hby at_526) hr
  · show own_Q_law Z p0 p1 p2 h0 n0 (some (.int (1 : Int32))) T206.heap _
    rw [eq207]
    exact ⟨rfl, nf208⟩
set_option maxRecDepth 65536 in
set_option maxHeartbeats 40000000 in
theorem own_comes {Post : Tables → Env → Array Value → State → Outcome → State → Prop} (hpost : ∀ tb e args s v u, (limb_1_1.after args s (.returned v) u = true ∧ limb_1_2.after args s (.returned v) u = true ∧ True) → FrameEnd s (.returned v) u (Jvm.fieldLocs frame_1_writes args s ++ Jvm.arrayLocs frame_1_arrays args s ++ Jvm.staticLocs frame_1_statics s) 24 4352 → Post tb e args s (.returned v) u) :
    ArmFor flags0 classFile x code maxLocals ret World_1 tables_1 room_1 Calls_1 rest_1 Pre_1 Post := by
  intro l hfl _ _ p e ha hc hk s m args below hf hA hF happ hP
  obtain ⟨hcalls, hrest, hpre⟩ := hP
  obtain ⟨-, -, -, hnamed, -, -, -, hat⟩ := (Spec.applies_iff hf).mp happ
  obtain ⟨hg, hn⟩ := and_e (Cond.before_iff.mp (show (Jvm.Cond.and given_1 narrow_1).before args s = true from hpre))
  obtain ⟨hcount, hq0⟩ := and_e hg
  obtain ⟨hi0, hq1⟩ := and_e hq0
  obtain ⟨hi1, hq2⟩ := and_e hq1
  have hi2 := hq2
  obtain ⟨w0, w1, w2, rfl⟩ : ∃ w0 w1 w2 : Value, args = #[w0, w1, w2] := by
    have hs : args.size = 3 := by simpa [Cond.value, given_1] using hcount
    obtain ⟨L⟩ := args
    match L, hs with
    | [w0, w1, w2], _ => exact ⟨w0, w1, w2, rfl⟩
  have hw := fun d (hd : d ∈ tables_1) => atoms_spec (ws := Jvm.Cond.code x code maxLocals ret :: tables_1) hat d (List.mem_cons_of_mem _ hd)
  have hfit : Fit s := fun {y c} hc i hi => by
    obtain ⟨ha, rfl⟩ := Array.getElem?_eq_some_iff.mp hc
    have q := List.all_eq_true.mp ((Array.all_eq_true_iff_forall_mem.mp hF) _ (Array.getElem_mem ha)) i (List.mem_range.mpr hi)
    simpa [Array.getElem?_eq_getElem hi] using q
  obtain ⟨i0, ei0⟩ := is_v hi0
  obtain rfl : w0 = (.int i0) := Option.some.inj ei0
  obtain ⟨i1, ei1⟩ := is_v hi1
  obtain rfl : w1 = (.int i1) := Option.some.inj ei1
  obtain ⟨i2, ei2⟩ := is_v hi2
  obtain rfl : w2 = (.int i2) := Option.some.inj ei2
  obtain ⟨n, o, h1, h2, h3, _, L, rfl, ⟨rfl, N⟩, hq⟩ := own_rm_law l s _ hw tables_1 i0 i1 i2  s.heap s.heap.size (Nat.le_refl _) rfl p e ha hc hk s m _ below hf ((Spec.applies_iff_loose hf).mp happ).1 ⟨rfl, State.Warmed39.refl s, rfl⟩ trivial
  refine ⟨n, _, h1, h2, h3, hpost _ _ _ _ _ _ ⟨Cond.after_iff.mpr rfl, Cond.after_iff.mpr (eq_i res_at (Term.int_eval (1)) rfl), trivial⟩ ⟨hq.1, hq.2.1, (hq.2.2.sift fun y hy => Or.inr (N y hy)).mono (by decide) (by decide)⟩⟩
theorem main_1_1 : Claimed_1_1 := own_comes fun _ _ _ _ _ _ h hF => ⟨h.1, hF⟩
theorem main_1_2 : Claimed_1_2 := own_comes fun _ _ _ _ _ _ h hF => ⟨h.2.1, hF⟩
end Jvm.Pilot.@@N@@
namespace Jvm.Pilot.@@N@@
open Jvm Jvm.ClassFile Sem Op Lib Jvm.Free Jvm.Stand Jvm.Pilot.@@N@@.Jvm.D
/-! MADE BY PROGRAM (witnessworld.py) out of the Statement's table words and the real class files: 12 classes; the members and pool entries that the words name. The judged class is class 1, her method 1. -/
namespace start1
open Jvm.ClassFile
def u (s : String) : CpInfo := .utf8 (stringToUtf16 s)
/-- a pool by its gaps: so many unusable entries, then the entry; so many at the end -/
def gap : Nat → List CpInfo → List CpInfo
  | 0, r => r
  | n + 1, r => .unusable :: gap n r
def poolList (es : List (Nat × CpInfo)) (last : Nat) : List CpInfo := es.foldr (fun e r => gap e.1 (e.2 :: r)) (gap last [])
def pool (es : List (Nat × CpInfo)) (last : Nat) : Array CpInfo := ⟨poolList es last⟩
def fileOf (pool : Array CpInfo) (this : Nat) (attrs : Array Attribute := #[]) (ms : Array MethodInfo := #[]) (fl : Nat := 33) (sup : Nat := 0) (ifs : Array Nat := #[]) (fds : Array FieldInfo := #[]) : ClassFile where
  minorVersion := 0
  majorVersion := 65
  constantPool := pool
  accessFlags := fl
  thisClass := this
  superClass := sup
  interfaces := ifs
  fields := fds
  methods := ms
  attributes := attrs
def plain (name : String) (sup : Option ClassId) : Class where
  name := name
  kind := .ordinary
  loader := none
  accessFlags := 33
  super := sup
  interfaces := #[]
  cf := none
  fields := #[]
  methods := #[]
  instanceTypes := #[]
  staticTypes := #[]
  resolved := #[]
  callSites := []
  init := .initialized
  statics := none
  mirror := none

def pool0 : Array CpInfo := pool [(5, u "<init>"), (0, u "()V"), (1, .class_ 10), (1, u "java/lang/Object"), (85, u "clone"), (0, u "()Ljava/lang/Object;")] 26

def k0c0 : Code := { maxStack := 0, maxLocals := 1, code := object_method_1_code, exceptionTable := #[], attributes := #[] }
def k0m0 : Method := { name := "<init>", desc := "()V", sig := { parameters := [], returnType := none }, accessFlags := 1, code := some k0c0 }
def k0m1 : Method := { name := "clone", desc := "()Ljava/lang/Object;", sig := { parameters := [], returnType := some (.object "java/lang/Object") }, accessFlags := 260, code := none }
/-- java/lang/Object -/
def k0 : Class := { plain "java/lang/Object" none with
  accessFlags := 33
  interfaces := #[]
  cf := some (fileOf pool0 8 #[] #[{ accessFlags := 1, nameIndex := 5, descriptorIndex := 6, attributes := #[] }, { accessFlags := 260, nameIndex := 96, descriptorIndex := 97, attributes := #[] }] 33 0 #[] #[])
  fields := #[]
  methods := #[k0m0, k0m1]
  instanceTypes := #[]
  staticTypes := #[]
  resolved := Array.replicate 124 none
  statics := none }

def pool1 : Array CpInfo := pool [(2, .class_ 4), (0, .nameAndType 5 6), (0, u "java/lang/Object"), (0, u "<init>"), (0, u "()V"), (0, .integer 2147483647), (0, .class_ 9), (0, u "com/example/interleaving/interleaving/store/StateGraph"), (0, .methodref 8 3), (0, .methodref 12 13), (0, .class_ 14), (0, .nameAndType 15 16), (0, u "com/example/interleaving/interleaving/store/StateGraphAddInitialPinLaw"), (0, u "add"), (0, u "(Lcom/example/interleaving/interleaving/store/StateGraph;IIII)V"), (0, .methodref 8 18), (0, .nameAndType 19 20), (0, u "initialStates"), (0, u "()[I"), (0, .methodref 12 22), (0, .nameAndType 23 24), (0, u "at"), (0, u "([IIIII)Z"), (0, .methodref 12 26), (0, .nameAndType 27 28), (0, u "v"), (0, u "(III)I"), (0, .methodref 8 30), (0, .nameAndType 31 32), (0, u "addInitial"), (0, u "(I)V"), (2, u "law"), (0, u "(III)Z")] 5

def k1m0 : Method := { name := "<init>", desc := "()V", sig := { parameters := [], returnType := none }, accessFlags := 1, code := none }
def k1c1 : Code := { maxStack := 6, maxLocals := 7, code := code, exceptionTable := #[], attributes := #[] }
def k1m1 : Method := { name := "law", desc := "(III)Z", sig := { parameters := [.int, .int, .int], returnType := some .boolean }, accessFlags := 9, code := some k1c1 }
def k1c2 : Code := { maxStack := 3, maxLocals := 3, code := method_3_code, exceptionTable := #[], attributes := #[] }
def k1m2 : Method := { name := "v", desc := "(III)I", sig := { parameters := [.int, .int, .int], returnType := some .int }, accessFlags := 10, code := some k1c2 }
def k1c3 : Code := { maxStack := 4, maxLocals := 5, code := method_4_code, exceptionTable := #[], attributes := #[] }
def k1m3 : Method := { name := "add", desc := "(Lcom/example/interleaving/interleaving/store/StateGraph;IIII)V", sig := { parameters := [(.object "com/example/interleaving/interleaving/store/StateGraph"), .int, .int, .int, .int], returnType := none }, accessFlags := 10, code := some k1c3 }
def k1c4 : Code := { maxStack := 4, maxLocals := 5, code := method_5_code, exceptionTable := #[], attributes := #[] }
def k1m4 : Method := { name := "at", desc := "([IIIII)Z", sig := { parameters := [(.array .int), .int, .int, .int, .int], returnType := some .boolean }, accessFlags := 10, code := some k1c4 }
/-- com/example/interleaving/interleaving/store/StateGraphAddInitialPinLaw -/
def k1 : Class := { plain "com/example/interleaving/interleaving/store/StateGraphAddInitialPinLaw" (some 0) with
  accessFlags := 49
  interfaces := #[]
  cf := some (fileOf pool1 12 #[] #[{ accessFlags := 1, nameIndex := 5, descriptorIndex := 6, attributes := #[] }, { accessFlags := 9, nameIndex := 35, descriptorIndex := 36, attributes := #[] }, { accessFlags := 10, nameIndex := 27, descriptorIndex := 28, attributes := #[] }, { accessFlags := 10, nameIndex := 15, descriptorIndex := 16, attributes := #[] }, { accessFlags := 10, nameIndex := 23, descriptorIndex := 24, attributes := #[] }] 49 2 #[] #[])
  fields := #[]
  methods := #[k1m0, k1m1, k1m2, k1m3, k1m4]
  instanceTypes := #[]
  staticTypes := #[]
  resolved := Array.replicate 42 none
  statics := none }

def pool2 : Array CpInfo := pool [(1, .methodref 2 3), (0, .class_ 4), (0, .nameAndType 5 6), (0, u "java/lang/Object"), (0, u "<init>"), (0, u "()V"), (0, .fieldref 8 9), (0, .class_ 10), (0, .nameAndType 11 12), (0, u "com/example/interleaving/interleaving/store/StateGraph"), (0, u "initial"), (0, u "[I"), (0, .fieldref 8 14), (0, .nameAndType 15 12), (0, u "targets"), (0, .fieldref 8 17), (0, .nameAndType 18 12), (0, u "firsts"), (0, .fieldref 8 20), (0, .nameAndType 21 22), (0, u "open"), (0, u "I"), (0, .fieldref 8 24), (0, .nameAndType 25 22), (0, u "initialCount"), (0, .methodref 27 28), (0, .class_ 29), (0, .nameAndType 30 31), (0, u "java/util/Arrays"), (0, u "copyOf"), (0, u "([II)[I"), (2, u "closed"), (12, u "(I)V"), (2, u "stepCount"), (18, u "addInitial"), (6, u "initialStates"), (0, u "()[I")] 20

def k2c0 : Code := { maxStack := 2, maxLocals := 1, code := prog_103_method_1_code, exceptionTable := #[], attributes := #[] }
def k2m0 : Method := { name := "<init>", desc := "()V", sig := { parameters := [], returnType := none }, accessFlags := 1, code := some k2c0 }
def k2c1 : Code := { maxStack := 5, maxLocals := 2, code := prog_103_method_2_code, exceptionTable := #[], attributes := #[] }
def k2m1 : Method := { name := "addInitial", desc := "(I)V", sig := { parameters := [.int], returnType := none }, accessFlags := 1, code := some k2c1 }
def k2c2 : Code := { maxStack := 2, maxLocals := 1, code := prog_103_method_9_code, exceptionTable := #[], attributes := #[] }
def k2m2 : Method := { name := "initialStates", desc := "()[I", sig := { parameters := [], returnType := some (.array .int) }, accessFlags := 1, code := some k2c2 }
/-- com/example/interleaving/interleaving/store/StateGraph -/
def k2 : Class := { plain "com/example/interleaving/interleaving/store/StateGraph" (some 0) with
  accessFlags := 33
  interfaces := #[]
  cf := some (fileOf pool2 8 #[] #[{ accessFlags := 1, nameIndex := 5, descriptorIndex := 6, attributes := #[] }, { accessFlags := 1, nameIndex := 69, descriptorIndex := 47, attributes := #[] }, { accessFlags := 1, nameIndex := 76, descriptorIndex := 77, attributes := #[] }] 33 2 #[] #[{ accessFlags := 2, nameIndex := 11, descriptorIndex := 12, attributes := #[] }, { accessFlags := 2, nameIndex := 25, descriptorIndex := 22, attributes := #[] }, { accessFlags := 2, nameIndex := 15, descriptorIndex := 12, attributes := #[] }, { accessFlags := 2, nameIndex := 50, descriptorIndex := 22, attributes := #[] }, { accessFlags := 2, nameIndex := 18, descriptorIndex := 12, attributes := #[] }, { accessFlags := 2, nameIndex := 34, descriptorIndex := 22, attributes := #[] }, { accessFlags := 2, nameIndex := 21, descriptorIndex := 22, attributes := #[] }])
  fields := #[{ name := "initial", type := (.array .int), accessFlags := 2, slot := 0, constantValue := 0 }, { name := "initialCount", type := .int, accessFlags := 2, slot := 1, constantValue := 0 }, { name := "targets", type := (.array .int), accessFlags := 2, slot := 2, constantValue := 0 }, { name := "stepCount", type := .int, accessFlags := 2, slot := 3, constantValue := 0 }, { name := "firsts", type := (.array .int), accessFlags := 2, slot := 4, constantValue := 0 }, { name := "closed", type := .int, accessFlags := 2, slot := 5, constantValue := 0 }, { name := "open", type := .int, accessFlags := 2, slot := 6, constantValue := 0 }]
  methods := #[k2m0, k2m1, k2m2]
  instanceTypes := #[(.array .int), .int, (.array .int), .int, (.array .int), .int, .int]
  staticTypes := #[]
  resolved := Array.replicate 98 none
  statics := none }

def pool3 : Array CpInfo := pool [(2, .class_ 4), (1, u "java/lang/Object"), (0, u "<init>"), (0, u "()V"), (7, .class_ 16), (1, u "java/util/Arrays"), (57, .class_ 76), (1, u "java/util/Arrays$NaturalOrder"), (32, u "()Ljava/lang/Object;"), (3, .class_ 115), (1, u "java/util/Arrays$LegacyMergeSort"), (1, u "Z"), (10, .nameAndType 129 109), (0, u "clone"), (20, .methodref 151 152), (0, .class_ 153), (0, .nameAndType 154 155), (0, u "java/lang/System"), (0, u "arraycopy"), (0, u "(Ljava/lang/Object;ILjava/lang/Object;II)V"), (146, u "copyOf"), (1, .methodref 305 306), (0, .class_ 307), (0, .nameAndType 308 309), (0, u "java/lang/Math"), (0, u "min"), (0, u "(II)I"), (6, .methodref 317 128), (0, .class_ 318), (0, u "[I"), (56, .class_ 376), (0, u "java/util/Arrays$ArrayList"), (68, u "$assertionsDisabled"), (269, u "MIN_ARRAY_SORT_GRAN"), (0, u "I"), (2, u "INSERTIONSORT_THRESHOLD"), (151, u "([II)[I"), (103, .class_ 976), (0, u "java/util/Arrays$ArrayItr")] 52

def k3m0 : Method := { name := "<init>", desc := "()V", sig := { parameters := [], returnType := none }, accessFlags := 2, code := none }
def k3c1 : Code := { maxStack := 6, maxLocals := 3, code := jdk_65_method_123_code, exceptionTable := #[], attributes := #[] }
def k3m1 : Method := { name := "copyOf", desc := "([II)[I", sig := { parameters := [(.array .int), .int], returnType := some (.array .int) }, accessFlags := 9, code := some k3c1 }
/-- java/util/Arrays -/
def k3 : Class := { plain "java/util/Arrays" (some 0) with
  accessFlags := 49
  interfaces := #[]
  cf := some (fileOf pool3 14 #[.nestMembers #[975, 375, 113, 74]] #[{ accessFlags := 2, nameIndex := 5, descriptorIndex := 6, attributes := #[] }, { accessFlags := 9, nameIndex := 302, descriptorIndex := 871, attributes := #[] }] 49 2 #[] #[{ accessFlags := 26, nameIndex := 715, descriptorIndex := 716, attributes := #[] }, { accessFlags := 26, nameIndex := 719, descriptorIndex := 716, attributes := #[] }, { accessFlags := 4120, nameIndex := 445, descriptorIndex := 117, attributes := #[] }])
  fields := #[{ name := "MIN_ARRAY_SORT_GRAN", type := .int, accessFlags := 26, slot := 0, constantValue := 0 }, { name := "INSERTIONSORT_THRESHOLD", type := .int, accessFlags := 26, slot := 1, constantValue := 0 }, { name := "$assertionsDisabled", type := .boolean, accessFlags := 4120, slot := 2, constantValue := 0 }]
  methods := #[k3m0, k3m1]
  instanceTypes := #[]
  staticTypes := #[.int, .int, .boolean]
  resolved := Array.replicate 1029 none
  statics := none }

def pool4 : Array CpInfo := pool [(1, .class_ 2), (0, u "java/lang/Math"), (1, .class_ 6), (1, u "java/lang/Object"), (0, u "<init>"), (0, u "()V"), (89, .class_ 100), (1, u "java/lang/Math$RandomNumberGeneratorHolder"), (71, u "negativeZeroFloatBits"), (0, u "J"), (2, u "negativeZeroDoubleBits"), (24, u "min"), (43, u "$assertionsDisabled"), (0, u "Z"), (88, u "(II)I"), (2, u "twoToTheDoubleScaleDown"), (0, u "D"), (4, u "twoToTheDoubleScaleUp"), (9, u "E"), (3, u "PI"), (2, u "TAU"), (2, u "DEGREES_TO_RADIANS"), (0, u "RADIANS_TO_DEGREES")] 94

def k4m0 : Method := { name := "<init>", desc := "()V", sig := { parameters := [], returnType := none }, accessFlags := 2, code := none }
def k4c1 : Code := { maxStack := 2, maxLocals := 2, code := jdk_29_method_69_code, exceptionTable := #[], attributes := #[] }
def k4m1 : Method := { name := "min", desc := "(II)I", sig := { parameters := [.int, .int], returnType := some .int }, accessFlags := 9, code := some k4c1 }
/-- java/lang/Math -/
def k4 : Class := { plain "java/lang/Math" (some 0) with
  accessFlags := 49
  interfaces := #[]
  cf := some (fileOf pool4 1 #[.nestMembers #[98]] #[{ accessFlags := 2, nameIndex := 7, descriptorIndex := 8, attributes := #[] }, { accessFlags := 9, nameIndex := 201, descriptorIndex := 335, attributes := #[] }] 49 4 #[] #[{ accessFlags := 25, nameIndex := 354, descriptorIndex := 339, attributes := #[] }, { accessFlags := 25, nameIndex := 358, descriptorIndex := 339, attributes := #[] }, { accessFlags := 25, nameIndex := 361, descriptorIndex := 339, attributes := #[] }, { accessFlags := 26, nameIndex := 364, descriptorIndex := 339, attributes := #[] }, { accessFlags := 26, nameIndex := 365, descriptorIndex := 339, attributes := #[] }, { accessFlags := 26, nameIndex := 172, descriptorIndex := 173, attributes := #[] }, { accessFlags := 26, nameIndex := 176, descriptorIndex := 173, attributes := #[] }, { accessFlags := 8, nameIndex := 344, descriptorIndex := 339, attributes := #[] }, { accessFlags := 8, nameIndex := 338, descriptorIndex := 339, attributes := #[] }, { accessFlags := 4120, nameIndex := 245, descriptorIndex := 246, attributes := #[] }])
  fields := #[{ name := "E", type := .double, accessFlags := 25, slot := 0, constantValue := 0 }, { name := "PI", type := .double, accessFlags := 25, slot := 1, constantValue := 0 }, { name := "TAU", type := .double, accessFlags := 25, slot := 2, constantValue := 0 }, { name := "DEGREES_TO_RADIANS", type := .double, accessFlags := 26, slot := 3, constantValue := 0 }, { name := "RADIANS_TO_DEGREES", type := .double, accessFlags := 26, slot := 4, constantValue := 0 }, { name := "negativeZeroFloatBits", type := .long, accessFlags := 26, slot := 5, constantValue := 0 }, { name := "negativeZeroDoubleBits", type := .long, accessFlags := 26, slot := 6, constantValue := 0 }, { name := "twoToTheDoubleScaleUp", type := .double, accessFlags := 8, slot := 7, constantValue := 0 }, { name := "twoToTheDoubleScaleDown", type := .double, accessFlags := 8, slot := 8, constantValue := 0 }, { name := "$assertionsDisabled", type := .boolean, accessFlags := 4120, slot := 9, constantValue := 0 }]
  methods := #[k4m0, k4m1]
  instanceTypes := #[]
  staticTypes := #[.double, .double, .double, .double, .double, .long, .long, .double, .double, .boolean]
  resolved := Array.replicate 460 none
  statics := none }

def pool5 : Array CpInfo := pool [(2, .class_ 4), (1, u "java/lang/Object"), (0, u "<init>"), (0, u "()V"), (1, .class_ 10), (1, u "java/lang/System"), (0, u "allowSecurityManager"), (0, u "I"), (16, u "cons"), (0, u "Ljava/io/Console;"), (77, .class_ 110), (1, u "java/lang/System$CallersHolder"), (43, u "initialErrStream"), (0, u "Ljava/io/PrintStream;"), (19, u "security"), (0, u "Ljava/lang/SecurityManager;"), (31, .class_ 209), (0, u "java/lang/System$1"), (7, u "props"), (0, u "Ljava/util/Properties;"), (2, u "lineSeparator"), (0, u "Ljava/lang/String;"), (96, .class_ 321), (1, u "java/lang/System$LoggerFinder"), (5, .class_ 328), (0, u "java/lang/System$Logger"), (67, u "err"), (2, u "out"), (91, u "notSupportedJnuEncoding"), (15, u "in"), (17, u "initialIn"), (0, u "Ljava/io/InputStream;"), (35, u "bootLayer"), (0, u "Ljava/lang/ModuleLayer;"), (99, .class_ 664), (0, u "java/lang/System$2"), (9, u "NEVER"), (2, u "MAYBE"), (49, u "arraycopy"), (0, u "(Ljava/lang/Object;ILjava/lang/Object;II)V"), (72, .class_ 802), (0, u "java/lang/System$Logger$Level")] 31

def k5m0 : Method := { name := "<init>", desc := "()V", sig := { parameters := [], returnType := none }, accessFlags := 2, code := none }
def k5m1 : Method := { name := "arraycopy", desc := "(Ljava/lang/Object;ILjava/lang/Object;II)V", sig := { parameters := [(.object "java/lang/Object"), .int, (.object "java/lang/Object"), .int, .int], returnType := none }, accessFlags := 265, code := none }
/-- java/lang/System -/
def k5 : Class := { plain "java/lang/System" (some 0) with
  accessFlags := 49
  interfaces := #[]
  cf := some (fileOf pool5 8 #[.nestMembers #[319, 327, 801, 108, 663, 208]] #[{ accessFlags := 2, nameIndex := 5, descriptorIndex := 6, attributes := #[] }, { accessFlags := 265, nameIndex := 727, descriptorIndex := 728, attributes := #[] }] 49 2 #[] #[{ accessFlags := 25, nameIndex := 507, descriptorIndex := 526, attributes := #[] }, { accessFlags := 25, nameIndex := 399, descriptorIndex := 155, attributes := #[] }, { accessFlags := 25, nameIndex := 396, descriptorIndex := 155, attributes := #[] }, { accessFlags := 10, nameIndex := 525, descriptorIndex := 526, attributes := #[] }, { accessFlags := 26, nameIndex := 674, descriptorIndex := 12, attributes := #[] }, { accessFlags := 26, nameIndex := 677, descriptorIndex := 12, attributes := #[] }, { accessFlags := 10, nameIndex := 11, descriptorIndex := 12, attributes := #[] }, { accessFlags := 74, nameIndex := 175, descriptorIndex := 176, attributes := #[] }, { accessFlags := 10, nameIndex := 491, descriptorIndex := 222, attributes := #[] }, { accessFlags := 74, nameIndex := 29, descriptorIndex := 30, attributes := #[] }, { accessFlags := 74, nameIndex := 154, descriptorIndex := 155, attributes := #[] }, { accessFlags := 10, nameIndex := 217, descriptorIndex := 218, attributes := #[] }, { accessFlags := 10, nameIndex := 221, descriptorIndex := 222, attributes := #[] }, { accessFlags := 8, nameIndex := 562, descriptorIndex := 563, attributes := #[] }])
  fields := #[{ name := "in", type := (.object "java/io/InputStream"), accessFlags := 25, slot := 0, constantValue := 0 }, { name := "out", type := (.object "java/io/PrintStream"), accessFlags := 25, slot := 1, constantValue := 0 }, { name := "err", type := (.object "java/io/PrintStream"), accessFlags := 25, slot := 2, constantValue := 0 }, { name := "initialIn", type := (.object "java/io/InputStream"), accessFlags := 10, slot := 3, constantValue := 0 }, { name := "NEVER", type := .int, accessFlags := 26, slot := 4, constantValue := 0 }, { name := "MAYBE", type := .int, accessFlags := 26, slot := 5, constantValue := 0 }, { name := "allowSecurityManager", type := .int, accessFlags := 10, slot := 6, constantValue := 0 }, { name := "security", type := (.object "java/lang/SecurityManager"), accessFlags := 74, slot := 7, constantValue := 0 }, { name := "notSupportedJnuEncoding", type := (.object "java/lang/String"), accessFlags := 10, slot := 8, constantValue := 0 }, { name := "cons", type := (.object "java/io/Console"), accessFlags := 74, slot := 9, constantValue := 0 }, { name := "initialErrStream", type := (.object "java/io/PrintStream"), accessFlags := 74, slot := 10, constantValue := 0 }, { name := "props", type := (.object "java/util/Properties"), accessFlags := 10, slot := 11, constantValue := 0 }, { name := "lineSeparator", type := (.object "java/lang/String"), accessFlags := 10, slot := 12, constantValue := 0 }, { name := "bootLayer", type := (.object "java/lang/ModuleLayer"), accessFlags := 8, slot := 13, constantValue := 0 }]
  methods := #[k5m0, k5m1]
  instanceTypes := #[]
  staticTypes := #[(.object "java/io/InputStream"), (.object "java/io/PrintStream"), (.object "java/io/PrintStream"), (.object "java/io/InputStream"), .int, .int, .int, (.object "java/lang/SecurityManager"), (.object "java/lang/String"), (.object "java/io/Console"), (.object "java/io/PrintStream"), (.object "java/util/Properties"), (.object "java/lang/String"), (.object "java/lang/ModuleLayer")]
  resolved := Array.replicate 834 none
  statics := none }

def pool6 : Array CpInfo := pool [(1, .class_ 2), (0, u "java/lang/Cloneable"), (0, .class_ 4), (0, u "java/lang/Object")] 2

/-- java/lang/Cloneable -/
def k6 : Class := { plain "java/lang/Cloneable" (some 0) with
  accessFlags := 1537
  interfaces := #[]
  cf := some (fileOf pool6 1 #[] #[] 1537 3 #[] #[])
  fields := #[]
  methods := #[]
  instanceTypes := #[]
  staticTypes := #[]
  resolved := Array.replicate 7 none
  statics := none }

def pool7 : Array CpInfo := pool [(1, u "java/io/Serializable"), (0, .class_ 1), (0, u "java/lang/Object"), (0, .class_ 3)] 3

/-- java/io/Serializable -/
def k7 : Class := { plain "java/io/Serializable" (some 0) with
  accessFlags := 1537
  interfaces := #[]
  cf := some (fileOf pool7 2 #[] #[] 1537 4 #[] #[])
  fields := #[]
  methods := #[]
  instanceTypes := #[]
  staticTypes := #[]
  resolved := Array.replicate 8 none
  statics := none }

/-- the primitive byte -/
def k8 : Class := { plain "byte" none with kind := .primitive 'B', accessFlags := 0x411 }
/-- [B -/
def k9 : Class := { plain "[B" (some 0) with kind := .array 8 .byte, interfaces := #[6, 7], accessFlags := 1041 }

/-- the primitive int -/
def k10 : Class := { plain "int" none with kind := .primitive 'I', accessFlags := 0x411 }
/-- [I -/
def k11 : Class := { plain "[I" (some 0) with kind := .array 10 .int, interfaces := #[6, 7], accessFlags := 1041 }

def heap : Heap := #[]
def classes : Array Class := #[k0, k1, k2, k3, k4, k5, k6, k7, k8, k9, k10, k11]
def interned : List (Array UInt16 × Addr) := []
def slotsUsed : Nat := 0
def theMethod : MethodId := ⟨1, 1⟩
def args0 : Array Value := #[.int 3, .int 6, .int 2]
def aboutOver (below : List Frame) : State where
  vm := { classes := classes, interned := interned.toArray }
  heap := heap
  slotsUsed := slotsUsed
  threads := #[{ frames := .invoking theMethod args0 :: below }]
def below0 : List Frame := [.native { method := ⟨0, 0⟩, args := #[] }]
def about1 : State := aboutOver below0
def p0 : Program := .bare "" "" ""
def e0 : Env := launch0.env 0 0 0
theorem w_frames : about1.frames = Frame.invoking theMethod args0 :: below0 := rfl
set_option maxRecDepth 65536 in
theorem w_args : argsFit about1.vm theMethod args0 = true := by decide +kernel
set_option maxRecDepth 65536 in
theorem w_heap : heapFits about1 = true := by decide +kernel
set_option maxRecDepth 65536 in
theorem w_runnable : about1.curStatus? = some .runnable := by decide +kernel
set_option maxRecDepth 65536 in
theorem w_alone : about1.alone = true := by decide +kernel
set_option maxRecDepth 65536 in
theorem w_named : about1.methodNamed? x = some theMethod := by decide +kernel
set_option maxRecDepth 65536 in
theorem w_hears : about1.hears theMethod below0 = true := by decide +kernel
set_option maxRecDepth 65536 in
theorem w_ripe : about1.ripe theMethod args0 below0 = true := by decide +kernel
theorem w_running : about1.status = .running := rfl
set_option maxRecDepth 65536 in
theorem w_room : about1.hasRoom e0.platform room_1 = true :=
  launch0.hasRoom_least _ room_1 (by decide +kernel) (by decide +kernel) (by decide +kernel) (by decide +kernel) (by decide +kernel) (by decide +kernel)
theorem allAtoms_all (ts : List Jvm.Cond) (a : Array Jvm.Value) (st : Jvm.State) : (allAtoms ts).before a st = ts.all (fun c => c.before a st) := by
  induction ts with
  | nil => rfl
  | cons c t ih =>
    show (Jvm.Cond.and c (allAtoms t)).before a st = _
    rw [Jvm.Cond.before_and, ih, List.all_cons]
def words1 : List Jvm.Cond := Jvm.Cond.code x code maxLocals ret :: tables_1
/-- a 'code' word, met by the world's own term for the bytes: nothing is compared byte by byte -/
theorem code_word {y : MethodName} {bytes : ByteArray} {mx : Nat} {rt : Option FieldType} {a : Array Value} {s : State} {m : MethodId} {meth : Method} {c : Code} (h1 : s.methodNamed? y = some m) (h2 : s.vm.method? m = some meth) (h3 : meth.code = some c) (h4 : c.code = bytes)
    (h5 : (c.maxLocals == mx && c.exceptionTable.isEmpty && decide (c.maxStack ≤ mostOperands) && decide (meth.sig.returnType = rt) && !meth.locks && decide (parseMethodDescriptor y.desc = some meth.sig)) = true) : (Jvm.Cond.code y bytes mx rt).before a s = true := by
  simp only [Bool.and_eq_true, beq_iff_eq, Bool.not_eq_true', decide_eq_true_eq] at h5
  obtain ⟨⟨⟨⟨⟨g1, g2⟩, g3⟩, g4⟩, g5⟩, g6⟩ := h5
  simp [Cond.before, Cond.holds, Cond.value, h1, h2, h3, h4, g1, g2, g3, g4, g5, g6]
def isCode : Jvm.Cond → Bool
  | .code _ _ _ _ => true
  | _ => false
theorem all_split {L : List Jvm.Cond} {P : Jvm.Cond → Bool} (h1 : L.all (fun c => isCode c || P c) = true) (h2 : ∀ c ∈ L.filter isCode, P c = true) : L.all P = true := by
  refine List.all_eq_true.mpr fun c hc => ?_
  have h := List.all_eq_true.mp h1 c hc
  rcases Bool.eq_false_or_eq_true (isCode c) with hi | hi
  · exact h2 c (List.mem_filter.mpr ⟨hc, hi⟩)
  · simpa [hi] using h
set_option maxRecDepth 65536 in
theorem w_c0 : (Jvm.Cond.code x code maxLocals ret).before args0 about1 = true := code_word (m := ⟨1, 1⟩) (meth := k1m1) (c := k1c1) (by decide +kernel) rfl rfl rfl (by decide +kernel)
set_option maxRecDepth 65536 in
theorem w_c1 : (Jvm.Cond.code ({ cls := "com/example/interleaving/interleaving/store/StateGraph", name := "<init>", desc := "()V" } : Jvm.MethodName) prog_103_method_1_code (1 : Nat) (Option.none : Option Jvm.ClassFile.FieldType)).before args0 about1 = true := code_word (m := ⟨2, 0⟩) (meth := k2m0) (c := k2c0) (by decide +kernel) rfl rfl rfl (by decide +kernel)
set_option maxRecDepth 65536 in
theorem w_c2 : (Jvm.Cond.code ({ cls := "java/lang/Object", name := "<init>", desc := "()V" } : Jvm.MethodName) object_method_1_code (1 : Nat) (Option.none : Option Jvm.ClassFile.FieldType)).before args0 about1 = true := code_word (m := ⟨0, 0⟩) (meth := k0m0) (c := k0c0) (by decide +kernel) rfl rfl rfl (by decide +kernel)
set_option maxRecDepth 65536 in
theorem w_c3 : (Jvm.Cond.code ({ cls := "com/example/interleaving/interleaving/store/StateGraphAddInitialPinLaw", name := "add", desc := "(Lcom/example/interleaving/interleaving/store/StateGraph;IIII)V" } : Jvm.MethodName) method_4_code (5 : Nat) (Option.none : Option Jvm.ClassFile.FieldType)).before args0 about1 = true := code_word (m := ⟨1, 3⟩) (meth := k1m3) (c := k1c3) (by decide +kernel) rfl rfl rfl (by decide +kernel)
set_option maxRecDepth 65536 in
theorem w_c4 : (Jvm.Cond.code ({ cls := "com/example/interleaving/interleaving/store/StateGraph", name := "initialStates", desc := "()[I" } : Jvm.MethodName) prog_103_method_9_code (1 : Nat) (Option.some (Jvm.ClassFile.FieldType.array Jvm.ClassFile.FieldType.int))).before args0 about1 = true := code_word (m := ⟨2, 2⟩) (meth := k2m2) (c := k2c2) (by decide +kernel) rfl rfl rfl (by decide +kernel)
set_option maxRecDepth 65536 in
theorem w_c5 : (Jvm.Cond.code ({ cls := "java/util/Arrays", name := "copyOf", desc := "([II)[I" } : Jvm.MethodName) jdk_65_method_123_code (3 : Nat) (Option.some (Jvm.ClassFile.FieldType.array Jvm.ClassFile.FieldType.int))).before args0 about1 = true := code_word (m := ⟨3, 1⟩) (meth := k3m1) (c := k3c1) (by decide +kernel) rfl rfl rfl (by decide +kernel)
set_option maxRecDepth 65536 in
theorem w_c6 : (Jvm.Cond.code ({ cls := "java/lang/Math", name := "min", desc := "(II)I" } : Jvm.MethodName) jdk_29_method_69_code (2 : Nat) (Option.some Jvm.ClassFile.FieldType.int)).before args0 about1 = true := code_word (m := ⟨4, 1⟩) (meth := k4m1) (c := k4c1) (by decide +kernel) rfl rfl rfl (by decide +kernel)
set_option maxRecDepth 65536 in
theorem w_c7 : (Jvm.Cond.code ({ cls := "com/example/interleaving/interleaving/store/StateGraphAddInitialPinLaw", name := "at", desc := "([IIIII)Z" } : Jvm.MethodName) method_5_code (5 : Nat) (Option.some Jvm.ClassFile.FieldType.boolean)).before args0 about1 = true := code_word (m := ⟨1, 4⟩) (meth := k1m4) (c := k1c4) (by decide +kernel) rfl rfl rfl (by decide +kernel)
set_option maxRecDepth 65536 in
theorem w_c8 : (Jvm.Cond.code ({ cls := "com/example/interleaving/interleaving/store/StateGraphAddInitialPinLaw", name := "v", desc := "(III)I" } : Jvm.MethodName) method_3_code (3 : Nat) (Option.some Jvm.ClassFile.FieldType.int)).before args0 about1 = true := code_word (m := ⟨1, 2⟩) (meth := k1m2) (c := k1c2) (by decide +kernel) rfl rfl rfl (by decide +kernel)
set_option maxRecDepth 65536 in
theorem w_c9 : (Jvm.Cond.code ({ cls := "com/example/interleaving/interleaving/store/StateGraph", name := "addInitial", desc := "(I)V" } : Jvm.MethodName) prog_103_method_2_code (2 : Nat) (Option.none : Option Jvm.ClassFile.FieldType)).before args0 about1 = true := code_word (m := ⟨2, 1⟩) (meth := k2m1) (c := k2c1) (by decide +kernel) rfl rfl rfl (by decide +kernel)
def codes1 : List Jvm.Cond := [Jvm.Cond.code x code maxLocals ret, Jvm.Cond.code ({ cls := "com/example/interleaving/interleaving/store/StateGraph", name := "<init>", desc := "()V" } : Jvm.MethodName) prog_103_method_1_code (1 : Nat) (Option.none : Option Jvm.ClassFile.FieldType), Jvm.Cond.code ({ cls := "java/lang/Object", name := "<init>", desc := "()V" } : Jvm.MethodName) object_method_1_code (1 : Nat) (Option.none : Option Jvm.ClassFile.FieldType), Jvm.Cond.code ({ cls := "com/example/interleaving/interleaving/store/StateGraphAddInitialPinLaw", name := "add", desc := "(Lcom/example/interleaving/interleaving/store/StateGraph;IIII)V" } : Jvm.MethodName) method_4_code (5 : Nat) (Option.none : Option Jvm.ClassFile.FieldType), Jvm.Cond.code ({ cls := "com/example/interleaving/interleaving/store/StateGraph", name := "initialStates", desc := "()[I" } : Jvm.MethodName) prog_103_method_9_code (1 : Nat) (Option.some (Jvm.ClassFile.FieldType.array Jvm.ClassFile.FieldType.int)), Jvm.Cond.code ({ cls := "java/util/Arrays", name := "copyOf", desc := "([II)[I" } : Jvm.MethodName) jdk_65_method_123_code (3 : Nat) (Option.some (Jvm.ClassFile.FieldType.array Jvm.ClassFile.FieldType.int)), Jvm.Cond.code ({ cls := "java/lang/Math", name := "min", desc := "(II)I" } : Jvm.MethodName) jdk_29_method_69_code (2 : Nat) (Option.some Jvm.ClassFile.FieldType.int), Jvm.Cond.code ({ cls := "com/example/interleaving/interleaving/store/StateGraphAddInitialPinLaw", name := "at", desc := "([IIIII)Z" } : Jvm.MethodName) method_5_code (5 : Nat) (Option.some Jvm.ClassFile.FieldType.boolean), Jvm.Cond.code ({ cls := "com/example/interleaving/interleaving/store/StateGraphAddInitialPinLaw", name := "v", desc := "(III)I" } : Jvm.MethodName) method_3_code (3 : Nat) (Option.some Jvm.ClassFile.FieldType.int), Jvm.Cond.code ({ cls := "com/example/interleaving/interleaving/store/StateGraph", name := "addInitial", desc := "(I)V" } : Jvm.MethodName) prog_103_method_2_code (2 : Nat) (Option.none : Option Jvm.ClassFile.FieldType)]
set_option maxRecDepth 65536 in
theorem codes_eq : words1.filter isCode = codes1 := rfl
theorem w_codes : ∀ c ∈ words1.filter isCode, c.before args0 about1 = true := by
  rw [codes_eq]
  intro c hc
  simp only [codes1, List.mem_cons, List.not_mem_nil, or_false] at hc
  rcases hc with rfl | rfl | rfl | rfl | rfl | rfl | rfl | rfl | rfl | rfl
  · exact w_c0
  · exact w_c1
  · exact w_c2
  · exact w_c3
  · exact w_c4
  · exact w_c5
  · exact w_c6
  · exact w_c7
  · exact w_c8
  · exact w_c9
set_option maxRecDepth 65536 in
theorem w_t1 : (words1.take 24).all (fun c => isCode c || c.before args0 about1) = true := by decide +kernel
set_option maxRecDepth 65536 in
theorem w_t2 : ((words1.drop 24).take 24).all (fun c => isCode c || c.before args0 about1) = true := by decide +kernel
set_option maxRecDepth 65536 in
theorem w_t3 : ((words1.drop 24).drop 24).all (fun c => isCode c || c.before args0 about1) = true := by decide +kernel
theorem w_tables : (allAtoms (Jvm.Cond.code x code maxLocals ret :: tables_1)).before args0 about1 = true := by
  rw [allAtoms_all]
  show words1.all (fun c => c.before args0 about1) = true
  refine all_split ?_ w_codes
  rw [← List.take_append_drop 24 words1, List.all_append, w_t1, ← List.take_append_drop 24 (words1.drop 24), List.all_append, w_t2, w_t3]
  rfl
set_option maxRecDepth 65536 in
theorem w_case : (Jvm.Cond.and given_1 narrow_1).before args0 about1 = true := by decide +kernel
theorem w_applies : (headSpec (Jvm.Cond.code x code maxLocals ret :: tables_1) room_1).applies x e0.platform about1 = true :=
  (Spec.applies_iff w_frames).mpr ⟨w_running, w_runnable, w_alone, w_named, w_hears, w_ripe, w_room, w_tables⟩
theorem atStart : AtStart classFile x code maxLocals ret World_1 tables_1 room_1 Calls_1 rest_1 Pre_1 launch0 p0 e0 about1 theMethod args0 below0 :=
  ⟨lists_1, trivial, launch0.admits_env _ _ _, launch0.least_env, fairChoices_fair.cas, fairChoices_fair.clock, w_frames, w_args, w_heap, w_applies, trivial, trivial, w_case⟩
end start1
theorem witness_1 : WitnessClaimed_1 := ⟨start1.p0, start1.e0, start1.about1, start1.theMethod, start1.args0, start1.below0, start1.atStart⟩
end Jvm.Pilot.@@N@@
