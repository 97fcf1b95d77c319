import JvmDerived
import JvmDerived.Pilot.@@N@@Statement
import JvmDerived.Pilot.@@N@@Code
set_option linter.unusedVariables false
set_option linter.unusedSimpArgs false
namespace Jvm.RoadKit
open Sem ClassFile Op Lib Jvm.Stand Jvm.Free Jvm.LawKit
section New
variable {p : Program} {l : Launch} {e : Env} {R : Room} {s : State} {m : MethodId} {args : Array Value} {below : List Frame} {meth : Method} {c : Code} {T : State} {locs : List Loc} {cells slots : Nat}
theorem retI (X : Stand p l e R s m args below meth c T locs cells slots) (hx : p.tables.exec = Jvm.exec) {pc : Nat} {Ls : Array Slot} {z : Int32} {rest : List Value} (hret : meth.sig.returnType = some .int) (hd : decode c.code pc = .ok (.ireturn, 1)) {fs : List Frame}
    (hl : ∀ (f : JFrame) (acts : List Action), f.method = m → f.locked = none → f.entered = [] → (doReturn e (T.setTop f) acts (some (.int z))).1 = T.setFrames fs) : Steps p.tables e below (T.setTop (mkF m pc Ls (.int z :: rest))) (T.setFrames fs) := by
  have hm' : T.vm.method? m = some meth := X.method'
  have hn : narrow .int (.int z) = .int z := rfl
  show Steps p.tables e below (T.setTop { method := m, pc := pc, locals := Ls, stack := _ :: rest, locked := none }) _
  jvm_step X.here [X.here.top, hx, hd, hm', hret, hn]
  first | (intro acts; rw [hl _ acts rfl rfl rfl]) | rw [hl _ _ rfl rfl rfl]
  exact Steps.refl _
end New
end Jvm.RoadKit
namespace Jvm.Pilot.@@N@@
open Jvm Jvm.ClassFile Sem Op Lib Jvm.Free Jvm.Stand Jvm.LawKit Jvm.RoadKit Bundle Jvm.Pilot.@@N@@.Jvm.D
def own_A (Z : State) (h : Heap) (a : Addr) (n : Nat) (f : Nat → Int32) : Prop := ∃ c : Cell, Arr Z h a c .int ∧ c.slots.size = n ∧ ∀ j, j < n → c.slots[j]? = some (.int (f j))
def own_upd (f : Nat → Int32) (i : Nat) (x : Int32) : Nat → Int32 := fun j => if j = i then x else f j
section OwnA
variable {Z : State} {h h' : Heap} {a b : Addr} {n : Nat} {f g : Nat → Int32} {sl : Nat} {v : Value} {ws : List Addr} {c : Cell} {j x z : Int32}
theorem own_A.lt (F : own_A Z h a n f) : a < h.size := by obtain ⟨c, A, -⟩ := F; exact A.lt
theorem own_A.ext (F : own_A Z h a n f) (E : Ext h h') : own_A Z h' a n f := by obtain ⟨c, A, r⟩ := F; exact ⟨c, A.ext E, r⟩
theorem own_A.other (F : own_A Z h b n f) (W : Wr h h' a sl v) (q : b ≠ a) : own_A Z h' b n f := by obtain ⟨c, A, r⟩ := F; exact ⟨c, A.other W q, r⟩
theorem own_A.keep (F : own_A Z h a n f) (K : Keep h h' ws) (q : a ∉ ws) : own_A Z h' a n f := by obtain ⟨c, A, r⟩ := F; exact ⟨c, ⟨K.2.1 a c A.1 q, A.2⟩, r⟩
theorem own_A.set {i : Nat} (F : own_A Z h a n f) (W : Wr h h' a i (.int x)) : own_A Z h' a n (own_upd f i x) := by
  obtain ⟨c, A, S, H⟩ := F
  have hi : i < c.slots.size := by obtain ⟨c2, e1, -, e3, -⟩ := W; cases A.1.symm.trans e1; exact e3
  refine ⟨_, A.same W, by rw [sz_set]; exact S, fun k hk => ?_⟩
  by_cases u : k = i
  · subst u; simp [Cell.setSlot, own_upd, hi]
  · simp only [Cell.setSlot, own_upd, if_neg u]; rw [Array.getElem?_setIfInBounds_ne (Ne.symm u)]; exact H k hk
theorem own_A.congr (F : own_A Z h a n f) (q : ∀ j, j < n → f j = g j) : own_A Z h a n g := by obtain ⟨c, A, S, H⟩ := F; exact ⟨c, A, S, fun j hj => by rw [← q j hj]; exact H j hj⟩
theorem own_A.new {k : ClassId} (A : Arr Z h a (newA k .int z) .int) (e : z.toNatClampNeg = n) : own_A Z h a n (fun _ => 0) := ⟨_, A, by rw [sz_new]; exact e, fun i hi => by simp [newA, e, hi, defaultValue]⟩
theorem own_inb (S : c.slots.size = n) (q1 : ¬ j < 0) (q2 : j.toNatClampNeg < n) : ¬ (j < 0 ∨ c.slots.size ≤ j.toNatClampNeg) := by rw [S]; intro y; rcases y with y | y; exact q1 y; omega
theorem own_len (S : c.slots.size = n) (q : n.toInt32 = z) : c.slots.size.toInt32 = z := by rw [S]; exact q
theorem own_A.arv (F : own_A Z h a n f) (hn : n < 2 ^ 31) : ∃ k, Arv Z h a k .int (Int32.ofNat n) ((List.range n).map fun j => .int (f j)) (.int 0) := by
  obtain ⟨c, A, S, H⟩ := F
  have e : (Int32.ofNat n).toInt = n := Int32.toInt_ofNat_of_lt (by omega)
  have gt : ∀ i, i < n → ((List.range n).map fun j => Value.int (f j)).getD i (.int 0) = .int (f i) := fun i hi => by simp [List.getD_eq_getElem?_getD, hi]
  refine ⟨c.cls, c, A, rfl, by simp only [Int32.toNatClampNeg, e]; omega, by rw [Int32.lt_iff_toInt_lt, e]; show ¬ (n : Int) < 0; omega, fun i hi => ?_, fun i hi => ?_⟩
  · rw [gt i (by omega)]; exact H i (by omega)
  · rw [gt i (by omega)]; rfl
end OwnA
section OwnCp
variable {p : Program} {l : Launch} {e : Env} {R : Room} {s : State} {m : MethodId} {args : Array Value} {below : List Frame} {meth : Method} {c : Code} {T : State} {locs : List Loc} {cells slots : Nat} {Z : State} {h : Heap} {a b : Addr}
theorem own_cp (X : Stand p l e R s m args below meth c T locs cells slots) (hx : p.tables.exec = Jvm.exec) (hZ : Z.Warmed39 s.vm) {a0 : Array Value} {own : String} {index : Nat} (hown : s.vm.findClass own = some m.cls)
    (w1 : (Jvm.Cond.methodLink own index Jvm.Stand.acN).before a0 Z = true) (w2 : (Jvm.Cond.native Jvm.Stand.acN).before a0 Z = true) (w3 : (Jvm.Cond.static Jvm.Stand.acN).before a0 Z = true) (w4 : (Jvm.Cond.initialized "java/lang/System").before a0 Z = true) (eT : T.heap = h)
    {N M k : Nat} {f g' : Nat → Int32} {nn : Int32} (A : own_A Z h a N f) (B : own_A Z h b M g') (hN : N < 2 ^ 31) (hM : M < 2 ^ 31) (h3 : ¬ nn < 0) (hk : nn.toNatClampNeg = k) (h4 : k ≤ N) (h5 : k ≤ M) {n0 : Nat} (Nf : Fr n0 locs) (ge : n0 ≤ b)
    {g : JFrame} (hg : g.method = m) (hsize : g.locals.size = c.maxLocals) {rest : List Value} (hs : g.stack = .int nn :: .int 0 :: .ref b :: .int 0 :: .ref a :: rest) (hd : decode c.code g.pc = .ok (.invokestatic index, 3))
    (hf : 1 ≤ R.frames) {W : Nat} (hW : 2 * g.monitorRoom + (rest.map fun v => v.category).sum ≤ W) (hlo : W + (nativeFrameWords "java/lang/System" "arraycopy" 5 + 11) ≤ R.locals) :
    ∃ T' h' L, Stand p l e R s m args below meth c T' L cells slots ∧ T'.heap = h' ∧ Fr n0 L ∧ Keep h h' [b] ∧ own_A Z h' b M (fun j => if j < k then f j else g' j) ∧
      ∀ target, Steps p.tables e below (T'.setTop { g with pc := g.pc + 3, stack := rest }) target → Steps p.tables e below (T.setTop g) target := by
  obtain ⟨ka, Aa⟩ := A.arv hN
  obtain ⟨kb, Ab⟩ := B.arv hM
  have eN : (Int32.ofNat N).toNatClampNeg = N := by have := @Int32.toInt_ofNat_of_lt N (by omega); simp only [Int32.toNatClampNeg, this]; omega
  have eM : (Int32.ofNat M).toNatClampNeg = M := by have := @Int32.toInt_ofNat_of_lt M (by omega); simp only [Int32.toNatClampNeg, this]; omega
  have z0 : (0 : Int32).toNatClampNeg = 0 := rfl
  obtain ⟨T', h', L, X', e', F', K', A', st⟩ := cpA X hx hZ hown w1 w2 w3 w4 eT (us := (List.range k).map fun j => .int (f j)) Aa Ab (Or.inl ⟨rfl, rfl⟩) (sp := 0) (dp := 0) (nn := nn) (by decide) (by decide) h3 (by rw [z0, eN, hk]; omega) (by rw [z0, eM, hk]; omega)
    (by
      rw [hk, z0]
      refine List.map_congr_left fun i hi => ?_
      have hi' := List.mem_range.mp hi
      simp [List.getD_eq_getElem?_getD, show i < N by omega])
    (by rw [z0, hk]; simp; omega) Nf ge hg hsize hs hd hf hW hlo
  refine ⟨T', h', L, X', e', F', K', ?_, st⟩
  obtain ⟨cl, Ar, -, S, -, H, -⟩ := A'
  rw [eM] at S
  refine ⟨cl, Ar, S, fun j hj => ?_⟩
  rw [H j (by omega), z0, hk]
  congr 1
  simp only [List.getD_eq_getElem?_getD, List.take_zero, List.nil_append, Nat.zero_add]
  by_cases u : j < k
  · rw [List.getElem?_append_left (by simp; exact u)]; simp [u]
  · rw [List.getElem?_append_right (by simp; omega)]; simp only [List.length_map, List.length_range, List.getElem?_drop]
    rw [show k + (j - k) = j by omega]; simp [u, hj]
theorem own_cl (X : Stand p l e R s m args below meth c T locs cells slots) (hx : p.tables.exec = Jvm.exec) (hZ : Z.Warmed39 s.vm) {a0 : Array Value} {own ad : String} {index : Nat} (hown : s.vm.findClass own = some m.cls)
    (w1 : (Jvm.Cond.methodLink own index ⟨ad, "clone", "()Ljava/lang/Object;"⟩).before a0 Z = true) (w2 : (Jvm.Cond.sameMethod ad "java/lang/Object" "clone" "()Ljava/lang/Object;").before a0 Z = true) (w3 : (Jvm.Cond.native ⟨"java/lang/Object", "clone", "()Ljava/lang/Object;"⟩).before a0 Z = true)
    (w4 : (Jvm.Cond.instanceMethod ⟨"java/lang/Object", "clone", "()Ljava/lang/Object;"⟩).before a0 Z = true) (w5 : (Jvm.Cond.selects ad ⟨ad, "clone", "()Ljava/lang/Object;"⟩ ⟨"java/lang/Object", "clone", "()Ljava/lang/Object;"⟩).before a0 Z = true) (w6 : (Jvm.Cond.castable ad "java/lang/Cloneable").before a0 Z = true)
    (eT : T.heap = h) {N : Nat} {f : Nat → Int32} (A : own_A Z h a N f) (hN : N < 2 ^ 31) (E : Exa Z h a ad) {g : JFrame} (hg : g.method = m) (hsize : g.locals.size = c.maxLocals) {rest : List Value} (hst : g.stack = .ref a :: rest) (hd : decode c.code g.pc = .ok (.invokevirtual index, 3))
    (hf : 1 ≤ R.frames) {W cap : Nat} (hW : 2 * g.monitorRoom + (rest.map fun v => v.category).sum ≤ W) (hl : W + 14 ≤ R.locals) (hcap : N ≤ cap) (hc : cells + 1 ≤ R.cells) (hsl : slots + cap ≤ R.slots) :
    ∃ T' h', Stand p l e R s m args below meth c T' locs (cells + 1) (slots + cap) ∧ T'.heap = h' ∧ Ext h h' ∧ own_A Z h' h.size N f ∧ Exa Z h' h.size ad ∧
      ∀ target, Steps p.tables e below (T'.setTop { g with pc := g.pc + 3, stack := .ref h.size :: rest }) target → Steps p.tables e below (T.setTop g) target := by
  obtain ⟨ka, Aa⟩ := A.arv hN
  have eN : (Int32.ofNat N).toNatClampNeg = N := by have := @Int32.toInt_ofNat_of_lt N (by omega); simp only [Int32.toNatClampNeg, this]; omega
  obtain ⟨T', h', X', e', ex, A', E', st⟩ := cloneH X hx hZ hown w1 w2 w3 w4 w5 w6 eT Aa.arh E hg hsize hst hd hf hW hl (by rw [eN]; exact hcap) hc hsl
  refine ⟨T', h', X', e', ex, ?_, E', st⟩
  obtain ⟨cl, Ar, -, S, -, H, -⟩ := A'
  rw [eN] at S
  refine ⟨cl, Ar, S, fun j hj => ?_⟩
  rw [H j (by omega)]
  simp [getH, List.getD_eq_getElem?_getD, hj]
end OwnCp
def own_min (x y : Int32) : Int32 := if y < x then y else x
theorem own_ofI {m : Nat} (h : m ≤ 32) : (Int32.ofNat m).toInt = m := Int32.toInt_ofNat_of_lt (by omega)
theorem own_ofN {m : Nat} (h : m ≤ 32) : (Int32.ofNat m).toNatClampNeg = m := by simp only [Int32.toNatClampNeg, own_ofI h]; omega
theorem own_of0 {m : Nat} (h : m ≤ 32) : ¬ Int32.ofNat m < 0 := by rw [Int32.lt_iff_toInt_lt, own_ofI h]; show ¬ (m : Int) < 0; omega
theorem own_inj {m n : Nat} (hm : m ≤ 32) (hn : n ≤ 32) (e : Int32.ofNat m = Int32.ofNat n) : m = n := by
  have := congrArg Int32.toInt e; rw [own_ofI hm, own_ofI hn] at this; omega
theorem own_zne {z : Int32} {N m : Nat} (hz : z = Int32.ofNat m) (hne : ¬ N = m) (hN : N ≤ 32) (hm : m ≤ 32) : ¬ z = Int32.ofNat N := fun e => hne (own_inj hm hN (hz.symm.trans e)).symm
theorem own_zeq {z : Int32} {N m : Nat} (hz : z = Int32.ofNat m) (hc : z = Int32.ofNat N) (hN : N ≤ 32) (hm : m ≤ 32) : N = m := (own_inj hm hN (hz.symm.trans hc)).symm
theorem own_mn {z : Int32} {N m : Nat} (hz : z = Int32.ofNat m) (hN : N ≤ 32) (hm : m ≤ 32) : own_min (Int32.ofNat N) z = Int32.ofNat (min N m) := by
  subst hz; simp only [own_min, Int32.lt_iff_toInt_lt, own_ofI hN, own_ofI hm]
  by_cases u : m < N
  · rw [if_pos (by omega), Nat.min_eq_right (by omega)]
  · rw [if_neg (by omega), Nat.min_eq_left (by omega)]
theorem own_mn0 {z : Int32} {N m : Nat} (hz : z = Int32.ofNat m) (hN : N ≤ 32) (hm : m ≤ 32) : ¬ own_min (Int32.ofNat N) z < 0 := by rw [own_mn hz hN hm]; exact own_of0 (by omega)
theorem own_mnk {z : Int32} {N m : Nat} (hz : z = Int32.ofNat m) (hN : N ≤ 32) (hm : m ≤ 32) : (own_min (Int32.ofNat N) z).toNatClampNeg = min N m := by rw [own_mn hz hN hm]; exact own_ofN (by omega)
theorem own_of1 (k : Nat) : Int32.ofNat k + 1 = Int32.ofNat (k + 1) := (Int32.ofNat_add k 1).symm
theorem own_d_jdk_29_method_69_0 : decode jdk_29_method_69_code 0 = .ok (.iload_n 0, 1) := by decide +kernel
theorem own_d_jdk_29_method_69_1 : decode jdk_29_method_69_code 1 = .ok (.iload_n 1, 1) := by decide +kernel
theorem own_d_jdk_29_method_69_2 : decode jdk_29_method_69_code 2 = .ok (.if_icmp .gt 7, 3) := by decide +kernel
theorem own_d_jdk_29_method_69_5 : decode jdk_29_method_69_code 5 = .ok (.iload_n 0, 1) := by decide +kernel
theorem own_d_jdk_29_method_69_6 : decode jdk_29_method_69_code 6 = .ok (.goto 4, 3) := by decide +kernel
theorem own_d_jdk_29_method_69_9 : decode jdk_29_method_69_code 9 = .ok (.iload_n 1, 1) := by decide +kernel
theorem own_d_jdk_29_method_69_10 : decode jdk_29_method_69_code 10 = .ok (.ireturn, 1) := by decide +kernel
theorem own_ef_min (m : MethodId) (p1 : Int32) (p2 : Int32) : entryFrame m #[(.int p1), (.int p2)] 2 = mkF m 0 #[.val (.int p1), .val (.int p2)] [] := by first | (simp [entryFrame, mkF, argsToLocals, Value.category]; done) | rfl
def own_Q_min (Z : State) (p1 : Int32) (p2 : Int32) (h0 : Heap) (n0 : Nat) (v : Option Value) (h : Heap) (L : List Loc) : Prop := v = some (.int (own_min p1 p2)) ∧ Fr n0 L ∧ h = h0
set_option maxRecDepth 65536 in
set_option maxHeartbeats 40000000 in
theorem own_rm_min (l : Launch) (Z : State) (a0 : Array Value) (hw : ∀ d ∈ tables_1, d.before a0 Z = true) (ws : List Jvm.Cond) (p1 : Int32) (p2 : Int32) (h0 : Heap) (n0 : Nat) (Z0 : n0 ≤ h0.size) :
    MetFree l (⟨"java/lang/Math", "min", "(II)I"⟩ : MethodName) (head1 (Jvm.Cond.code (⟨"java/lang/Math", "min", "(II)I"⟩ : MethodName) jdk_29_method_69_code 2 (some .int) :: ws) ({ frames := 0, cells := 0, slots := 0, locals := 0 } : Room)) (fun a U => a = #[(.int p1), (.int p2)] ∧ Z.Warmed39 U.vm ∧ U.heap = h0) (fun _ _ _ _ _ => True) (fun _ U o U' => ∃ v L, o = .returned v ∧ own_Q_min Z p1 p2 h0 n0 v U'.heap L ∧ FrameEnd U o U' L ({ frames := 0, cells := 0, slots := 0, locals := 0 } : Room).cells ({ frames := 0, cells := 0, slots := 0, locals := 0 } : Room).slots) := by
  refine MetFree.of_bodySF (Jvm.Free.JP.mathPlain rfl (by decide +kernel)) hisR ?_
  intro p e s m args below meth c s₁ Bd hml0 hP hK
  obtain ⟨rfl, hZ, hh⟩ := hP
  have hx := Bd.exec
  have hby := Bd.bytes
  have hml : c.maxLocals = 2 := hml0
  have hown : s.vm.findClass "java/lang/Math" = some m.cls := findClass_of_methodNamed Bd.named
  have hnm := (name_of_methodNamed Bd.named Bd.method).1
  have X0 : Stand p l e ({ frames := 0, cells := 0, slots := 0, locals := 0 } : Room) s m #[(.int p1), (.int p2)] below meth c s₁ [] 0 0 := Stand.of_body Bd
  have e0 : s₁.heap = h0 := by rw [← hh, Bd.state]; rfl
  have N0 := Fr.nil n0
  have K0 : Keep h0 h0 [] := Keep.refl _ _
  have pre0 : ∀ t, Steps p.tables e below (s₁.setTop (mkF m 0 #[.val (.int p1), .val (.int p2)] [])) t → Steps p.tables e below (s₁.setTop (entryFrame m #[(.int p1), (.int p2)] 2)) t := fun t k => castTop (own_ef_min m p1 p2) k
  have pre1 : ∀ t, Steps p.tables e below (s₁.setTop (mkF m 2 #[.val (.int p1), .val (.int p2)] [(.int p2), (.int p1)])) t → Steps p.tables e below (s₁.setTop (entryFrame m #[(.int p1), (.int p2)] 2)) t := by
    intro t kt
    refine pre0 t ?_
    show Steps p.tables e below (s₁.setTop (mkF m 0 #[.val (.int p1), .val (.int p2)] [])) _
    refine XS.iloadN X0.here hx rfl (hb hby own_d_jdk_29_method_69_0) rfl ?_
    show Steps p.tables e below (s₁.setTop (mkF m 1 #[.val (.int p1), .val (.int p2)] [(.int p1)])) _
    refine XS.iloadN X0.here hx rfl (hb hby own_d_jdk_29_method_69_1) rfl ?_
    exact kt
  by_cases hc2 : p2 < p1
  · have pre3 : ∀ t, Steps p.tables e below (s₁.setTop (mkF m 10 #[.val (.int p1), .val (.int p2)] [(.int p2)])) t → Steps p.tables e below (s₁.setTop (entryFrame m #[(.int p1), (.int p2)] 2)) t := by
      intro t kt
      refine pre1 t ?_
      show Steps p.tables e below (s₁.setTop (mkF m 2 #[.val (.int p1), .val (.int p2)] [(.int p2), (.int p1)])) _
      refine XS.icmpYes X0.here hx rfl (pc0 := 2) (pc' := 9) rfl (hb hby own_d_jdk_29_method_69_2) rfl (tlt hc2).2.2.1 (by decide) (by decide) ?_
      show Steps p.tables e below (s₁.setTop (mkF m 9 #[.val (.int p1), .val (.int p2)] [])) _
      refine XS.iloadN X0.here hx rfl (hb hby own_d_jdk_29_method_69_9) rfl ?_
      exact kt
    obtain ⟨fs, hr, hrun, hended, hW, hsame⟩ := X0.leave (v := some (.int p2)) (fun h => by rw [Bd.returns] at h; cases h)
    refine ⟨_, _, pre3 _ ?_, hrun, hended, _, _, rfl, ?_, ⟨_, rfl⟩, hW, hsame.mono (by decide) (by decide)⟩
    · show Steps p.tables e below (s₁.setTop (mkF m 10 #[.val (.int p1), .val (.int p2)] [(.int p2)])) _
      exact retI X0 hx Bd.returns (hb hby own_d_jdk_29_method_69_10) hr
    · show own_Q_min Z p1 p2 h0 n0 (some (.int p2)) s₁.heap _
      rw [e0]
      exact ⟨by simp [own_min, hc2], N0, rfl⟩
  · have pre4 : ∀ t, Steps p.tables e below (s₁.setTop (mkF m 10 #[.val (.int p1), .val (.int p2)] [(.int p1)])) t → Steps p.tables e below (s₁.setTop (entryFrame m #[(.int p1), (.int p2)] 2)) t := by
      intro t kt
      refine pre1 t ?_
      show Steps p.tables e below (s₁.setTop (mkF m 2 #[.val (.int p1), .val (.int p2)] [(.int p2), (.int p1)])) _
      refine XS.icmpNo X0.here hx rfl (hb hby own_d_jdk_29_method_69_2) rfl (flt hc2).2.2.1 ?_
      show Steps p.tables e below (s₁.setTop (mkF m 5 #[.val (.int p1), .val (.int p2)] [])) _
      refine XS.iloadN X0.here hx rfl (hb hby own_d_jdk_29_method_69_5) rfl ?_
      show Steps p.tables e below (s₁.setTop (mkF m 6 #[.val (.int p1), .val (.int p2)] [(.int p1)])) _
      refine XS.goto X0.here hx rfl (pc0 := 6) (pc' := 10) rfl (hb hby own_d_jdk_29_method_69_6) (by decide) (by decide) ?_
      exact kt
    obtain ⟨fs, hr, hrun, hended, hW, hsame⟩ := X0.leave (v := some (.int p1)) (fun h => by rw [Bd.returns] at h; cases h)
    refine ⟨_, _, pre4 _ ?_, hrun, hended, _, _, rfl, ?_, ⟨_, rfl⟩, hW, hsame.mono (by decide) (by decide)⟩
    · show Steps p.tables e below (s₁.setTop (mkF m 10 #[.val (.int p1), .val (.int p2)] [(.int p1)])) _
      exact retI X0 hx Bd.returns (hb hby own_d_jdk_29_method_69_10) hr
    · show own_Q_min Z p1 p2 h0 n0 (some (.int p1)) s₁.heap _
      rw [e0]
      exact ⟨by simp [own_min, hc2], N0, rfl⟩
theorem own_d_jdk_65_method_123_0 : decode jdk_65_method_123_code 0 = .ok (.iload_n 1, 1) := by decide +kernel
theorem own_d_jdk_65_method_123_1 : decode jdk_65_method_123_code 1 = .ok (.aload_n 0, 1) := by decide +kernel
theorem own_d_jdk_65_method_123_2 : decode jdk_65_method_123_code 2 = .ok (.arraylength, 1) := by decide +kernel
theorem own_d_jdk_65_method_123_3 : decode jdk_65_method_123_code 3 = .ok (.if_icmp .ne 11, 3) := by decide +kernel
theorem own_d_jdk_65_method_123_6 : decode jdk_65_method_123_code 6 = .ok (.aload_n 0, 1) := by decide +kernel
theorem own_d_jdk_65_method_123_7 : decode jdk_65_method_123_code 7 = .ok (.invokevirtual 316, 3) := by decide +kernel
theorem own_d_jdk_65_method_123_10 : decode jdk_65_method_123_code 10 = .ok (.checkcast 317, 3) := by decide +kernel
theorem own_d_jdk_65_method_123_13 : decode jdk_65_method_123_code 13 = .ok (.areturn, 1) := by decide +kernel
theorem own_d_jdk_65_method_123_14 : decode jdk_65_method_123_code 14 = .ok (.iload_n 1, 1) := by decide +kernel
theorem own_d_jdk_65_method_123_15 : decode jdk_65_method_123_code 15 = .ok (.newarray .int, 2) := by decide +kernel
theorem own_d_jdk_65_method_123_17 : decode jdk_65_method_123_code 17 = .ok (.astore_n 2, 1) := by decide +kernel
theorem own_d_jdk_65_method_123_18 : decode jdk_65_method_123_code 18 = .ok (.aload_n 0, 1) := by decide +kernel
theorem own_d_jdk_65_method_123_19 : decode jdk_65_method_123_code 19 = .ok (.iconst 0, 1) := by decide +kernel
theorem own_d_jdk_65_method_123_20 : decode jdk_65_method_123_code 20 = .ok (.aload_n 2, 1) := by decide +kernel
theorem own_d_jdk_65_method_123_21 : decode jdk_65_method_123_code 21 = .ok (.iconst 0, 1) := by decide +kernel
theorem own_d_jdk_65_method_123_22 : decode jdk_65_method_123_code 22 = .ok (.aload_n 0, 1) := by decide +kernel
theorem own_d_jdk_65_method_123_23 : decode jdk_65_method_123_code 23 = .ok (.arraylength, 1) := by decide +kernel
theorem own_d_jdk_65_method_123_24 : decode jdk_65_method_123_code 24 = .ok (.iload_n 1, 1) := by decide +kernel
theorem own_d_jdk_65_method_123_25 : decode jdk_65_method_123_code 25 = .ok (.invokestatic 304, 3) := by decide +kernel
theorem own_d_jdk_65_method_123_28 : decode jdk_65_method_123_code 28 = .ok (.invokestatic 150, 3) := by decide +kernel
theorem own_d_jdk_65_method_123_31 : decode jdk_65_method_123_code 31 = .ok (.aload_n 2, 1) := by decide +kernel
theorem own_d_jdk_65_method_123_32 : decode jdk_65_method_123_code 32 = .ok (.areturn, 1) := by decide +kernel
theorem own_pd0 : parseMethodDescriptor "(II)I" = some ⟨[.int, .int], some .int⟩ := by decide +kernel
theorem own_pn0 : plainName "java/util/Arrays" = true := by first | (simp [plainName, overriddenIn]; done) | decide +kernel
theorem own_ef_cpo (m : MethodId) (b : Addr) (z : Int32) : entryFrame m #[(.ref b), (.int z)] 3 = mkF m 0 #[.val (.ref b), .val (.int z), .unset] [] := by first | (simp [entryFrame, mkF, argsToLocals, Value.category]; done) | rfl
def own_Q_cpo (Z : State) (b : Addr) (z : Int32) (N : Nat) (m_ : Nat) (f : Nat → Int32) (h0 : Heap) (n0 : Nat) (v : Option Value) (h : Heap) (L : List Loc) : Prop := ∃ r : Addr, v = some (.ref r) ∧ Fr n0 L ∧ Keep h0 h [] ∧ h0.size ≤ r ∧ own_A Z h r m_ (fun j => if j < N then f j else 0) ∧ Exa Z h r "[I"
set_option maxRecDepth 65536 in
set_option maxHeartbeats 40000000 in
theorem own_rm_cpo (l : Launch) (Z : State) (a0 : Array Value) (hw : ∀ d ∈ tables_1, d.before a0 Z = true) (ws : List Jvm.Cond) (b : Addr) (z : Int32) (N : Nat) (m_ : Nat) (f : Nat → Int32) (h0 : Heap) (n0 : Nat) (Z0 : n0 ≤ h0.size) (A1 : own_A Z h0 b N f) (hz : z = Int32.ofNat m_) (hN : N ≤ 32) (hm : m_ ≤ 32) (hne : ¬ N = m_) :
    MetFree l (⟨"java/util/Arrays", "copyOf", "([II)[I"⟩ : MethodName) (head1 (Jvm.Cond.code (⟨"java/util/Arrays", "copyOf", "([II)[I"⟩ : MethodName) jdk_65_method_123_code 3 (some (.array .int)) :: ws) ({ frames := 1, cells := 1, slots := 32, locals := 40 } : Room)) (fun a U => a = #[(.ref b), (.int z)] ∧ Z.Warmed39 U.vm ∧ U.heap = h0) (fun _ _ _ _ _ => True) (fun _ U o U' => ∃ v L, o = .returned v ∧ own_Q_cpo Z b z N m_ f h0 n0 v U'.heap L ∧ FrameEnd U o U' L ({ frames := 1, cells := 1, slots := 32, locals := 40 } : Room).cells ({ frames := 1, cells := 1, slots := 32, locals := 40 } : Room).slots) := by
  refine MetFree.of_bodySF (plainFor_of_name own_pn0) hisR ?_
  intro p e s m args below meth c s₁ Bd hml0 hP hK
  obtain ⟨rfl, hZ, hh⟩ := hP
  have hx := Bd.exec
  have hby := Bd.bytes
  have hml : c.maxLocals = 3 := hml0
  have hown : s.vm.findClass "java/util/Arrays" = some m.cls := findClass_of_methodNamed Bd.named
  have hnm := (name_of_methodNamed Bd.named Bd.method).1
  have X0 : Stand p l e ({ frames := 1, cells := 1, slots := 32, locals := 40 } : Room) s m #[(.ref b), (.int z)] below meth c s₁ [] 0 0 := Stand.of_body Bd
  have e0 : s₁.heap = h0 := by rw [← hh, Bd.state]; rfl
  have N0 := Fr.nil n0
  have K0 : Keep h0 h0 [] := Keep.refl _ _
  have pre0 : ∀ t, Steps p.tables e below (s₁.setTop (mkF m 0 #[.val (.ref b), .val (.int z), .unset] [])) t → Steps p.tables e below (s₁.setTop (entryFrame m #[(.ref b), (.int z)] 3)) t := fun t k => castTop (own_ef_cpo m b z) k
  obtain ⟨cl1, Ar1, S1, -⟩ := id A1
  obtain ⟨T2, h2, k2, X2, e2, E2, A2, I2, st2⟩ := newPE X0 hx hZ (hw _ (List.mem_of_getElem? (i := 10) rfl)) e0 (g := (mkF m 15 #[.val (.ref b), .val (.int z), .unset] [(.int z)])) rfl (hb hby own_d_jdk_65_method_123_15) rfl (by rw [hz]; exact own_of0 hm) (cap := 32) (by rw [hz, own_ofN hm]; exact hm) (by decide) (by decide) (by decide) (ad := "[I") rfl
  obtain ⟨b2, g2⟩ : ∃ z, z = h0.size := ⟨_, rfl⟩
  rw [← g2] at A2 I2 st2
  have sz_b2 : h0.size ≤ b2 := Nat.le_trans K0.1 (Nat.le_of_eq g2.symm)
  have gn_b2 : n0 ≤ b2 := Nat.le_trans Z0 sz_b2
  have ne_b_b2 : b ≠ b2 := Nat.ne_of_lt (Nat.lt_of_lt_of_le A1.lt (Nat.le_of_eq g2.symm))
  have f3 := A1.ext E2
  have k4 := K0.ext E2
  have f5 : own_A Z h2 b2 m_ (fun _ => 0) := own_A.new A2 (by rw [hz]; exact own_ofN hm)
  have pre6 : ∀ t, Steps p.tables e below (T2.setTop (mkF m 23 #[.val (.ref b), .val (.int z), .val (.ref b2)] [(.ref b), (.int (0 : Int32)), (.ref b2), (.int (0 : Int32)), (.ref b)])) t → Steps p.tables e below (s₁.setTop (entryFrame m #[(.ref b), (.int z)] 3)) t := by
    intro t kt
    refine pre0 t ?_
    show Steps p.tables e below (s₁.setTop (mkF m 0 #[.val (.ref b), .val (.int z), .unset] [])) _
    refine XS.iloadN X0.here hx rfl (hb hby own_d_jdk_65_method_123_0) rfl ?_
    show Steps p.tables e below (s₁.setTop (mkF m 1 #[.val (.ref b), .val (.int z), .unset] [(.int z)])) _
    refine XS.aloadN X0.here hx rfl (hb hby own_d_jdk_65_method_123_1) rfl rfl ?_
    show Steps p.tables e below (s₁.setTop (mkF m 2 #[.val (.ref b), .val (.int z), .unset] [(.ref b), (.int z)])) _
    refine X0.arraylength hx (by rw [e0]; exact Ar1.1) (State.isArrayOf_alike hZ.alike Ar1.2.1) (g := (mkF m 2 #[.val (.ref b), .val (.int z), .unset] [(.ref b), (.int z)])) rfl rfl (hb hby own_d_jdk_65_method_123_2) _ ?_
    rw [own_len (z := (Int32.ofNat N)) S1 rfl]
    show Steps p.tables e below (s₁.setTop (mkF m 3 #[.val (.ref b), .val (.int z), .unset] [(.int (Int32.ofNat N)), (.int z)])) _
    refine XS.icmpYes X0.here hx rfl (pc0 := 3) (pc' := 14) rfl (hb hby own_d_jdk_65_method_123_3) rfl (feq (own_zne hz hne hN hm)).2 (by decide) (by decide) ?_
    show Steps p.tables e below (s₁.setTop (mkF m 14 #[.val (.ref b), .val (.int z), .unset] [])) _
    refine XS.iloadN X0.here hx rfl (hb hby own_d_jdk_65_method_123_14) rfl ?_
    show Steps p.tables e below (s₁.setTop (mkF m 15 #[.val (.ref b), .val (.int z), .unset] [(.int z)])) _
    refine st2 _ ?_
    show Steps p.tables e below (T2.setTop (mkF m 17 #[.val (.ref b), .val (.int z), .unset] [(.ref b2)])) _
    refine XS.astoreN X2.here hx rfl (hb hby own_d_jdk_65_method_123_17) rfl rfl (l' := #[.val (.ref b), .val (.int z), .val (.ref b2)]) rfl ?_
    show Steps p.tables e below (T2.setTop (mkF m 18 #[.val (.ref b), .val (.int z), .val (.ref b2)] [])) _
    refine XS.aloadN X2.here hx rfl (hb hby own_d_jdk_65_method_123_18) rfl rfl ?_
    show Steps p.tables e below (T2.setTop (mkF m 19 #[.val (.ref b), .val (.int z), .val (.ref b2)] [(.ref b)])) _
    refine XS.iconst X2.here hx rfl (hb hby own_d_jdk_65_method_123_19) ?_
    show Steps p.tables e below (T2.setTop (mkF m 20 #[.val (.ref b), .val (.int z), .val (.ref b2)] [(.int (0 : Int32)), (.ref b)])) _
    refine XS.aloadN X2.here hx rfl (hb hby own_d_jdk_65_method_123_20) rfl rfl ?_
    show Steps p.tables e below (T2.setTop (mkF m 21 #[.val (.ref b), .val (.int z), .val (.ref b2)] [(.ref b2), (.int (0 : Int32)), (.ref b)])) _
    refine XS.iconst X2.here hx rfl (hb hby own_d_jdk_65_method_123_21) ?_
    show Steps p.tables e below (T2.setTop (mkF m 22 #[.val (.ref b), .val (.int z), .val (.ref b2)] [(.int (0 : Int32)), (.ref b2), (.int (0 : Int32)), (.ref b)])) _
    refine XS.aloadN X2.here hx rfl (hb hby own_d_jdk_65_method_123_22) rfl rfl ?_
    exact kt
  obtain ⟨cl7, Ar7, S7, -⟩ := id f3
  have zs8 : n0 ≤ h2.size := Nat.le_trans Z0 k4.1
  obtain ⟨_, _, ⟨T9, L9, k9, n9⟩, -, X9, ⟨Lc9, hQ9, l9, y9, z9⟩, st9⟩ := Jvm.LawKit.callS X2 hx (y := (⟨"java/lang/Math", "min", "(II)I"⟩ : MethodName)) hown (mvT hZ (hw _ (List.mem_of_getElem? (i := 30) rfl))) (mvT hZ (hw _ (List.mem_of_getElem? (i := 31) rfl))) (mvT hZ (hw _ (List.mem_of_getElem? (i := 32) rfl))) (mvT hZ (hw _ (List.mem_of_getElem? (i := 33) rfl))) (by decide) (backOf (W := 4) (own_rm_min l Z a0 hw [] (Int32.ofNat N) z h2 n0 zs8 ) hZ (hw _ (List.mem_of_getElem? (i := 33) rfl)) (hw _ (List.mem_of_getElem? (i := 32) rfl)) (by decide) (by decide)) (g := (mkF m 25 #[.val (.ref b), .val (.int z), .val (.ref b2)] [(.int z), (.int (Int32.ofNat N)), (.int (0 : Int32)), (.ref b2), (.int (0 : Int32)), (.ref b)])) rfl (by rw [hml]; rfl) (argsL := [(.int (Int32.ofNat N)), (.int z)]) (rest := [(.int (0 : Int32)), (.ref b2), (.int (0 : Int32)), (.ref b)]) (lenOf own_pd0 rfl) rfl (by show 2 * 0 + _ ≤ _; exact Nat.le_of_eq rfl) (hb hby own_d_jdk_65_method_123_25) (fun _ _ => ⟨rfl, e2, (by decide : 1 + 0 ≤ _), (by decide : 32 + 0 ≤ _)⟩)
  dsimp only [Pt.U, Pt.locs, Pt.cells, Pt.slots] at X9 l9 y9 z9 st9 hQ9
  rw [l9, (y9 : k9 = 1), (z9 : n9 = 32)] at X9
  clear l9 y9 z9
  obtain ⟨rfl, N10, eq10⟩ := hQ9
  have nf11 := Fr.app N0 N10
  obtain ⟨T12, h12, L12, X12, e12, NF12, K12, A12, st12⟩ := own_cp X9 hx hZ hown (hw _ (List.mem_of_getElem? (i := 34) rfl)) (hw _ (List.mem_of_getElem? (i := 37) rfl)) (hw _ (List.mem_of_getElem? (i := 35) rfl)) (hw _ (List.mem_of_getElem? (i := 36) rfl)) eq10 f3 f5 (by omega) (by omega) (own_mn0 hz hN hm) (own_mnk hz hN hm) (Nat.min_le_left _ _) (Nat.min_le_right _ _) nf11 gn_b2 (g := (mkF m 28 #[.val (.ref b), .val (.int z), .val (.ref b2)] [(.int (own_min (Int32.ofNat N) z)), (.int (0 : Int32)), (.ref b2), (.int (0 : Int32)), (.ref b)])) rfl (by rw [hml]; rfl) (rest := []) rfl (hb hby own_d_jdk_65_method_123_28) (by decide) (W := 0) (by show 2 * 0 + _ ≤ _; exact Nat.le_of_eq rfl) (by decide)
  have f13 := f3.keep K12 (ninS ne_b_b2 nin0)
  have f14 := I2.keep K12
  have k15 := k4.trans K12 (allS (Or.inr sz_b2) all0)
  have pre16 : ∀ t, Steps p.tables e below (T12.setTop (mkF m 32 #[.val (.ref b), .val (.int z), .val (.ref b2)] [(.ref b2)])) t → Steps p.tables e below (s₁.setTop (entryFrame m #[(.ref b), (.int z)] 3)) t := by
    intro t kt
    refine pre6 t ?_
    show Steps p.tables e below (T2.setTop (mkF m 23 #[.val (.ref b), .val (.int z), .val (.ref b2)] [(.ref b), (.int (0 : Int32)), (.ref b2), (.int (0 : Int32)), (.ref b)])) _
    refine X2.arraylength hx (by rw [e2]; exact Ar7.1) (State.isArrayOf_alike hZ.alike Ar7.2.1) (g := (mkF m 23 #[.val (.ref b), .val (.int z), .val (.ref b2)] [(.ref b), (.int (0 : Int32)), (.ref b2), (.int (0 : Int32)), (.ref b)])) rfl rfl (hb hby own_d_jdk_65_method_123_23) _ ?_
    rw [own_len (z := (Int32.ofNat N)) S7 rfl]
    show Steps p.tables e below (T2.setTop (mkF m 24 #[.val (.ref b), .val (.int z), .val (.ref b2)] [(.int (Int32.ofNat N)), (.int (0 : Int32)), (.ref b2), (.int (0 : Int32)), (.ref b)])) _
    refine XS.iloadN X2.here hx rfl (hb hby own_d_jdk_65_method_123_24) rfl ?_
    show Steps p.tables e below (T2.setTop (mkF m 25 #[.val (.ref b), .val (.int z), .val (.ref b2)] [(.int z), (.int (Int32.ofNat N)), (.int (0 : Int32)), (.ref b2), (.int (0 : Int32)), (.ref b)])) _
    refine st9 _ ?_
    show Steps p.tables e below (T9.setTop (mkF m 28 #[.val (.ref b), .val (.int z), .val (.ref b2)] [(.int (own_min (Int32.ofNat N) z)), (.int (0 : Int32)), (.ref b2), (.int (0 : Int32)), (.ref b)])) _
    refine st12 _ ?_
    show Steps p.tables e below (T12.setTop (mkF m 31 #[.val (.ref b), .val (.int z), .val (.ref b2)] [])) _
    refine XS.aloadN X12.here hx rfl (hb hby own_d_jdk_65_method_123_31) rfl rfl ?_
    exact kt
  obtain ⟨fs, hr, hrun, hended, hW, hsame⟩ := X12.leave (v := some (.ref b2)) (fun h => by rw [Bd.returns] at h; cases h)
  refine ⟨_, _, pre16 _ ?_, hrun, hended, _, _, rfl, ?_, ⟨_, rfl⟩, hW, hsame.mono (by decide) (by decide)⟩
  · show Steps p.tables e below (T12.setTop (mkF m 32 #[.val (.ref b), .val (.int z), .val (.ref b2)] [(.ref b2)])) _
    jvm_step X12.here [X12.here.top, hx, (hb hby own_d_jdk_65_method_123_32), X12.method', Bd.returns, Value.isRef, FieldType.isReference]
    first | (intro acts; rw [hr _ acts rfl rfl rfl]) | rw [hr _ _ rfl rfl rfl]
    exact Steps.refl _
  · show own_Q_cpo Z b z N m_ f h0 n0 (some (.ref b2)) T12.heap _
    rw [e12]
    exact ⟨_, rfl, NF12, k15, sz_b2, (A12.congr (fun j hj => by by_cases u : j < N <;> simp [u, hj, Nat.lt_min])), f14⟩
theorem own_d_prog_103_method_9_0 : decode prog_103_method_9_code 0 = .ok (.aload_n 0, 1) := by decide +kernel
theorem own_d_prog_103_method_9_1 : decode prog_103_method_9_code 1 = .ok (.getfield 7, 3) := by decide +kernel
theorem own_d_prog_103_method_9_4 : decode prog_103_method_9_code 4 = .ok (.aload_n 0, 1) := by decide +kernel
theorem own_d_prog_103_method_9_5 : decode prog_103_method_9_code 5 = .ok (.getfield 23, 3) := by decide +kernel
theorem own_d_prog_103_method_9_8 : decode prog_103_method_9_code 8 = .ok (.invokestatic 26, 3) := by decide +kernel
theorem own_d_prog_103_method_9_11 : decode prog_103_method_9_code 11 = .ok (.areturn, 1) := by decide +kernel
theorem own_pd1 : parseMethodDescriptor "([II)[I" = some ⟨[(.array .int), .int], some (.array .int)⟩ := by decide +kernel
theorem own_pn1 : plainName "com/example/interleaving/interleaving/store/StateGraph" = true := by first | (simp [plainName, overriddenIn]; done) | decide +kernel
theorem own_ef_ist (m : MethodId) (a1 : Addr) : entryFrame m #[(.ref a1)] 1 = mkF m 0 #[.val (.ref a1)] [] := by first | (simp [entryFrame, mkF, argsToLocals, Value.category]; done) | rfl
def own_Q_ist (Z : State) (a1 : Addr) (b : Addr) (k_ : Nat) (N : Nat) (f : Nat → Int32) (h0 : Heap) (n0 : Nat) (v : Option Value) (h : Heap) (L : List Loc) : Prop := ∃ r : Addr, v = some (.ref r) ∧ Fr n0 L ∧ Keep h0 h [] ∧ h0.size ≤ r ∧ own_A Z h r k_ f
set_option maxRecDepth 65536 in
set_option maxHeartbeats 40000000 in
theorem own_rm_ist (l : Launch) (Z : State) (a0 : Array Value) (hw : ∀ d ∈ tables_1, d.before a0 Z = true) (ws : List Jvm.Cond) (a1 : Addr) (b : Addr) (k_ : Nat) (N : Nat) (f : Nat → Int32) (h0 : Heap) (n0 : Nat) (Z0 : n0 ≤ h0.size) (F1 : Fld Z h0 a1 "com/example/interleaving/interleaving/store/StateGraph" "initial" "[I" (.ref b)) (F2 : Fld Z h0 a1 "com/example/interleaving/interleaving/store/StateGraph" "initialCount" "I" (.int (Int32.ofNat k_))) (A1 : own_A Z h0 b N f) (hk : k_ ≤ N) (hN : N ≤ 32) (hne : ¬ N = k_) :
    MetFree l (⟨"com/example/interleaving/interleaving/store/StateGraph", "initialStates", "()[I"⟩ : MethodName) (head1 (Jvm.Cond.code (⟨"com/example/interleaving/interleaving/store/StateGraph", "initialStates", "()[I"⟩ : MethodName) prog_103_method_9_code 1 (some (.array .int)) :: ws) ({ frames := 2, cells := 1, slots := 32, locals := 54 } : Room)) (fun a U => a = #[(.ref a1)] ∧ Z.Warmed39 U.vm ∧ U.heap = h0) (fun _ _ _ _ _ => True) (fun _ U o U' => ∃ v L, o = .returned v ∧ own_Q_ist Z a1 b k_ N f h0 n0 v U'.heap L ∧ FrameEnd U o U' L ({ frames := 2, cells := 1, slots := 32, locals := 54 } : Room).cells ({ frames := 2, cells := 1, slots := 32, locals := 54 } : Room).slots) := by
  refine MetFree.of_bodySF (plainFor_of_name own_pn1) hisR ?_
  intro p e s m args below meth c s₁ Bd hml0 hP hK
  obtain ⟨rfl, hZ, hh⟩ := hP
  have hx := Bd.exec
  have hby := Bd.bytes
  have hml : c.maxLocals = 1 := hml0
  have hown : s.vm.findClass "com/example/interleaving/interleaving/store/StateGraph" = some m.cls := findClass_of_methodNamed Bd.named
  have hnm := (name_of_methodNamed Bd.named Bd.method).1
  have X0 : Stand p l e ({ frames := 2, cells := 1, slots := 32, locals := 54 } : Room) s m #[(.ref a1)] below meth c s₁ [] 0 0 := Stand.of_body Bd
  have e0 : s₁.heap = h0 := by rw [← hh, Bd.state]; rfl
  have N0 := Fr.nil n0
  have K0 : Keep h0 h0 [] := Keep.refl _ _
  have pre0 : ∀ t, Steps p.tables e below (s₁.setTop (mkF m 0 #[.val (.ref a1)] [])) t → Steps p.tables e below (s₁.setTop (entryFrame m #[(.ref a1)] 1)) t := fun t k => castTop (own_ef_ist m a1) k
  obtain ⟨T1, X1, e1, st1⟩ := getF X0 hx hZ hown (host := "") (Or.inl (hw _ (List.mem_of_getElem? (i := 11) rfl))) Via.refl e0 F1 (g := (mkF m 1 #[.val (.ref a1)] [(.ref a1)])) rfl rfl (hb hby own_d_prog_103_method_9_1)
  obtain ⟨T2, X2, e2, st2⟩ := getF X1 hx hZ hown (host := "") (Or.inl (hw _ (List.mem_of_getElem? (i := 24) rfl))) Via.refl e1 F2 (g := (mkF m 5 #[.val (.ref a1)] [(.ref a1), (.ref b)])) rfl rfl (hb hby own_d_prog_103_method_9_5)
  have zs3 : n0 ≤ h0.size := Nat.le_trans Z0 K0.1
  obtain ⟨_, _, ⟨T4, L4, k4, n4⟩, -, X4, ⟨Lc4, hQ4, l4, y4, z4⟩, st4⟩ := Jvm.LawKit.callS X2 hx (y := (⟨"java/util/Arrays", "copyOf", "([II)[I"⟩ : MethodName)) hown (mvT hZ (hw _ (List.mem_of_getElem? (i := 26) rfl))) (mvT hZ (hw _ (List.mem_of_getElem? (i := 27) rfl))) (mvT hZ (hw _ (List.mem_of_getElem? (i := 28) rfl))) (mvT hZ (hw _ (List.mem_of_getElem? (i := 29) rfl))) (by decide) (backOf (W := 0) (own_rm_cpo l Z a0 hw [] b (Int32.ofNat k_) N k_ f h0 n0 zs3 A1 rfl hN (by omega) hne) hZ (hw _ (List.mem_of_getElem? (i := 29) rfl)) (hw _ (List.mem_of_getElem? (i := 28) rfl)) (by decide) (by decide)) (g := (mkF m 8 #[.val (.ref a1)] [(.int (Int32.ofNat k_)), (.ref b)])) rfl (by rw [hml]; rfl) (argsL := [(.ref b), (.int (Int32.ofNat k_))]) (rest := []) (lenOf own_pd1 rfl) rfl (by show 2 * 0 + _ ≤ _; exact Nat.le_of_eq rfl) (hb hby own_d_prog_103_method_9_8) (fun _ _ => ⟨rfl, e2, (by decide : 0 + 1 ≤ _), (by decide : 0 + 32 ≤ _)⟩)
  dsimp only [Pt.U, Pt.locs, Pt.cells, Pt.slots] at X4 l4 y4 z4 st4 hQ4
  rw [l4, (y4 : k4 = 1), (z4 : n4 = 32)] at X4
  clear l4 y4 z4
  obtain ⟨r5, rfl, N5, K5, c5_0, c5_1, c5_2⟩ := hQ4
  have sz_r5 : h0.size ≤ r5 := Nat.le_trans K0.1 c5_0
  have gn_r5 : n0 ≤ r5 := Nat.le_trans Z0 sz_r5
  have ne_a1_r5 : a1 ≠ r5 := Nat.ne_of_lt (Nat.lt_of_lt_of_le F2.lt c5_0)
  have ne_b_r5 : b ≠ r5 := Nat.ne_of_lt (Nat.lt_of_lt_of_le A1.lt c5_0)
  have f6 := F1.keep K5 nin0
  have f7 := F2.keep K5 nin0
  have f8 := A1.keep K5 nin0
  have k9 := K0.trans K5 all0
  have nf10 := Fr.app N0 N5
  have pre11 : ∀ t, Steps p.tables e below (T4.setTop (mkF m 11 #[.val (.ref a1)] [(.ref r5)])) t → Steps p.tables e below (s₁.setTop (entryFrame m #[(.ref a1)] 1)) t := by
    intro t kt
    refine pre0 t ?_
    show Steps p.tables e below (s₁.setTop (mkF m 0 #[.val (.ref a1)] [])) _
    refine XS.aloadN X0.here hx rfl (hb hby own_d_prog_103_method_9_0) rfl rfl ?_
    show Steps p.tables e below (s₁.setTop (mkF m 1 #[.val (.ref a1)] [(.ref a1)])) _
    refine st1 _ ?_
    show Steps p.tables e below (T1.setTop (mkF m 4 #[.val (.ref a1)] [(.ref b)])) _
    refine XS.aloadN X1.here hx rfl (hb hby own_d_prog_103_method_9_4) rfl rfl ?_
    show Steps p.tables e below (T1.setTop (mkF m 5 #[.val (.ref a1)] [(.ref a1), (.ref b)])) _
    refine st2 _ ?_
    show Steps p.tables e below (T2.setTop (mkF m 8 #[.val (.ref a1)] [(.int (Int32.ofNat k_)), (.ref b)])) _
    refine st4 _ ?_
    exact kt
  obtain ⟨fs, hr, hrun, hended, hW, hsame⟩ := X4.leave (v := some (.ref r5)) (fun h => by rw [Bd.returns] at h; cases h)
  refine ⟨_, _, pre11 _ ?_, hrun, hended, _, _, rfl, ?_, ⟨_, rfl⟩, hW, hsame.mono (by decide) (by decide)⟩
  · show Steps p.tables e below (T4.setTop (mkF m 11 #[.val (.ref a1)] [(.ref r5)])) _
    jvm_step X4.here [X4.here.top, hx, (hb hby own_d_prog_103_method_9_11), X4.method', Bd.returns, Value.isRef, FieldType.isReference]
    first | (intro acts; rw [hr _ acts rfl rfl rfl]) | rw [hr _ _ rfl rfl rfl]
    exact Steps.refl _
  · show own_Q_ist Z a1 b k_ N f h0 n0 (some (.ref r5)) T4.heap _
    skip
    exact ⟨_, rfl, nf10, k9, sz_r5, c5_1.congr fun j hj => if_pos (by omega)⟩
theorem own_d_prog_103_method_1_0 : decode prog_103_method_1_code 0 = .ok (.aload_n 0, 1) := by decide +kernel
theorem own_d_prog_103_method_1_1 : decode prog_103_method_1_code 1 = .ok (.invokespecial 1, 3) := by decide +kernel
theorem own_d_prog_103_method_1_4 : decode prog_103_method_1_code 4 = .ok (.aload_n 0, 1) := by decide +kernel
theorem own_d_prog_103_method_1_5 : decode prog_103_method_1_code 5 = .ok (.bipush 16, 2) := by decide +kernel
theorem own_d_prog_103_method_1_7 : decode prog_103_method_1_code 7 = .ok (.newarray .int, 2) := by decide +kernel
theorem own_d_prog_103_method_1_9 : decode prog_103_method_1_code 9 = .ok (.putfield 7, 3) := by decide +kernel
theorem own_d_prog_103_method_1_12 : decode prog_103_method_1_code 12 = .ok (.aload_n 0, 1) := by decide +kernel
theorem own_d_prog_103_method_1_13 : decode prog_103_method_1_code 13 = .ok (.sipush 1024, 3) := by decide +kernel
theorem own_d_prog_103_method_1_16 : decode prog_103_method_1_code 16 = .ok (.newarray .int, 2) := by decide +kernel
theorem own_d_prog_103_method_1_18 : decode prog_103_method_1_code 18 = .ok (.putfield 13, 3) := by decide +kernel
theorem own_d_prog_103_method_1_21 : decode prog_103_method_1_code 21 = .ok (.aload_n 0, 1) := by decide +kernel
theorem own_d_prog_103_method_1_22 : decode prog_103_method_1_code 22 = .ok (.sipush 1025, 3) := by decide +kernel
theorem own_d_prog_103_method_1_25 : decode prog_103_method_1_code 25 = .ok (.newarray .int, 2) := by decide +kernel
theorem own_d_prog_103_method_1_27 : decode prog_103_method_1_code 27 = .ok (.putfield 16, 3) := by decide +kernel
theorem own_d_prog_103_method_1_30 : decode prog_103_method_1_code 30 = .ok (.aload_n 0, 1) := by decide +kernel
theorem own_d_prog_103_method_1_31 : decode prog_103_method_1_code 31 = .ok (.iconst (-1), 1) := by decide +kernel
theorem own_d_prog_103_method_1_32 : decode prog_103_method_1_code 32 = .ok (.putfield 19, 3) := by decide +kernel
theorem own_d_prog_103_method_1_35 : decode prog_103_method_1_code 35 = .ok (.return_, 1) := by decide +kernel
theorem own_ef_ctor (m : MethodId) (a1 : Addr) : entryFrame m #[(.ref a1)] 1 = mkF m 0 #[.val (.ref a1)] [] := by first | (simp [entryFrame, mkF, argsToLocals, Value.category]; done) | rfl
def own_Q_ctor (Z : State) (a1 : Addr) (h0 : Heap) (n0 : Nat) (v : Option Value) (h : Heap) (L : List Loc) : Prop := ∃ b : Addr, v = none ∧ Fr n0 L ∧ Keep h0 h [a1] ∧ h0.size ≤ b ∧ Fld Z h a1 "com/example/interleaving/interleaving/store/StateGraph" "initial" "[I" (.ref b) ∧ Fld Z h a1 "com/example/interleaving/interleaving/store/StateGraph" "initialCount" "I" (.int (0 : Int32)) ∧ own_A Z h b 16 (fun _ => 0) ∧ Exa Z h b "[I"
set_option maxRecDepth 65536 in
set_option maxHeartbeats 40000000 in
theorem own_rm_ctor (l : Launch) (Z : State) (a0 : Array Value) (hw : ∀ d ∈ tables_1, d.before a0 Z = true) (ws : List Jvm.Cond) (a1 : Addr) (h0 : Heap) (n0 : Nat) (Z0 : n0 ≤ h0.size) (E1 : Exa Z h0 a1 "com/example/interleaving/interleaving/store/StateGraph") (F_initial : Fld Z h0 a1 "com/example/interleaving/interleaving/store/StateGraph" "initial" "[I" .null) (F_targets : Fld Z h0 a1 "com/example/interleaving/interleaving/store/StateGraph" "targets" "[I" .null) (F_firsts : Fld Z h0 a1 "com/example/interleaving/interleaving/store/StateGraph" "firsts" "[I" .null) (F_open : Fld Z h0 a1 "com/example/interleaving/interleaving/store/StateGraph" "open" "I" (.int (0 : Int32))) (F_initialCount : Fld Z h0 a1 "com/example/interleaving/interleaving/store/StateGraph" "initialCount" "I" (.int (0 : Int32))) (g1 : n0 ≤ a1) :
    MetFree l (⟨"com/example/interleaving/interleaving/store/StateGraph", "<init>", "()V"⟩ : MethodName) (head1 (Jvm.Cond.code (⟨"com/example/interleaving/interleaving/store/StateGraph", "<init>", "()V"⟩ : MethodName) prog_103_method_1_code 1 none :: ws) ({ frames := 1, cells := 3, slots := 2065, locals := 12 } : Room)) (fun a U => a = #[(.ref a1)] ∧ Z.Warmed39 U.vm ∧ U.heap = h0) (fun _ _ _ _ _ => True) (fun _ U o U' => ∃ v L, o = .returned v ∧ own_Q_ctor Z a1 h0 n0 v U'.heap L ∧ FrameEnd U o U' L ({ frames := 1, cells := 3, slots := 2065, locals := 12 } : Room).cells ({ frames := 1, cells := 3, slots := 2065, locals := 12 } : Room).slots) := by
  refine MetFree.of_bodySF (plainFor_of_name own_pn1) hisR ?_
  intro p e s m args below meth c s₁ Bd hml0 hP hK
  obtain ⟨rfl, hZ, hh⟩ := hP
  have hx := Bd.exec
  have hby := Bd.bytes
  have hml : c.maxLocals = 1 := hml0
  have hown : s.vm.findClass "com/example/interleaving/interleaving/store/StateGraph" = some m.cls := findClass_of_methodNamed Bd.named
  have hnm := (name_of_methodNamed Bd.named Bd.method).1
  have X0 : Stand p l e ({ frames := 1, cells := 3, slots := 2065, locals := 12 } : Room) s m #[(.ref a1)] below meth c s₁ [] 0 0 := Stand.of_body Bd
  have e0 : s₁.heap = h0 := by rw [← hh, Bd.state]; rfl
  have N0 := Fr.nil n0
  have K0 : Keep h0 h0 [a1] := Keep.refl _ _
  have pre0 : ∀ t, Steps p.tables e below (s₁.setTop (mkF m 0 #[.val (.ref a1)] [])) t → Steps p.tables e below (s₁.setTop (entryFrame m #[(.ref a1)] 1)) t := fun t k => castTop (own_ef_ctor m a1) k
  obtain ⟨T1, X1, e1, st1⟩ := initO X0 hx hZ hown (hw _ (List.mem_of_getElem? (i := 7) rfl)) (hw _ (List.mem_of_getElem? (i := 8) rfl)) (hw _ (List.mem_of_getElem? (i := 9) rfl)) e0 (g := (mkF m 1 #[.val (.ref a1)] [(.ref a1)])) rfl (by rw [hml]; rfl) rfl (hb hby own_d_prog_103_method_1_1) (by decide) (W := 0) (by show 2 * 0 + _ ≤ _; exact Nat.le_of_eq rfl) (by decide)
  obtain ⟨T2, h2, k2, X2, e2, E2, A2, I2, st2⟩ := newPE X1 hx hZ (hw _ (List.mem_of_getElem? (i := 10) rfl)) e1 (g := (mkF m 7 #[.val (.ref a1)] [(.int (16 : Int32)), (.ref a1)])) rfl (hb hby own_d_prog_103_method_1_7) rfl (by decide) (cap := 16) (by decide) (by decide) (by decide) (by decide) (ad := "[I") rfl
  obtain ⟨b2, g2⟩ : ∃ z, z = h0.size := ⟨_, rfl⟩
  rw [← g2] at A2 I2 st2
  have sz_b2 : h0.size ≤ b2 := Nat.le_trans K0.1 (Nat.le_of_eq g2.symm)
  have gn_b2 : n0 ≤ b2 := Nat.le_trans Z0 sz_b2
  have ne_a1_b2 : a1 ≠ b2 := Nat.ne_of_lt (Nat.lt_of_lt_of_le F_initialCount.lt (Nat.le_of_eq g2.symm))
  have f3 := E1.ext E2
  have f4 := F_initial.ext E2
  have f5 := F_targets.ext E2
  have f6 := F_firsts.ext E2
  have f7 := F_open.ext E2
  have f8 := F_initialCount.ext E2
  have k9 := K0.ext E2
  have f10 : own_A Z h2 b2 16 (fun _ => 0) := own_A.new A2 rfl
  obtain ⟨T11, h11, X11, e11, W11, st11⟩ := putF X2 hx hZ hown (host := "") (Or.inl (hw _ (List.mem_of_getElem? (i := 11) rfl))) Via.refl e2 f4 f3 (Or.inl (hw _ (List.mem_of_getElem? (i := 12) rfl))) (hw _ (List.mem_of_getElem? (i := 2) rfl)) (ty := (.array .int)) (by decide) rfl rfl (g := (mkF m 9 #[.val (.ref a1)] [(.ref b2), (.ref a1)])) rfl rfl (hb hby own_d_prog_103_method_1_9)
  have f12 := f3.wr W11
  have f14 := f5.other W11 (Or.inr (slot_ne (Or.inl (hw _ (List.mem_of_getElem? (i := 14) rfl))) (Or.inl (hw _ (List.mem_of_getElem? (i := 12) rfl))) (by decide) (t := (.array .int)) (t' := (.array .int)) (by decide) (by decide)))
  have f15 := f6.other W11 (Or.inr (slot_ne (Or.inl (hw _ (List.mem_of_getElem? (i := 16) rfl))) (Or.inl (hw _ (List.mem_of_getElem? (i := 12) rfl))) (by decide) (t := (.array .int)) (t' := (.array .int)) (by decide) (by decide)))
  have f16 := f7.other W11 (Or.inr (slot_ne (Or.inl (hw _ (List.mem_of_getElem? (i := 18) rfl))) (Or.inl (hw _ (List.mem_of_getElem? (i := 12) rfl))) (by decide) (t := .int) (t' := (.array .int)) (by decide) (by decide)))
  have f17 := f8.other W11 (Or.inr (slot_ne (Or.inl (hw _ (List.mem_of_getElem? (i := 25) rfl))) (Or.inl (hw _ (List.mem_of_getElem? (i := 12) rfl))) (by decide) (t := .int) (t' := (.array .int)) (by decide) (by decide)))
  have f18 := I2.wr W11
  have f19 := f10.other W11 (Ne.symm ne_a1_b2)
  have k20 := k9.wr W11 (Or.inl (List.mem_of_getElem? (i := 0) rfl))
  have nf21 := Fr.snoc X11 N0 g1
  have f22 := f4.same W11
  obtain ⟨T23, h23, k23, X23, e23, E23, A23, I23, st23⟩ := newPE X11 hx hZ (hw _ (List.mem_of_getElem? (i := 10) rfl)) e11 (g := (mkF m 16 #[.val (.ref a1)] [(.int (1024 : Int32)), (.ref a1)])) rfl (hb hby own_d_prog_103_method_1_16) rfl (by decide) (cap := 1024) (by decide) (by decide) (by decide) (by decide) (ad := "[I") rfl
  obtain ⟨b23, g23⟩ : ∃ z, z = h11.size := ⟨_, rfl⟩
  rw [← g23] at A23 I23 st23
  have sz_b23 : h0.size ≤ b23 := Nat.le_trans k20.1 (Nat.le_of_eq g23.symm)
  have gn_b23 : n0 ≤ b23 := Nat.le_trans Z0 sz_b23
  have ne_a1_b23 : a1 ≠ b23 := Nat.ne_of_lt (Nat.lt_of_lt_of_le f17.lt (Nat.le_of_eq g23.symm))
  have ne_b2_b23 : b2 ≠ b23 := Nat.ne_of_lt (Nat.lt_of_lt_of_le f19.lt (Nat.le_of_eq g23.symm))
  have f24 := f12.ext E23
  have f25 := f22.ext E23
  have f26 := f14.ext E23
  have f27 := f15.ext E23
  have f28 := f16.ext E23
  have f29 := f17.ext E23
  have f30 := f18.ext E23
  have f31 := f19.ext E23
  have k32 := k20.ext E23
  have f33 : own_A Z h23 b23 1024 (fun _ => 0) := own_A.new A23 rfl
  obtain ⟨T34, h34, X34, e34, W34, st34⟩ := putF X23 hx hZ hown (host := "") (Or.inl (hw _ (List.mem_of_getElem? (i := 13) rfl))) Via.refl e23 f26 f24 (Or.inl (hw _ (List.mem_of_getElem? (i := 14) rfl))) (hw _ (List.mem_of_getElem? (i := 2) rfl)) (ty := (.array .int)) (by decide) rfl rfl (g := (mkF m 18 #[.val (.ref a1)] [(.ref b23), (.ref a1)])) rfl rfl (hb hby own_d_prog_103_method_1_18)
  have f35 := f24.wr W34
  have f36 := f25.other W34 (Or.inr (slot_ne (Or.inl (hw _ (List.mem_of_getElem? (i := 12) rfl))) (Or.inl (hw _ (List.mem_of_getElem? (i := 14) rfl))) (by decide) (t := (.array .int)) (t' := (.array .int)) (by decide) (by decide)))
  have f38 := f27.other W34 (Or.inr (slot_ne (Or.inl (hw _ (List.mem_of_getElem? (i := 16) rfl))) (Or.inl (hw _ (List.mem_of_getElem? (i := 14) rfl))) (by decide) (t := (.array .int)) (t' := (.array .int)) (by decide) (by decide)))
  have f39 := f28.other W34 (Or.inr (slot_ne (Or.inl (hw _ (List.mem_of_getElem? (i := 18) rfl))) (Or.inl (hw _ (List.mem_of_getElem? (i := 14) rfl))) (by decide) (t := .int) (t' := (.array .int)) (by decide) (by decide)))
  have f40 := f29.other W34 (Or.inr (slot_ne (Or.inl (hw _ (List.mem_of_getElem? (i := 25) rfl))) (Or.inl (hw _ (List.mem_of_getElem? (i := 14) rfl))) (by decide) (t := .int) (t' := (.array .int)) (by decide) (by decide)))
  have f41 := f30.wr W34
  have f42 := f31.other W34 (Ne.symm ne_a1_b2)
  have f43 := I23.wr W34
  have f44 := f33.other W34 (Ne.symm ne_a1_b23)
  have k45 := k32.wr W34 (Or.inl (List.mem_of_getElem? (i := 0) rfl))
  have nf46 := Fr.snoc X34 nf21 g1
  have f47 := f26.same W34
  have pre48 : ∀ t, Steps p.tables e below (T34.setTop (mkF m 25 #[.val (.ref a1)] [(.int (1025 : Int32)), (.ref a1)])) t → Steps p.tables e below (s₁.setTop (entryFrame m #[(.ref a1)] 1)) t := by
    intro t kt
    refine pre0 t ?_
    show Steps p.tables e below (s₁.setTop (mkF m 0 #[.val (.ref a1)] [])) _
    refine XS.aloadN X0.here hx rfl (hb hby own_d_prog_103_method_1_0) rfl rfl ?_
    show Steps p.tables e below (s₁.setTop (mkF m 1 #[.val (.ref a1)] [(.ref a1)])) _
    refine st1 _ ?_
    show Steps p.tables e below (T1.setTop (mkF m 4 #[.val (.ref a1)] [])) _
    refine XS.aloadN X1.here hx rfl (hb hby own_d_prog_103_method_1_4) rfl rfl ?_
    show Steps p.tables e below (T1.setTop (mkF m 5 #[.val (.ref a1)] [(.ref a1)])) _
    refine XS.bipush X1.here hx rfl (hb hby own_d_prog_103_method_1_5) ?_
    show Steps p.tables e below (T1.setTop (mkF m 7 #[.val (.ref a1)] [(.int (16 : Int32)), (.ref a1)])) _
    refine st2 _ ?_
    show Steps p.tables e below (T2.setTop (mkF m 9 #[.val (.ref a1)] [(.ref b2), (.ref a1)])) _
    refine st11 _ ?_
    show Steps p.tables e below (T11.setTop (mkF m 12 #[.val (.ref a1)] [])) _
    refine XS.aloadN X11.here hx rfl (hb hby own_d_prog_103_method_1_12) rfl rfl ?_
    show Steps p.tables e below (T11.setTop (mkF m 13 #[.val (.ref a1)] [(.ref a1)])) _
    refine XS.sipush X11.here hx rfl (hb hby own_d_prog_103_method_1_13) ?_
    show Steps p.tables e below (T11.setTop (mkF m 16 #[.val (.ref a1)] [(.int (1024 : Int32)), (.ref a1)])) _
    refine st23 _ ?_
    show Steps p.tables e below (T23.setTop (mkF m 18 #[.val (.ref a1)] [(.ref b23), (.ref a1)])) _
    refine st34 _ ?_
    show Steps p.tables e below (T34.setTop (mkF m 21 #[.val (.ref a1)] [])) _
    refine XS.aloadN X34.here hx rfl (hb hby own_d_prog_103_method_1_21) rfl rfl ?_
    show Steps p.tables e below (T34.setTop (mkF m 22 #[.val (.ref a1)] [(.ref a1)])) _
    refine XS.sipush X34.here hx rfl (hb hby own_d_prog_103_method_1_22) ?_
    exact kt
  obtain ⟨T49, h49, k49, X49, e49, E49, A49, I49, st49⟩ := newPE X34 hx hZ (hw _ (List.mem_of_getElem? (i := 10) rfl)) e34 (g := (mkF m 25 #[.val (.ref a1)] [(.int (1025 : Int32)), (.ref a1)])) rfl (hb hby own_d_prog_103_method_1_25) rfl (by decide) (cap := 1025) (by decide) (by decide) (by decide) (by decide) (ad := "[I") rfl
  obtain ⟨b49, g49⟩ : ∃ z, z = h34.size := ⟨_, rfl⟩
  rw [← g49] at A49 I49 st49
  have sz_b49 : h0.size ≤ b49 := Nat.le_trans k45.1 (Nat.le_of_eq g49.symm)
  have gn_b49 : n0 ≤ b49 := Nat.le_trans Z0 sz_b49
  have ne_a1_b49 : a1 ≠ b49 := Nat.ne_of_lt (Nat.lt_of_lt_of_le f40.lt (Nat.le_of_eq g49.symm))
  have ne_b2_b49 : b2 ≠ b49 := Nat.ne_of_lt (Nat.lt_of_lt_of_le f42.lt (Nat.le_of_eq g49.symm))
  have ne_b23_b49 : b23 ≠ b49 := Nat.ne_of_lt (Nat.lt_of_lt_of_le f44.lt (Nat.le_of_eq g49.symm))
  have f50 := f35.ext E49
  have f51 := f36.ext E49
  have f52 := f47.ext E49
  have f53 := f38.ext E49
  have f54 := f39.ext E49
  have f55 := f40.ext E49
  have f56 := f41.ext E49
  have f57 := f42.ext E49
  have f58 := f43.ext E49
  have f59 := f44.ext E49
  have k60 := k45.ext E49
  have f61 : own_A Z h49 b49 1025 (fun _ => 0) := own_A.new A49 rfl
  obtain ⟨T62, h62, X62, e62, W62, st62⟩ := putF X49 hx hZ hown (host := "") (Or.inl (hw _ (List.mem_of_getElem? (i := 15) rfl))) Via.refl e49 f53 f50 (Or.inl (hw _ (List.mem_of_getElem? (i := 16) rfl))) (hw _ (List.mem_of_getElem? (i := 2) rfl)) (ty := (.array .int)) (by decide) rfl rfl (g := (mkF m 27 #[.val (.ref a1)] [(.ref b49), (.ref a1)])) rfl rfl (hb hby own_d_prog_103_method_1_27)
  have f63 := f50.wr W62
  have f64 := f51.other W62 (Or.inr (slot_ne (Or.inl (hw _ (List.mem_of_getElem? (i := 12) rfl))) (Or.inl (hw _ (List.mem_of_getElem? (i := 16) rfl))) (by decide) (t := (.array .int)) (t' := (.array .int)) (by decide) (by decide)))
  have f65 := f52.other W62 (Or.inr (slot_ne (Or.inl (hw _ (List.mem_of_getElem? (i := 14) rfl))) (Or.inl (hw _ (List.mem_of_getElem? (i := 16) rfl))) (by decide) (t := (.array .int)) (t' := (.array .int)) (by decide) (by decide)))
  have f67 := f54.other W62 (Or.inr (slot_ne (Or.inl (hw _ (List.mem_of_getElem? (i := 18) rfl))) (Or.inl (hw _ (List.mem_of_getElem? (i := 16) rfl))) (by decide) (t := .int) (t' := (.array .int)) (by decide) (by decide)))
  have f68 := f55.other W62 (Or.inr (slot_ne (Or.inl (hw _ (List.mem_of_getElem? (i := 25) rfl))) (Or.inl (hw _ (List.mem_of_getElem? (i := 16) rfl))) (by decide) (t := .int) (t' := (.array .int)) (by decide) (by decide)))
  have f69 := f56.wr W62
  have f70 := f57.other W62 (Ne.symm ne_a1_b2)
  have f71 := f58.wr W62
  have f72 := f59.other W62 (Ne.symm ne_a1_b23)
  have f73 := I49.wr W62
  have f74 := f61.other W62 (Ne.symm ne_a1_b49)
  have k75 := k60.wr W62 (Or.inl (List.mem_of_getElem? (i := 0) rfl))
  have nf76 := Fr.snoc X62 nf46 g1
  have f77 := f53.same W62
  obtain ⟨T78, h78, X78, e78, W78, st78⟩ := putF X62 hx hZ hown (host := "") (Or.inl (hw _ (List.mem_of_getElem? (i := 17) rfl))) Via.refl e62 f67 f63 (Or.inl (hw _ (List.mem_of_getElem? (i := 18) rfl))) (hw _ (List.mem_of_getElem? (i := 2) rfl)) (ty := .int) (by decide) rfl rfl (g := (mkF m 32 #[.val (.ref a1)] [(.int (-1 : Int32)), (.ref a1)])) rfl rfl (hb hby own_d_prog_103_method_1_32)
  have f79 := f63.wr W78
  have f80 := f64.other W78 (Or.inr (slot_ne (Or.inl (hw _ (List.mem_of_getElem? (i := 12) rfl))) (Or.inl (hw _ (List.mem_of_getElem? (i := 18) rfl))) (by decide) (t := (.array .int)) (t' := .int) (by decide) (by decide)))
  have f81 := f65.other W78 (Or.inr (slot_ne (Or.inl (hw _ (List.mem_of_getElem? (i := 14) rfl))) (Or.inl (hw _ (List.mem_of_getElem? (i := 18) rfl))) (by decide) (t := (.array .int)) (t' := .int) (by decide) (by decide)))
  have f82 := f77.other W78 (Or.inr (slot_ne (Or.inl (hw _ (List.mem_of_getElem? (i := 16) rfl))) (Or.inl (hw _ (List.mem_of_getElem? (i := 18) rfl))) (by decide) (t := (.array .int)) (t' := .int) (by decide) (by decide)))
  have f84 := f68.other W78 (Or.inr (slot_ne (Or.inl (hw _ (List.mem_of_getElem? (i := 25) rfl))) (Or.inl (hw _ (List.mem_of_getElem? (i := 18) rfl))) (by decide) (t := .int) (t' := .int) (by decide) (by decide)))
  have f85 := f69.wr W78
  have f86 := f70.other W78 (Ne.symm ne_a1_b2)
  have f87 := f71.wr W78
  have f88 := f72.other W78 (Ne.symm ne_a1_b23)
  have f89 := f73.wr W78
  have f90 := f74.other W78 (Ne.symm ne_a1_b49)
  have k91 := k75.wr W78 (Or.inl (List.mem_of_getElem? (i := 0) rfl))
  have nf92 := Fr.snoc X78 nf76 g1
  have f93 := f67.same W78
  have pre94 : ∀ t, Steps p.tables e below (T78.setTop (mkF m 35 #[.val (.ref a1)] [])) t → Steps p.tables e below (s₁.setTop (entryFrame m #[(.ref a1)] 1)) t := by
    intro t kt
    refine pre48 t ?_
    show Steps p.tables e below (T34.setTop (mkF m 25 #[.val (.ref a1)] [(.int (1025 : Int32)), (.ref a1)])) _
    refine st49 _ ?_
    show Steps p.tables e below (T49.setTop (mkF m 27 #[.val (.ref a1)] [(.ref b49), (.ref a1)])) _
    refine st62 _ ?_
    show Steps p.tables e below (T62.setTop (mkF m 30 #[.val (.ref a1)] [])) _
    refine XS.aloadN X62.here hx rfl (hb hby own_d_prog_103_method_1_30) rfl rfl ?_
    show Steps p.tables e below (T62.setTop (mkF m 31 #[.val (.ref a1)] [(.ref a1)])) _
    refine XS.iconst X62.here hx rfl (hb hby own_d_prog_103_method_1_31) ?_
    show Steps p.tables e below (T62.setTop (mkF m 32 #[.val (.ref a1)] [(.int (-1 : Int32)), (.ref a1)])) _
    refine st78 _ ?_
    exact kt
  obtain ⟨fs, hr, hrun, hended, hW, hsame⟩ := X78.leave (v := none) (fun _ => rfl)
  refine ⟨_, _, pre94 _ ?_, hrun, hended, _, _, rfl, ?_, ⟨_, rfl⟩, hW, hsame.mono (by decide) (by decide)⟩
  · show Steps p.tables e below (T78.setTop (mkF m 35 #[.val (.ref a1)] [])) _
    exact X78.returnOut hx Bd.returns (hb hby own_d_prog_103_method_1_35) hr
  · show own_Q_ctor Z a1 h0 n0 (none) T78.heap _
    rw [e78]
    exact ⟨_, rfl, nf92, k91, sz_b2, f80, f84, f86, f85⟩
theorem own_d_prog_103_method_2_0 : decode prog_103_method_2_code 0 = .ok (.aload_n 0, 1) := by decide +kernel
theorem own_d_prog_103_method_2_1 : decode prog_103_method_2_code 1 = .ok (.getfield 23, 3) := by decide +kernel
theorem own_d_prog_103_method_2_4 : decode prog_103_method_2_code 4 = .ok (.aload_n 0, 1) := by decide +kernel
theorem own_d_prog_103_method_2_5 : decode prog_103_method_2_code 5 = .ok (.getfield 7, 3) := by decide +kernel
theorem own_d_prog_103_method_2_8 : decode prog_103_method_2_code 8 = .ok (.arraylength, 1) := by decide +kernel
theorem own_d_prog_103_method_2_9 : decode prog_103_method_2_code 9 = .ok (.if_icmp .ne 20, 3) := by decide +kernel
theorem own_d_prog_103_method_2_12 : decode prog_103_method_2_code 12 = .ok (.aload_n 0, 1) := by decide +kernel
theorem own_d_prog_103_method_2_13 : decode prog_103_method_2_code 13 = .ok (.aload_n 0, 1) := by decide +kernel
theorem own_d_prog_103_method_2_14 : decode prog_103_method_2_code 14 = .ok (.getfield 7, 3) := by decide +kernel
theorem own_d_prog_103_method_2_17 : decode prog_103_method_2_code 17 = .ok (.aload_n 0, 1) := by decide +kernel
theorem own_d_prog_103_method_2_18 : decode prog_103_method_2_code 18 = .ok (.getfield 23, 3) := by decide +kernel
theorem own_d_prog_103_method_2_21 : decode prog_103_method_2_code 21 = .ok (.iconst 2, 1) := by decide +kernel
theorem own_d_prog_103_method_2_22 : decode prog_103_method_2_code 22 = .ok (.imul, 1) := by decide +kernel
theorem own_d_prog_103_method_2_23 : decode prog_103_method_2_code 23 = .ok (.invokestatic 26, 3) := by decide +kernel
theorem own_d_prog_103_method_2_26 : decode prog_103_method_2_code 26 = .ok (.putfield 7, 3) := by decide +kernel
theorem own_d_prog_103_method_2_29 : decode prog_103_method_2_code 29 = .ok (.aload_n 0, 1) := by decide +kernel
theorem own_d_prog_103_method_2_30 : decode prog_103_method_2_code 30 = .ok (.getfield 7, 3) := by decide +kernel
theorem own_d_prog_103_method_2_33 : decode prog_103_method_2_code 33 = .ok (.aload_n 0, 1) := by decide +kernel
theorem own_d_prog_103_method_2_34 : decode prog_103_method_2_code 34 = .ok (.dup, 1) := by decide +kernel
theorem own_d_prog_103_method_2_35 : decode prog_103_method_2_code 35 = .ok (.getfield 23, 3) := by decide +kernel
theorem own_d_prog_103_method_2_38 : decode prog_103_method_2_code 38 = .ok (.dup_x1, 1) := by decide +kernel
theorem own_d_prog_103_method_2_39 : decode prog_103_method_2_code 39 = .ok (.iconst 1, 1) := by decide +kernel
theorem own_d_prog_103_method_2_40 : decode prog_103_method_2_code 40 = .ok (.iadd, 1) := by decide +kernel
theorem own_d_prog_103_method_2_41 : decode prog_103_method_2_code 41 = .ok (.putfield 23, 3) := by decide +kernel
theorem own_d_prog_103_method_2_44 : decode prog_103_method_2_code 44 = .ok (.iload_n 1, 1) := by decide +kernel
theorem own_d_prog_103_method_2_45 : decode prog_103_method_2_code 45 = .ok (.iastore, 1) := by decide +kernel
theorem own_d_prog_103_method_2_46 : decode prog_103_method_2_code 46 = .ok (.return_, 1) := by decide +kernel
theorem own_ef_add (m : MethodId) (a1 : Addr) (p2 : Int32) : entryFrame m #[(.ref a1), (.int p2)] 2 = mkF m 0 #[.val (.ref a1), .val (.int p2)] [] := by first | (simp [entryFrame, mkF, argsToLocals, Value.category]; done) | rfl
def own_Q_add (Z : State) (a1 : Addr) (p2 : Int32) (b : Addr) (k_ : Nat) (N : Nat) (f : Nat → Int32) (h0 : Heap) (n0 : Nat) (v : Option Value) (h : Heap) (L : List Loc) : Prop := v = none ∧ Fr n0 L ∧ Keep h0 h [a1, b] ∧ Fld Z h a1 "com/example/interleaving/interleaving/store/StateGraph" "initial" "[I" (.ref b) ∧ Fld Z h a1 "com/example/interleaving/interleaving/store/StateGraph" "initialCount" "I" (.int (Int32.ofNat (k_ + 1))) ∧ own_A Z h b N (own_upd f k_ p2)
set_option maxRecDepth 65536 in
set_option maxHeartbeats 40000000 in
theorem own_rm_add (l : Launch) (Z : State) (a0 : Array Value) (hw : ∀ d ∈ tables_1, d.before a0 Z = true) (ws : List Jvm.Cond) (a1 : Addr) (p2 : Int32) (b : Addr) (k_ : Nat) (N : Nat) (f : Nat → Int32) (h0 : Heap) (n0 : Nat) (Z0 : n0 ≤ h0.size) (E1 : Exa Z h0 a1 "com/example/interleaving/interleaving/store/StateGraph") (F1 : Fld Z h0 a1 "com/example/interleaving/interleaving/store/StateGraph" "initial" "[I" (.ref b)) (F2 : Fld Z h0 a1 "com/example/interleaving/interleaving/store/StateGraph" "initialCount" "I" (.int (Int32.ofNat k_))) (A1 : own_A Z h0 b N f) (g1 : n0 ≤ a1) (g2 : n0 ≤ b) (nab : a1 ≠ b) (hk : k_ < N) (hN : N ≤ 32) :
    MetFree l (⟨"com/example/interleaving/interleaving/store/StateGraph", "addInitial", "(I)V"⟩ : MethodName) (head1 (Jvm.Cond.code (⟨"com/example/interleaving/interleaving/store/StateGraph", "addInitial", "(I)V"⟩ : MethodName) prog_103_method_2_code 2 none :: ws) ({ frames := 0, cells := 0, slots := 0, locals := 0 } : Room)) (fun a U => a = #[(.ref a1), (.int p2)] ∧ Z.Warmed39 U.vm ∧ U.heap = h0) (fun _ _ _ _ _ => True) (fun _ U o U' => ∃ v L, o = .returned v ∧ own_Q_add Z a1 p2 b k_ N f h0 n0 v U'.heap L ∧ FrameEnd U o U' L ({ frames := 0, cells := 0, slots := 0, locals := 0 } : Room).cells ({ frames := 0, cells := 0, slots := 0, locals := 0 } : Room).slots) := by
  refine MetFree.of_bodySF (plainFor_of_name own_pn1) hisR ?_
  intro p e s m args below meth c s₁ Bd hml0 hP hK
  obtain ⟨rfl, hZ, hh⟩ := hP
  have hx := Bd.exec
  have hby := Bd.bytes
  have hml : c.maxLocals = 2 := hml0
  have hown : s.vm.findClass "com/example/interleaving/interleaving/store/StateGraph" = some m.cls := findClass_of_methodNamed Bd.named
  have hnm := (name_of_methodNamed Bd.named Bd.method).1
  have X0 : Stand p l e ({ frames := 0, cells := 0, slots := 0, locals := 0 } : Room) s m #[(.ref a1), (.int p2)] below meth c s₁ [] 0 0 := Stand.of_body Bd
  have e0 : s₁.heap = h0 := by rw [← hh, Bd.state]; rfl
  have N0 := Fr.nil n0
  have K0 : Keep h0 h0 [a1, b] := Keep.refl _ _
  have pre0 : ∀ t, Steps p.tables e below (s₁.setTop (mkF m 0 #[.val (.ref a1), .val (.int p2)] [])) t → Steps p.tables e below (s₁.setTop (entryFrame m #[(.ref a1), (.int p2)] 2)) t := fun t k => castTop (own_ef_add m a1 p2) k
  obtain ⟨T1, X1, e1, st1⟩ := getF X0 hx hZ hown (host := "") (Or.inl (hw _ (List.mem_of_getElem? (i := 24) rfl))) Via.refl e0 F2 (g := (mkF m 1 #[.val (.ref a1), .val (.int p2)] [(.ref a1)])) rfl rfl (hb hby own_d_prog_103_method_2_1)
  obtain ⟨T2, X2, e2, st2⟩ := getF X1 hx hZ hown (host := "") (Or.inl (hw _ (List.mem_of_getElem? (i := 11) rfl))) Via.refl e1 F1 (g := (mkF m 5 #[.val (.ref a1), .val (.int p2)] [(.ref a1), (.int (Int32.ofNat k_))])) rfl rfl (hb hby own_d_prog_103_method_2_5)
  obtain ⟨cl3, Ar3, S3, -⟩ := id A1
  obtain ⟨T4, X4, e4, st4⟩ := getF X2 hx hZ hown (host := "") (Or.inl (hw _ (List.mem_of_getElem? (i := 11) rfl))) Via.refl e2 F1 (g := (mkF m 30 #[.val (.ref a1), .val (.int p2)] [(.ref a1)])) rfl rfl (hb hby own_d_prog_103_method_2_30)
  obtain ⟨T5, X5, e5, st5⟩ := getF X4 hx hZ hown (host := "") (Or.inl (hw _ (List.mem_of_getElem? (i := 24) rfl))) Via.refl e4 F2 (g := (mkF m 35 #[.val (.ref a1), .val (.int p2)] [(.ref a1), (.ref a1), (.ref b)])) rfl rfl (hb hby own_d_prog_103_method_2_35)
  have pre6 : ∀ t, Steps p.tables e below (T5.setTop (mkF m 39 #[.val (.ref a1), .val (.int p2)] [(.int (Int32.ofNat k_)), (.ref a1), (.int (Int32.ofNat k_)), (.ref b)])) t → Steps p.tables e below (s₁.setTop (entryFrame m #[(.ref a1), (.int p2)] 2)) t := by
    intro t kt
    refine pre0 t ?_
    show Steps p.tables e below (s₁.setTop (mkF m 0 #[.val (.ref a1), .val (.int p2)] [])) _
    refine XS.aloadN X0.here hx rfl (hb hby own_d_prog_103_method_2_0) rfl rfl ?_
    show Steps p.tables e below (s₁.setTop (mkF m 1 #[.val (.ref a1), .val (.int p2)] [(.ref a1)])) _
    refine st1 _ ?_
    show Steps p.tables e below (T1.setTop (mkF m 4 #[.val (.ref a1), .val (.int p2)] [(.int (Int32.ofNat k_))])) _
    refine XS.aloadN X1.here hx rfl (hb hby own_d_prog_103_method_2_4) rfl rfl ?_
    show Steps p.tables e below (T1.setTop (mkF m 5 #[.val (.ref a1), .val (.int p2)] [(.ref a1), (.int (Int32.ofNat k_))])) _
    refine st2 _ ?_
    show Steps p.tables e below (T2.setTop (mkF m 8 #[.val (.ref a1), .val (.int p2)] [(.ref b), (.int (Int32.ofNat k_))])) _
    refine X2.arraylength hx (by rw [e2]; exact Ar3.1) (State.isArrayOf_alike hZ.alike Ar3.2.1) (g := (mkF m 8 #[.val (.ref a1), .val (.int p2)] [(.ref b), (.int (Int32.ofNat k_))])) rfl rfl (hb hby own_d_prog_103_method_2_8) _ ?_
    rw [own_len (z := (Int32.ofNat N)) S3 rfl]
    show Steps p.tables e below (T2.setTop (mkF m 9 #[.val (.ref a1), .val (.int p2)] [(.int (Int32.ofNat N)), (.int (Int32.ofNat k_))])) _
    refine XS.icmpYes X2.here hx rfl (pc0 := 9) (pc' := 29) rfl (hb hby own_d_prog_103_method_2_9) rfl (feq (fun e => absurd (own_inj (by omega) hN e) (by omega))).2 (by decide) (by decide) ?_
    show Steps p.tables e below (T2.setTop (mkF m 29 #[.val (.ref a1), .val (.int p2)] [])) _
    refine XS.aloadN X2.here hx rfl (hb hby own_d_prog_103_method_2_29) rfl rfl ?_
    show Steps p.tables e below (T2.setTop (mkF m 30 #[.val (.ref a1), .val (.int p2)] [(.ref a1)])) _
    refine st4 _ ?_
    show Steps p.tables e below (T4.setTop (mkF m 33 #[.val (.ref a1), .val (.int p2)] [(.ref b)])) _
    refine XS.aloadN X4.here hx rfl (hb hby own_d_prog_103_method_2_33) rfl rfl ?_
    show Steps p.tables e below (T4.setTop (mkF m 34 #[.val (.ref a1), .val (.int p2)] [(.ref a1), (.ref b)])) _
    refine XS.dup X4.here hx rfl (hb hby own_d_prog_103_method_2_34) rfl rfl ?_
    show Steps p.tables e below (T4.setTop (mkF m 35 #[.val (.ref a1), .val (.int p2)] [(.ref a1), (.ref a1), (.ref b)])) _
    refine st5 _ ?_
    show Steps p.tables e below (T5.setTop (mkF m 38 #[.val (.ref a1), .val (.int p2)] [(.int (Int32.ofNat k_)), (.ref a1), (.ref b)])) _
    refine XS.dupX1 X5.here hx rfl (hb hby own_d_prog_103_method_2_38) rfl rfl rfl ?_
    exact kt
  obtain ⟨T7, h7, X7, e7, W7, st7⟩ := putF X5 hx hZ hown (host := "") (Or.inl (hw _ (List.mem_of_getElem? (i := 24) rfl))) Via.refl e5 F2 E1 (Or.inl (hw _ (List.mem_of_getElem? (i := 25) rfl))) (hw _ (List.mem_of_getElem? (i := 2) rfl)) (ty := .int) (by decide) rfl rfl (g := (mkF m 41 #[.val (.ref a1), .val (.int p2)] [(.int ((Int32.ofNat k_) + (1 : Int32))), (.ref a1), (.int (Int32.ofNat k_)), (.ref b)])) rfl rfl (hb hby own_d_prog_103_method_2_41)
  have f8 := E1.wr W7
  have f9 := F1.other W7 (Or.inr (slot_ne (Or.inl (hw _ (List.mem_of_getElem? (i := 12) rfl))) (Or.inl (hw _ (List.mem_of_getElem? (i := 25) rfl))) (by decide) (t := (.array .int)) (t' := .int) (by decide) (by decide)))
  have f11 := A1.other W7 (Ne.symm nab)
  have k12 := K0.wr W7 (Or.inl (List.mem_of_getElem? (i := 0) rfl))
  have nf13 := Fr.snoc X7 N0 g1
  have f14 := F2.same W7
  obtain ⟨cl15, Ar15, S15, H15⟩ := id f11
  have hin15 : ¬ ((Int32.ofNat k_) < 0 ∨ cl15.slots.size ≤ ((Int32.ofNat k_)).toNatClampNeg) := own_inb S15 (own_of0 (by omega)) (by rw [own_ofN (by omega)]; exact hk)
  obtain ⟨T16, h16, X16, e16, W16, st16⟩ := stI X7 hx hZ e7 Ar15 (j := (Int32.ofNat k_)) hin15 (g := (mkF m 45 #[.val (.ref a1), .val (.int p2)] [(.int p2), (.int (Int32.ofNat k_)), (.ref b)])) rfl rfl (hb hby own_d_prog_103_method_2_45)
  have f17 := f8.wr W16
  have f18 := f9.other W16 (Or.inl nab)
  have f19 := f14.other W16 (Or.inl nab)
  have k21 := k12.wr W16 (Or.inl (List.mem_of_getElem? (i := 1) rfl))
  have nf22 := Fr.snoc X16 nf13 g2
  have f23 := f11.set W16
  have f24 : own_A Z h16 b N (own_upd f k_ p2) := f23.congr (fun j hj => by rw [own_ofN (by omega)])
  have pre25 : ∀ t, Steps p.tables e below (T16.setTop (mkF m 46 #[.val (.ref a1), .val (.int p2)] [])) t → Steps p.tables e below (s₁.setTop (entryFrame m #[(.ref a1), (.int p2)] 2)) t := by
    intro t kt
    refine pre6 t ?_
    show Steps p.tables e below (T5.setTop (mkF m 39 #[.val (.ref a1), .val (.int p2)] [(.int (Int32.ofNat k_)), (.ref a1), (.int (Int32.ofNat k_)), (.ref b)])) _
    refine XS.iconst X5.here hx rfl (hb hby own_d_prog_103_method_2_39) ?_
    show Steps p.tables e below (T5.setTop (mkF m 40 #[.val (.ref a1), .val (.int p2)] [(.int (1 : Int32)), (.int (Int32.ofNat k_)), (.ref a1), (.int (Int32.ofNat k_)), (.ref b)])) _
    refine XS.iadd X5.here hx rfl (hb hby own_d_prog_103_method_2_40) rfl ?_
    show Steps p.tables e below (T5.setTop (mkF m 41 #[.val (.ref a1), .val (.int p2)] [(.int ((Int32.ofNat k_) + (1 : Int32))), (.ref a1), (.int (Int32.ofNat k_)), (.ref b)])) _
    refine st7 _ ?_
    show Steps p.tables e below (T7.setTop (mkF m 44 #[.val (.ref a1), .val (.int p2)] [(.int (Int32.ofNat k_)), (.ref b)])) _
    refine XS.iloadN X7.here hx rfl (hb hby own_d_prog_103_method_2_44) rfl ?_
    show Steps p.tables e below (T7.setTop (mkF m 45 #[.val (.ref a1), .val (.int p2)] [(.int p2), (.int (Int32.ofNat k_)), (.ref b)])) _
    refine st16 _ ?_
    exact kt
  obtain ⟨fs, hr, hrun, hended, hW, hsame⟩ := X16.leave (v := none) (fun _ => rfl)
  refine ⟨_, _, pre25 _ ?_, hrun, hended, _, _, rfl, ?_, ⟨_, rfl⟩, hW, hsame.mono (by decide) (by decide)⟩
  · show Steps p.tables e below (T16.setTop (mkF m 46 #[.val (.ref a1), .val (.int p2)] [])) _
    exact X16.returnOut hx Bd.returns (hb hby own_d_prog_103_method_2_46) hr
  · show own_Q_add Z a1 p2 b k_ N f h0 n0 (none) T16.heap _
    rw [e16]
    exact ⟨rfl, nf22, k21, f18, by rw [← own_of1]; exact f19, f24⟩
def own_l5 (a b c d e : Int32) : Nat → Int32
  | 0 => a
  | 1 => b
  | 2 => c
  | 3 => d
  | _ => e
theorem own_kr (x : Int32) : 0 ≤ ((x &&& (2147483647 : Int32)) % (6 : Int32)).toInt ∧ ((x &&& (2147483647 : Int32)) % (6 : Int32)).toInt < 6 := by
  have q := (c_and x 2147483647 (by decide)).1
  have r := (c_irem (x &&& 2147483647) 6 6 rfl).1 q
  rw [r]; omega
theorem own_no {n : Int32} (a b : Int32) (h : ¬ a < n) (hab : a.toInt ≤ b.toInt) : ¬ b < n := by rw [Int32.lt_iff_toInt_lt] at h ⊢; omega
theorem own_k0 {k : Int32} (h0 : 0 ≤ k.toInt) (h : ¬ (0 : Int32) < k) : k = Int32.ofNat 0 := by
  apply Int32.toInt_inj.mp; rw [own_ofI (by decide)]; rw [Int32.lt_iff_toInt_lt] at h; have : (0 : Int32).toInt = 0 := rfl; omega
theorem own_kN {k : Int32} (n : Nat) (hn : n < 32) (h : Int32.ofNat n < k) (h' : k.toInt < n + 2) : k = Int32.ofNat (n + 1) := by
  apply Int32.toInt_inj.mp; rw [own_ofI (by omega)]; rw [Int32.lt_iff_toInt_lt, own_ofI (by omega)] at h; omega
theorem own_le {k : Int32} (n : Nat) (hn : n < 32) (h : ¬ Int32.ofNat (n + 1) < k) : k.toInt < n + 2 := by
  rw [Int32.lt_iff_toInt_lt, own_ofI (by omega)] at h; omega
theorem own_ltk {k : Int32} {n : Nat} (i : Nat) (e : k = Int32.ofNat n) (hn : n ≤ 5) (hi : i ≤ 5) (h : Int32.ofNat i < k) : i < n := by
  subst e; rw [Int32.lt_iff_toInt_lt, own_ofI (by omega), own_ofI (by omega)] at h; omega
theorem own_d_method_3_0 : decode method_3_code 0 = .ok (.aload_n 0, 1) := by decide +kernel
theorem own_d_method_3_1 : decode method_3_code 1 = .ok (.ifnull 9, 3) := by decide +kernel
theorem own_d_method_3_4 : decode method_3_code 4 = .ok (.aload_n 0, 1) := by decide +kernel
theorem own_d_method_3_5 : decode method_3_code 5 = .ok (.arraylength, 1) := by decide +kernel
theorem own_d_method_3_6 : decode method_3_code 6 = .ok (.iload_n 1, 1) := by decide +kernel
theorem own_d_method_3_7 : decode method_3_code 7 = .ok (.if_icmp .eq 5, 3) := by decide +kernel
theorem own_d_method_3_10 : decode method_3_code 10 = .ok (.iconst 0, 1) := by decide +kernel
theorem own_d_method_3_11 : decode method_3_code 11 = .ok (.ireturn, 1) := by decide +kernel
theorem own_d_method_3_12 : decode method_3_code 12 = .ok (.iload_n 1, 1) := by decide +kernel
theorem own_d_method_3_13 : decode method_3_code 13 = .ok (.ifCond .le 12, 3) := by decide +kernel
theorem own_d_method_3_16 : decode method_3_code 16 = .ok (.aload_n 0, 1) := by decide +kernel
theorem own_d_method_3_17 : decode method_3_code 17 = .ok (.iconst 0, 1) := by decide +kernel
theorem own_d_method_3_18 : decode method_3_code 18 = .ok (.iaload, 1) := by decide +kernel
theorem own_d_method_3_19 : decode method_3_code 19 = .ok (.iload_n 2, 1) := by decide +kernel
theorem own_d_method_3_20 : decode method_3_code 20 = .ok (.if_icmp .eq 5, 3) := by decide +kernel
theorem own_d_method_3_23 : decode method_3_code 23 = .ok (.iconst 0, 1) := by decide +kernel
theorem own_d_method_3_24 : decode method_3_code 24 = .ok (.ireturn, 1) := by decide +kernel
theorem own_d_method_3_25 : decode method_3_code 25 = .ok (.iload_n 1, 1) := by decide +kernel
theorem own_d_method_3_26 : decode method_3_code 26 = .ok (.iconst 1, 1) := by decide +kernel
theorem own_d_method_3_27 : decode method_3_code 27 = .ok (.if_icmp .le 12, 3) := by decide +kernel
theorem own_d_method_3_30 : decode method_3_code 30 = .ok (.aload_n 0, 1) := by decide +kernel
theorem own_d_method_3_31 : decode method_3_code 31 = .ok (.iconst 1, 1) := by decide +kernel
theorem own_d_method_3_32 : decode method_3_code 32 = .ok (.iaload, 1) := by decide +kernel
theorem own_d_method_3_33 : decode method_3_code 33 = .ok (.iload_n 3, 1) := by decide +kernel
theorem own_d_method_3_34 : decode method_3_code 34 = .ok (.if_icmp .eq 5, 3) := by decide +kernel
theorem own_d_method_3_37 : decode method_3_code 37 = .ok (.iconst 0, 1) := by decide +kernel
theorem own_d_method_3_38 : decode method_3_code 38 = .ok (.ireturn, 1) := by decide +kernel
theorem own_d_method_3_39 : decode method_3_code 39 = .ok (.iload_n 1, 1) := by decide +kernel
theorem own_d_method_3_40 : decode method_3_code 40 = .ok (.iconst 2, 1) := by decide +kernel
theorem own_d_method_3_41 : decode method_3_code 41 = .ok (.if_icmp .le 13, 3) := by decide +kernel
theorem own_d_method_3_44 : decode method_3_code 44 = .ok (.aload_n 0, 1) := by decide +kernel
theorem own_d_method_3_45 : decode method_3_code 45 = .ok (.iconst 2, 1) := by decide +kernel
theorem own_d_method_3_46 : decode method_3_code 46 = .ok (.iaload, 1) := by decide +kernel
theorem own_d_method_3_47 : decode method_3_code 47 = .ok (.iload 4, 2) := by decide +kernel
theorem own_d_method_3_49 : decode method_3_code 49 = .ok (.if_icmp .eq 5, 3) := by decide +kernel
theorem own_d_method_3_52 : decode method_3_code 52 = .ok (.iconst 0, 1) := by decide +kernel
theorem own_d_method_3_53 : decode method_3_code 53 = .ok (.ireturn, 1) := by decide +kernel
theorem own_d_method_3_54 : decode method_3_code 54 = .ok (.iload_n 1, 1) := by decide +kernel
theorem own_d_method_3_55 : decode method_3_code 55 = .ok (.iconst 3, 1) := by decide +kernel
theorem own_d_method_3_56 : decode method_3_code 56 = .ok (.if_icmp .le 13, 3) := by decide +kernel
theorem own_d_method_3_59 : decode method_3_code 59 = .ok (.aload_n 0, 1) := by decide +kernel
theorem own_d_method_3_60 : decode method_3_code 60 = .ok (.iconst 3, 1) := by decide +kernel
theorem own_d_method_3_61 : decode method_3_code 61 = .ok (.iaload, 1) := by decide +kernel
theorem own_d_method_3_62 : decode method_3_code 62 = .ok (.iload 5, 2) := by decide +kernel
theorem own_d_method_3_64 : decode method_3_code 64 = .ok (.if_icmp .eq 5, 3) := by decide +kernel
theorem own_d_method_3_67 : decode method_3_code 67 = .ok (.iconst 0, 1) := by decide +kernel
theorem own_d_method_3_68 : decode method_3_code 68 = .ok (.ireturn, 1) := by decide +kernel
theorem own_d_method_3_69 : decode method_3_code 69 = .ok (.iload_n 1, 1) := by decide +kernel
theorem own_d_method_3_70 : decode method_3_code 70 = .ok (.iconst 4, 1) := by decide +kernel
theorem own_d_method_3_71 : decode method_3_code 71 = .ok (.if_icmp .le 13, 3) := by decide +kernel
theorem own_d_method_3_74 : decode method_3_code 74 = .ok (.aload_n 0, 1) := by decide +kernel
theorem own_d_method_3_75 : decode method_3_code 75 = .ok (.iconst 4, 1) := by decide +kernel
theorem own_d_method_3_76 : decode method_3_code 76 = .ok (.iaload, 1) := by decide +kernel
theorem own_d_method_3_77 : decode method_3_code 77 = .ok (.iload 6, 2) := by decide +kernel
theorem own_d_method_3_79 : decode method_3_code 79 = .ok (.if_icmp .eq 5, 3) := by decide +kernel
theorem own_d_method_3_82 : decode method_3_code 82 = .ok (.iconst 0, 1) := by decide +kernel
theorem own_d_method_3_83 : decode method_3_code 83 = .ok (.ireturn, 1) := by decide +kernel
theorem own_d_method_3_84 : decode method_3_code 84 = .ok (.iconst 1, 1) := by decide +kernel
theorem own_d_method_3_85 : decode method_3_code 85 = .ok (.ireturn, 1) := by decide +kernel
theorem own_pn2 : plainName "com/example/interleaving/interleaving/store/StateGraphInitialStatesPinLaw" = true := by first | (simp [plainName, overriddenIn]; done) | decide +kernel
theorem own_ef_mt (m : MethodId) (a1 : Addr) (p1 : Int32) (p2 : Int32) (p3 : Int32) (p4 : Int32) (p5 : Int32) (p6 : Int32) : entryFrame m #[(.ref a1), (.int p1), (.int p2), (.int p3), (.int p4), (.int p5), (.int p6)] 7 = mkF m 0 #[.val (.ref a1), .val (.int p1), .val (.int p2), .val (.int p3), .val (.int p4), .val (.int p5), .val (.int p6)] [] := by first | (simp [entryFrame, mkF, argsToLocals, Value.category]; done) | rfl
def own_Q_mt (Z : State) (a1 : Addr) (p1 : Int32) (p2 : Int32) (p3 : Int32) (p4 : Int32) (p5 : Int32) (p6 : Int32) (n_ : Nat) (f : Nat → Int32) (h0 : Heap) (n0 : Nat) (v : Option Value) (h : Heap) (L : List Loc) : Prop := v = some (.int 1) ∧ Fr n0 L ∧ h = h0
set_option maxRecDepth 65536 in
set_option maxHeartbeats 40000000 in
theorem own_rm_mt (l : Launch) (Z : State) (a0 : Array Value) (hw : ∀ d ∈ tables_1, d.before a0 Z = true) (ws : List Jvm.Cond) (a1 : Addr) (p1 : Int32) (p2 : Int32) (p3 : Int32) (p4 : Int32) (p5 : Int32) (p6 : Int32) (n_ : Nat) (f : Nat → Int32) (h0 : Heap) (n0 : Nat) (Z0 : n0 ≤ h0.size) (A1 : own_A Z h0 a1 n_ f) (hk : p1 = Int32.ofNat n_) (hn : n_ ≤ 5) (hf : ∀ j, j < n_ → f j = own_l5 p2 p3 p4 p5 p6 j) :
    MetFree l (⟨"com/example/interleaving/interleaving/store/StateGraphInitialStatesPinLaw", "matches", "([IIIIIII)Z"⟩ : MethodName) (head1 (Jvm.Cond.code (⟨"com/example/interleaving/interleaving/store/StateGraphInitialStatesPinLaw", "matches", "([IIIIIII)Z"⟩ : MethodName) method_3_code 7 (some .boolean) :: ws) ({ frames := 0, cells := 0, slots := 0, locals := 0 } : Room)) (fun a U => a = #[(.ref a1), (.int p1), (.int p2), (.int p3), (.int p4), (.int p5), (.int p6)] ∧ Z.Warmed39 U.vm ∧ U.heap = h0) (fun _ _ _ _ _ => True) (fun _ U o U' => ∃ v L, o = .returned v ∧ own_Q_mt Z a1 p1 p2 p3 p4 p5 p6 n_ f h0 n0 v U'.heap L ∧ FrameEnd U o U' L ({ frames := 0, cells := 0, slots := 0, locals := 0 } : Room).cells ({ frames := 0, cells := 0, slots := 0, locals := 0 } : Room).slots) := by
  refine MetFree.of_bodySF (plainFor_of_name own_pn2) hisR ?_
  intro p e s m args below meth c s₁ Bd hml0 hP hK
  obtain ⟨rfl, hZ, hh⟩ := hP
  have hx := Bd.exec
  have hby := Bd.bytes
  have hml : c.maxLocals = 7 := hml0
  have hown : s.vm.findClass "com/example/interleaving/interleaving/store/StateGraphInitialStatesPinLaw" = some m.cls := findClass_of_methodNamed Bd.named
  have hnm := (name_of_methodNamed Bd.named Bd.method).1
  have X0 : Stand p l e ({ frames := 0, cells := 0, slots := 0, locals := 0 } : Room) s m #[(.ref a1), (.int p1), (.int p2), (.int p3), (.int p4), (.int p5), (.int p6)] below meth c s₁ [] 0 0 := Stand.of_body Bd
  have e0 : s₁.heap = h0 := by rw [← hh, Bd.state]; rfl
  have N0 := Fr.nil n0
  have K0 : Keep h0 h0 [] := Keep.refl _ _
  have pre0 : ∀ t, Steps p.tables e below (s₁.setTop (mkF m 0 #[.val (.ref a1), .val (.int p1), .val (.int p2), .val (.int p3), .val (.int p4), .val (.int p5), .val (.int p6)] [])) t → Steps p.tables e below (s₁.setTop (entryFrame m #[(.ref a1), (.int p1), (.int p2), (.int p3), (.int p4), (.int p5), (.int p6)] 7)) t := fun t k => castTop (own_ef_mt m a1 p1 p2 p3 p4 p5 p6) k
  obtain ⟨cl1, Ar1, S1, -⟩ := id A1
  have pre2 : ∀ t, Steps p.tables e below (s₁.setTop (mkF m 13 #[.val (.ref a1), .val (.int p1), .val (.int p2), .val (.int p3), .val (.int p4), .val (.int p5), .val (.int p6)] [(.int p1)])) t → Steps p.tables e below (s₁.setTop (entryFrame m #[(.ref a1), (.int p1), (.int p2), (.int p3), (.int p4), (.int p5), (.int p6)] 7)) t := by
    intro t kt
    refine pre0 t ?_
    show Steps p.tables e below (s₁.setTop (mkF m 0 #[.val (.ref a1), .val (.int p1), .val (.int p2), .val (.int p3), .val (.int p4), .val (.int p5), .val (.int p6)] [])) _
    refine XS.aloadN X0.here hx rfl (hb hby own_d_method_3_0) rfl rfl ?_
    show Steps p.tables e below (s₁.setTop (mkF m 1 #[.val (.ref a1), .val (.int p1), .val (.int p2), .val (.int p3), .val (.int p4), .val (.int p5), .val (.int p6)] [(.ref a1)])) _
    refine XS.ifnullNo X0.here hx rfl (hb hby own_d_method_3_1) rfl ?_
    show Steps p.tables e below (s₁.setTop (mkF m 4 #[.val (.ref a1), .val (.int p1), .val (.int p2), .val (.int p3), .val (.int p4), .val (.int p5), .val (.int p6)] [])) _
    refine XS.aloadN X0.here hx rfl (hb hby own_d_method_3_4) rfl rfl ?_
    show Steps p.tables e below (s₁.setTop (mkF m 5 #[.val (.ref a1), .val (.int p1), .val (.int p2), .val (.int p3), .val (.int p4), .val (.int p5), .val (.int p6)] [(.ref a1)])) _
    refine X0.arraylength hx (by rw [e0]; exact Ar1.1) (State.isArrayOf_alike hZ.alike Ar1.2.1) (g := (mkF m 5 #[.val (.ref a1), .val (.int p1), .val (.int p2), .val (.int p3), .val (.int p4), .val (.int p5), .val (.int p6)] [(.ref a1)])) rfl rfl (hb hby own_d_method_3_5) _ ?_
    rw [own_len (z := p1) S1 hk.symm]
    show Steps p.tables e below (s₁.setTop (mkF m 6 #[.val (.ref a1), .val (.int p1), .val (.int p2), .val (.int p3), .val (.int p4), .val (.int p5), .val (.int p6)] [(.int p1)])) _
    refine XS.iloadN X0.here hx rfl (hb hby own_d_method_3_6) rfl ?_
    show Steps p.tables e below (s₁.setTop (mkF m 7 #[.val (.ref a1), .val (.int p1), .val (.int p2), .val (.int p3), .val (.int p4), .val (.int p5), .val (.int p6)] [(.int p1), (.int p1)])) _
    refine XS.icmpYes X0.here hx rfl (pc0 := 7) (pc' := 12) rfl (hb hby own_d_method_3_7) rfl (teq (rfl : p1 = p1)).1 (by decide) (by decide) ?_
    show Steps p.tables e below (s₁.setTop (mkF m 12 #[.val (.ref a1), .val (.int p1), .val (.int p2), .val (.int p3), .val (.int p4), .val (.int p5), .val (.int p6)] [])) _
    refine XS.iloadN X0.here hx rfl (hb hby own_d_method_3_12) rfl ?_
    exact kt
  by_cases hc3 : (0 : Int32) < p1
  · obtain ⟨cl4, Ar4, S4, H4⟩ := id A1
    have hin4 : ¬ ((0 : Int32) < 0 ∨ cl4.slots.size ≤ ((0 : Int32)).toNatClampNeg) := own_inb S4 (by decide) (own_ltk 0 hk hn (by decide) hc3)
    have hat4 : cl4.slots[((0 : Int32)).toNatClampNeg]? = some (.int (f 0)) := H4 _ (own_ltk 0 hk hn (by decide) hc3)
    have pre5 : ∀ t, Steps p.tables e below (s₁.setTop (mkF m 27 #[.val (.ref a1), .val (.int p1), .val (.int p2), .val (.int p3), .val (.int p4), .val (.int p5), .val (.int p6)] [(.int (1 : Int32)), (.int p1)])) t → Steps p.tables e below (s₁.setTop (entryFrame m #[(.ref a1), (.int p1), (.int p2), (.int p3), (.int p4), (.int p5), (.int p6)] 7)) t := by
      intro t kt
      refine pre2 t ?_
      show Steps p.tables e below (s₁.setTop (mkF m 13 #[.val (.ref a1), .val (.int p1), .val (.int p2), .val (.int p3), .val (.int p4), .val (.int p5), .val (.int p6)] [(.int p1)])) _
      refine XS.ifNo X0.here hx rfl (hb hby own_d_method_3_13) rfl ((if0 _ _).trans (tlt hc3).2.2.2) ?_
      show Steps p.tables e below (s₁.setTop (mkF m 16 #[.val (.ref a1), .val (.int p1), .val (.int p2), .val (.int p3), .val (.int p4), .val (.int p5), .val (.int p6)] [])) _
      refine XS.aloadN X0.here hx rfl (hb hby own_d_method_3_16) rfl rfl ?_
      show Steps p.tables e below (s₁.setTop (mkF m 17 #[.val (.ref a1), .val (.int p1), .val (.int p2), .val (.int p3), .val (.int p4), .val (.int p5), .val (.int p6)] [(.ref a1)])) _
      refine XS.iconst X0.here hx rfl (hb hby own_d_method_3_17) ?_
      show Steps p.tables e below (s₁.setTop (mkF m 18 #[.val (.ref a1), .val (.int p1), .val (.int p2), .val (.int p3), .val (.int p4), .val (.int p5), .val (.int p6)] [(.int (0 : Int32)), (.ref a1)])) _
      refine X0.iaload hx (j := (0 : Int32)) (v := (.int (f 0))) (by rw [e0]; exact Ar4.1) (State.isArrayOf_alike hZ.alike Ar4.2.1) Ar4.2.2 hin4 hat4 (g := (mkF m 18 #[.val (.ref a1), .val (.int p1), .val (.int p2), .val (.int p3), .val (.int p4), .val (.int p5), .val (.int p6)] [(.int (0 : Int32)), (.ref a1)])) rfl rfl (hb hby own_d_method_3_18) _ ?_
      show Steps p.tables e below (s₁.setTop (mkF m 19 #[.val (.ref a1), .val (.int p1), .val (.int p2), .val (.int p3), .val (.int p4), .val (.int p5), .val (.int p6)] [(.int (f 0))])) _
      refine XS.iloadN X0.here hx rfl (hb hby own_d_method_3_19) rfl ?_
      show Steps p.tables e below (s₁.setTop (mkF m 20 #[.val (.ref a1), .val (.int p1), .val (.int p2), .val (.int p3), .val (.int p4), .val (.int p5), .val (.int p6)] [(.int p2), (.int (f 0))])) _
      refine XS.icmpYes X0.here hx rfl (pc0 := 20) (pc' := 25) rfl (hb hby own_d_method_3_20) rfl (teq (hf 0 (own_ltk 0 hk hn (by decide) hc3))).1 (by decide) (by decide) ?_
      show Steps p.tables e below (s₁.setTop (mkF m 25 #[.val (.ref a1), .val (.int p1), .val (.int p2), .val (.int p3), .val (.int p4), .val (.int p5), .val (.int p6)] [])) _
      refine XS.iloadN X0.here hx rfl (hb hby own_d_method_3_25) rfl ?_
      show Steps p.tables e below (s₁.setTop (mkF m 26 #[.val (.ref a1), .val (.int p1), .val (.int p2), .val (.int p3), .val (.int p4), .val (.int p5), .val (.int p6)] [(.int p1)])) _
      refine XS.iconst X0.here hx rfl (hb hby own_d_method_3_26) ?_
      exact kt
    by_cases hc6 : (1 : Int32) < p1
    · obtain ⟨cl7, Ar7, S7, H7⟩ := id A1
      have hin7 : ¬ ((1 : Int32) < 0 ∨ cl7.slots.size ≤ ((1 : Int32)).toNatClampNeg) := own_inb S7 (by decide) (own_ltk 1 hk hn (by decide) hc6)
      have hat7 : cl7.slots[((1 : Int32)).toNatClampNeg]? = some (.int (f 1)) := H7 _ (own_ltk 1 hk hn (by decide) hc6)
      have pre8 : ∀ t, Steps p.tables e below (s₁.setTop (mkF m 41 #[.val (.ref a1), .val (.int p1), .val (.int p2), .val (.int p3), .val (.int p4), .val (.int p5), .val (.int p6)] [(.int (2 : Int32)), (.int p1)])) t → Steps p.tables e below (s₁.setTop (entryFrame m #[(.ref a1), (.int p1), (.int p2), (.int p3), (.int p4), (.int p5), (.int p6)] 7)) t := by
        intro t kt
        refine pre5 t ?_
        show Steps p.tables e below (s₁.setTop (mkF m 27 #[.val (.ref a1), .val (.int p1), .val (.int p2), .val (.int p3), .val (.int p4), .val (.int p5), .val (.int p6)] [(.int (1 : Int32)), (.int p1)])) _
        refine XS.icmpNo X0.here hx rfl (hb hby own_d_method_3_27) rfl (tlt hc6).2.2.2 ?_
        show Steps p.tables e below (s₁.setTop (mkF m 30 #[.val (.ref a1), .val (.int p1), .val (.int p2), .val (.int p3), .val (.int p4), .val (.int p5), .val (.int p6)] [])) _
        refine XS.aloadN X0.here hx rfl (hb hby own_d_method_3_30) rfl rfl ?_
        show Steps p.tables e below (s₁.setTop (mkF m 31 #[.val (.ref a1), .val (.int p1), .val (.int p2), .val (.int p3), .val (.int p4), .val (.int p5), .val (.int p6)] [(.ref a1)])) _
        refine XS.iconst X0.here hx rfl (hb hby own_d_method_3_31) ?_
        show Steps p.tables e below (s₁.setTop (mkF m 32 #[.val (.ref a1), .val (.int p1), .val (.int p2), .val (.int p3), .val (.int p4), .val (.int p5), .val (.int p6)] [(.int (1 : Int32)), (.ref a1)])) _
        refine X0.iaload hx (j := (1 : Int32)) (v := (.int (f 1))) (by rw [e0]; exact Ar7.1) (State.isArrayOf_alike hZ.alike Ar7.2.1) Ar7.2.2 hin7 hat7 (g := (mkF m 32 #[.val (.ref a1), .val (.int p1), .val (.int p2), .val (.int p3), .val (.int p4), .val (.int p5), .val (.int p6)] [(.int (1 : Int32)), (.ref a1)])) rfl rfl (hb hby own_d_method_3_32) _ ?_
        show Steps p.tables e below (s₁.setTop (mkF m 33 #[.val (.ref a1), .val (.int p1), .val (.int p2), .val (.int p3), .val (.int p4), .val (.int p5), .val (.int p6)] [(.int (f 1))])) _
        refine XS.iloadN X0.here hx rfl (hb hby own_d_method_3_33) rfl ?_
        show Steps p.tables e below (s₁.setTop (mkF m 34 #[.val (.ref a1), .val (.int p1), .val (.int p2), .val (.int p3), .val (.int p4), .val (.int p5), .val (.int p6)] [(.int p3), (.int (f 1))])) _
        refine XS.icmpYes X0.here hx rfl (pc0 := 34) (pc' := 39) rfl (hb hby own_d_method_3_34) rfl (teq (hf 1 (own_ltk 1 hk hn (by decide) hc6))).1 (by decide) (by decide) ?_
        show Steps p.tables e below (s₁.setTop (mkF m 39 #[.val (.ref a1), .val (.int p1), .val (.int p2), .val (.int p3), .val (.int p4), .val (.int p5), .val (.int p6)] [])) _
        refine XS.iloadN X0.here hx rfl (hb hby own_d_method_3_39) rfl ?_
        show Steps p.tables e below (s₁.setTop (mkF m 40 #[.val (.ref a1), .val (.int p1), .val (.int p2), .val (.int p3), .val (.int p4), .val (.int p5), .val (.int p6)] [(.int p1)])) _
        refine XS.iconst X0.here hx rfl (hb hby own_d_method_3_40) ?_
        exact kt
      by_cases hc9 : (2 : Int32) < p1
      · obtain ⟨cl10, Ar10, S10, H10⟩ := id A1
        have hin10 : ¬ ((2 : Int32) < 0 ∨ cl10.slots.size ≤ ((2 : Int32)).toNatClampNeg) := own_inb S10 (by decide) (own_ltk 2 hk hn (by decide) hc9)
        have hat10 : cl10.slots[((2 : Int32)).toNatClampNeg]? = some (.int (f 2)) := H10 _ (own_ltk 2 hk hn (by decide) hc9)
        have pre11 : ∀ t, Steps p.tables e below (s₁.setTop (mkF m 56 #[.val (.ref a1), .val (.int p1), .val (.int p2), .val (.int p3), .val (.int p4), .val (.int p5), .val (.int p6)] [(.int (3 : Int32)), (.int p1)])) t → Steps p.tables e below (s₁.setTop (entryFrame m #[(.ref a1), (.int p1), (.int p2), (.int p3), (.int p4), (.int p5), (.int p6)] 7)) t := by
          intro t kt
          refine pre8 t ?_
          show Steps p.tables e below (s₁.setTop (mkF m 41 #[.val (.ref a1), .val (.int p1), .val (.int p2), .val (.int p3), .val (.int p4), .val (.int p5), .val (.int p6)] [(.int (2 : Int32)), (.int p1)])) _
          refine XS.icmpNo X0.here hx rfl (hb hby own_d_method_3_41) rfl (tlt hc9).2.2.2 ?_
          show Steps p.tables e below (s₁.setTop (mkF m 44 #[.val (.ref a1), .val (.int p1), .val (.int p2), .val (.int p3), .val (.int p4), .val (.int p5), .val (.int p6)] [])) _
          refine XS.aloadN X0.here hx rfl (hb hby own_d_method_3_44) rfl rfl ?_
          show Steps p.tables e below (s₁.setTop (mkF m 45 #[.val (.ref a1), .val (.int p1), .val (.int p2), .val (.int p3), .val (.int p4), .val (.int p5), .val (.int p6)] [(.ref a1)])) _
          refine XS.iconst X0.here hx rfl (hb hby own_d_method_3_45) ?_
          show Steps p.tables e below (s₁.setTop (mkF m 46 #[.val (.ref a1), .val (.int p1), .val (.int p2), .val (.int p3), .val (.int p4), .val (.int p5), .val (.int p6)] [(.int (2 : Int32)), (.ref a1)])) _
          refine X0.iaload hx (j := (2 : Int32)) (v := (.int (f 2))) (by rw [e0]; exact Ar10.1) (State.isArrayOf_alike hZ.alike Ar10.2.1) Ar10.2.2 hin10 hat10 (g := (mkF m 46 #[.val (.ref a1), .val (.int p1), .val (.int p2), .val (.int p3), .val (.int p4), .val (.int p5), .val (.int p6)] [(.int (2 : Int32)), (.ref a1)])) rfl rfl (hb hby own_d_method_3_46) _ ?_
          show Steps p.tables e below (s₁.setTop (mkF m 47 #[.val (.ref a1), .val (.int p1), .val (.int p2), .val (.int p3), .val (.int p4), .val (.int p5), .val (.int p6)] [(.int (f 2))])) _
          refine XS.iload X0.here hx rfl (hb hby own_d_method_3_47) rfl ?_
          show Steps p.tables e below (s₁.setTop (mkF m 49 #[.val (.ref a1), .val (.int p1), .val (.int p2), .val (.int p3), .val (.int p4), .val (.int p5), .val (.int p6)] [(.int p4), (.int (f 2))])) _
          refine XS.icmpYes X0.here hx rfl (pc0 := 49) (pc' := 54) rfl (hb hby own_d_method_3_49) rfl (teq (hf 2 (own_ltk 2 hk hn (by decide) hc9))).1 (by decide) (by decide) ?_
          show Steps p.tables e below (s₁.setTop (mkF m 54 #[.val (.ref a1), .val (.int p1), .val (.int p2), .val (.int p3), .val (.int p4), .val (.int p5), .val (.int p6)] [])) _
          refine XS.iloadN X0.here hx rfl (hb hby own_d_method_3_54) rfl ?_
          show Steps p.tables e below (s₁.setTop (mkF m 55 #[.val (.ref a1), .val (.int p1), .val (.int p2), .val (.int p3), .val (.int p4), .val (.int p5), .val (.int p6)] [(.int p1)])) _
          refine XS.iconst X0.here hx rfl (hb hby own_d_method_3_55) ?_
          exact kt
        by_cases hc12 : (3 : Int32) < p1
        · obtain ⟨cl13, Ar13, S13, H13⟩ := id A1
          have hin13 : ¬ ((3 : Int32) < 0 ∨ cl13.slots.size ≤ ((3 : Int32)).toNatClampNeg) := own_inb S13 (by decide) (own_ltk 3 hk hn (by decide) hc12)
          have hat13 : cl13.slots[((3 : Int32)).toNatClampNeg]? = some (.int (f 3)) := H13 _ (own_ltk 3 hk hn (by decide) hc12)
          have pre14 : ∀ t, Steps p.tables e below (s₁.setTop (mkF m 71 #[.val (.ref a1), .val (.int p1), .val (.int p2), .val (.int p3), .val (.int p4), .val (.int p5), .val (.int p6)] [(.int (4 : Int32)), (.int p1)])) t → Steps p.tables e below (s₁.setTop (entryFrame m #[(.ref a1), (.int p1), (.int p2), (.int p3), (.int p4), (.int p5), (.int p6)] 7)) t := by
            intro t kt
            refine pre11 t ?_
            show Steps p.tables e below (s₁.setTop (mkF m 56 #[.val (.ref a1), .val (.int p1), .val (.int p2), .val (.int p3), .val (.int p4), .val (.int p5), .val (.int p6)] [(.int (3 : Int32)), (.int p1)])) _
            refine XS.icmpNo X0.here hx rfl (hb hby own_d_method_3_56) rfl (tlt hc12).2.2.2 ?_
            show Steps p.tables e below (s₁.setTop (mkF m 59 #[.val (.ref a1), .val (.int p1), .val (.int p2), .val (.int p3), .val (.int p4), .val (.int p5), .val (.int p6)] [])) _
            refine XS.aloadN X0.here hx rfl (hb hby own_d_method_3_59) rfl rfl ?_
            show Steps p.tables e below (s₁.setTop (mkF m 60 #[.val (.ref a1), .val (.int p1), .val (.int p2), .val (.int p3), .val (.int p4), .val (.int p5), .val (.int p6)] [(.ref a1)])) _
            refine XS.iconst X0.here hx rfl (hb hby own_d_method_3_60) ?_
            show Steps p.tables e below (s₁.setTop (mkF m 61 #[.val (.ref a1), .val (.int p1), .val (.int p2), .val (.int p3), .val (.int p4), .val (.int p5), .val (.int p6)] [(.int (3 : Int32)), (.ref a1)])) _
            refine X0.iaload hx (j := (3 : Int32)) (v := (.int (f 3))) (by rw [e0]; exact Ar13.1) (State.isArrayOf_alike hZ.alike Ar13.2.1) Ar13.2.2 hin13 hat13 (g := (mkF m 61 #[.val (.ref a1), .val (.int p1), .val (.int p2), .val (.int p3), .val (.int p4), .val (.int p5), .val (.int p6)] [(.int (3 : Int32)), (.ref a1)])) rfl rfl (hb hby own_d_method_3_61) _ ?_
            show Steps p.tables e below (s₁.setTop (mkF m 62 #[.val (.ref a1), .val (.int p1), .val (.int p2), .val (.int p3), .val (.int p4), .val (.int p5), .val (.int p6)] [(.int (f 3))])) _
            refine XS.iload X0.here hx rfl (hb hby own_d_method_3_62) rfl ?_
            show Steps p.tables e below (s₁.setTop (mkF m 64 #[.val (.ref a1), .val (.int p1), .val (.int p2), .val (.int p3), .val (.int p4), .val (.int p5), .val (.int p6)] [(.int p5), (.int (f 3))])) _
            refine XS.icmpYes X0.here hx rfl (pc0 := 64) (pc' := 69) rfl (hb hby own_d_method_3_64) rfl (teq (hf 3 (own_ltk 3 hk hn (by decide) hc12))).1 (by decide) (by decide) ?_
            show Steps p.tables e below (s₁.setTop (mkF m 69 #[.val (.ref a1), .val (.int p1), .val (.int p2), .val (.int p3), .val (.int p4), .val (.int p5), .val (.int p6)] [])) _
            refine XS.iloadN X0.here hx rfl (hb hby own_d_method_3_69) rfl ?_
            show Steps p.tables e below (s₁.setTop (mkF m 70 #[.val (.ref a1), .val (.int p1), .val (.int p2), .val (.int p3), .val (.int p4), .val (.int p5), .val (.int p6)] [(.int p1)])) _
            refine XS.iconst X0.here hx rfl (hb hby own_d_method_3_70) ?_
            exact kt
          by_cases hc15 : (4 : Int32) < p1
          · obtain ⟨cl16, Ar16, S16, H16⟩ := id A1
            have hin16 : ¬ ((4 : Int32) < 0 ∨ cl16.slots.size ≤ ((4 : Int32)).toNatClampNeg) := own_inb S16 (by decide) (own_ltk 4 hk hn (by decide) hc15)
            have hat16 : cl16.slots[((4 : Int32)).toNatClampNeg]? = some (.int (f 4)) := H16 _ (own_ltk 4 hk hn (by decide) hc15)
            have pre17 : ∀ t, Steps p.tables e below (s₁.setTop (mkF m 85 #[.val (.ref a1), .val (.int p1), .val (.int p2), .val (.int p3), .val (.int p4), .val (.int p5), .val (.int p6)] [(.int (1 : Int32))])) t → Steps p.tables e below (s₁.setTop (entryFrame m #[(.ref a1), (.int p1), (.int p2), (.int p3), (.int p4), (.int p5), (.int p6)] 7)) t := by
              intro t kt
              refine pre14 t ?_
              show Steps p.tables e below (s₁.setTop (mkF m 71 #[.val (.ref a1), .val (.int p1), .val (.int p2), .val (.int p3), .val (.int p4), .val (.int p5), .val (.int p6)] [(.int (4 : Int32)), (.int p1)])) _
              refine XS.icmpNo X0.here hx rfl (hb hby own_d_method_3_71) rfl (tlt hc15).2.2.2 ?_
              show Steps p.tables e below (s₁.setTop (mkF m 74 #[.val (.ref a1), .val (.int p1), .val (.int p2), .val (.int p3), .val (.int p4), .val (.int p5), .val (.int p6)] [])) _
              refine XS.aloadN X0.here hx rfl (hb hby own_d_method_3_74) rfl rfl ?_
              show Steps p.tables e below (s₁.setTop (mkF m 75 #[.val (.ref a1), .val (.int p1), .val (.int p2), .val (.int p3), .val (.int p4), .val (.int p5), .val (.int p6)] [(.ref a1)])) _
              refine XS.iconst X0.here hx rfl (hb hby own_d_method_3_75) ?_
              show Steps p.tables e below (s₁.setTop (mkF m 76 #[.val (.ref a1), .val (.int p1), .val (.int p2), .val (.int p3), .val (.int p4), .val (.int p5), .val (.int p6)] [(.int (4 : Int32)), (.ref a1)])) _
              refine X0.iaload hx (j := (4 : Int32)) (v := (.int (f 4))) (by rw [e0]; exact Ar16.1) (State.isArrayOf_alike hZ.alike Ar16.2.1) Ar16.2.2 hin16 hat16 (g := (mkF m 76 #[.val (.ref a1), .val (.int p1), .val (.int p2), .val (.int p3), .val (.int p4), .val (.int p5), .val (.int p6)] [(.int (4 : Int32)), (.ref a1)])) rfl rfl (hb hby own_d_method_3_76) _ ?_
              show Steps p.tables e below (s₁.setTop (mkF m 77 #[.val (.ref a1), .val (.int p1), .val (.int p2), .val (.int p3), .val (.int p4), .val (.int p5), .val (.int p6)] [(.int (f 4))])) _
              refine XS.iload X0.here hx rfl (hb hby own_d_method_3_77) rfl ?_
              show Steps p.tables e below (s₁.setTop (mkF m 79 #[.val (.ref a1), .val (.int p1), .val (.int p2), .val (.int p3), .val (.int p4), .val (.int p5), .val (.int p6)] [(.int p6), (.int (f 4))])) _
              refine XS.icmpYes X0.here hx rfl (pc0 := 79) (pc' := 84) rfl (hb hby own_d_method_3_79) rfl (teq (hf 4 (own_ltk 4 hk hn (by decide) hc15))).1 (by decide) (by decide) ?_
              show Steps p.tables e below (s₁.setTop (mkF m 84 #[.val (.ref a1), .val (.int p1), .val (.int p2), .val (.int p3), .val (.int p4), .val (.int p5), .val (.int p6)] [])) _
              refine XS.iconst X0.here hx rfl (hb hby own_d_method_3_84) ?_
              exact kt
            obtain ⟨fs, hr, hrun, hended, hW, hsame⟩ := X0.leave (v := some (.int (1 : Int32))) (fun h => by rw [Bd.returns] at h; cases h)
            refine ⟨_, _, pre17 _ ?_, hrun, hended, _, _, rfl, ?_, ⟨_, rfl⟩, hW, hsame.mono (by decide) (by decide)⟩
            · show Steps p.tables e below (s₁.setTop (mkF m 85 #[.val (.ref a1), .val (.int p1), .val (.int p2), .val (.int p3), .val (.int p4), .val (.int p5), .val (.int p6)] [(.int (1 : Int32))])) _
              exact retN X0 hx (t := .boolean) Bd.returns (by simp) (hb hby own_d_method_3_85) hr
            · show own_Q_mt Z a1 p1 p2 p3 p4 p5 p6 n_ f h0 n0 (some (.int (1 : Int32))) s₁.heap _
              rw [e0]
              exact ⟨rfl, N0, rfl⟩
          · have pre18 : ∀ t, Steps p.tables e below (s₁.setTop (mkF m 85 #[.val (.ref a1), .val (.int p1), .val (.int p2), .val (.int p3), .val (.int p4), .val (.int p5), .val (.int p6)] [(.int (1 : Int32))])) t → Steps p.tables e below (s₁.setTop (entryFrame m #[(.ref a1), (.int p1), (.int p2), (.int p3), (.int p4), (.int p5), (.int p6)] 7)) t := by
              intro t kt
              refine pre14 t ?_
              show Steps p.tables e below (s₁.setTop (mkF m 71 #[.val (.ref a1), .val (.int p1), .val (.int p2), .val (.int p3), .val (.int p4), .val (.int p5), .val (.int p6)] [(.int (4 : Int32)), (.int p1)])) _
              refine XS.icmpYes X0.here hx rfl (pc0 := 71) (pc' := 84) rfl (hb hby own_d_method_3_71) rfl (flt hc15).2.2.2 (by decide) (by decide) ?_
              show Steps p.tables e below (s₁.setTop (mkF m 84 #[.val (.ref a1), .val (.int p1), .val (.int p2), .val (.int p3), .val (.int p4), .val (.int p5), .val (.int p6)] [])) _
              refine XS.iconst X0.here hx rfl (hb hby own_d_method_3_84) ?_
              exact kt
            obtain ⟨fs, hr, hrun, hended, hW, hsame⟩ := X0.leave (v := some (.int (1 : Int32))) (fun h => by rw [Bd.returns] at h; cases h)
            refine ⟨_, _, pre18 _ ?_, hrun, hended, _, _, rfl, ?_, ⟨_, rfl⟩, hW, hsame.mono (by decide) (by decide)⟩
            · show Steps p.tables e below (s₁.setTop (mkF m 85 #[.val (.ref a1), .val (.int p1), .val (.int p2), .val (.int p3), .val (.int p4), .val (.int p5), .val (.int p6)] [(.int (1 : Int32))])) _
              exact retN X0 hx (t := .boolean) Bd.returns (by simp) (hb hby own_d_method_3_85) hr
            · show own_Q_mt Z a1 p1 p2 p3 p4 p5 p6 n_ f h0 n0 (some (.int (1 : Int32))) s₁.heap _
              rw [e0]
              exact ⟨rfl, N0, rfl⟩
        · have pre19 : ∀ t, Steps p.tables e below (s₁.setTop (mkF m 85 #[.val (.ref a1), .val (.int p1), .val (.int p2), .val (.int p3), .val (.int p4), .val (.int p5), .val (.int p6)] [(.int (1 : Int32))])) t → Steps p.tables e below (s₁.setTop (entryFrame m #[(.ref a1), (.int p1), (.int p2), (.int p3), (.int p4), (.int p5), (.int p6)] 7)) t := by
            intro t kt
            refine pre11 t ?_
            show Steps p.tables e below (s₁.setTop (mkF m 56 #[.val (.ref a1), .val (.int p1), .val (.int p2), .val (.int p3), .val (.int p4), .val (.int p5), .val (.int p6)] [(.int (3 : Int32)), (.int p1)])) _
            refine XS.icmpYes X0.here hx rfl (pc0 := 56) (pc' := 69) rfl (hb hby own_d_method_3_56) rfl (flt hc12).2.2.2 (by decide) (by decide) ?_
            show Steps p.tables e below (s₁.setTop (mkF m 69 #[.val (.ref a1), .val (.int p1), .val (.int p2), .val (.int p3), .val (.int p4), .val (.int p5), .val (.int p6)] [])) _
            refine XS.iloadN X0.here hx rfl (hb hby own_d_method_3_69) rfl ?_
            show Steps p.tables e below (s₁.setTop (mkF m 70 #[.val (.ref a1), .val (.int p1), .val (.int p2), .val (.int p3), .val (.int p4), .val (.int p5), .val (.int p6)] [(.int p1)])) _
            refine XS.iconst X0.here hx rfl (hb hby own_d_method_3_70) ?_
            show Steps p.tables e below (s₁.setTop (mkF m 71 #[.val (.ref a1), .val (.int p1), .val (.int p2), .val (.int p3), .val (.int p4), .val (.int p5), .val (.int p6)] [(.int (4 : Int32)), (.int p1)])) _
            refine XS.icmpYes X0.here hx rfl (pc0 := 71) (pc' := 84) rfl (hb hby own_d_method_3_71) rfl (flt (own_no (3 : Int32) (4 : Int32) hc12 (by decide))).2.2.2 (by decide) (by decide) ?_
            show Steps p.tables e below (s₁.setTop (mkF m 84 #[.val (.ref a1), .val (.int p1), .val (.int p2), .val (.int p3), .val (.int p4), .val (.int p5), .val (.int p6)] [])) _
            refine XS.iconst X0.here hx rfl (hb hby own_d_method_3_84) ?_
            exact kt
          obtain ⟨fs, hr, hrun, hended, hW, hsame⟩ := X0.leave (v := some (.int (1 : Int32))) (fun h => by rw [Bd.returns] at h; cases h)
          refine ⟨_, _, pre19 _ ?_, hrun, hended, _, _, rfl, ?_, ⟨_, rfl⟩, hW, hsame.mono (by decide) (by decide)⟩
          · show Steps p.tables e below (s₁.setTop (mkF m 85 #[.val (.ref a1), .val (.int p1), .val (.int p2), .val (.int p3), .val (.int p4), .val (.int p5), .val (.int p6)] [(.int (1 : Int32))])) _
            exact retN X0 hx (t := .boolean) Bd.returns (by simp) (hb hby own_d_method_3_85) hr
          · show own_Q_mt Z a1 p1 p2 p3 p4 p5 p6 n_ f h0 n0 (some (.int (1 : Int32))) s₁.heap _
            rw [e0]
            exact ⟨rfl, N0, rfl⟩
      · have pre20 : ∀ t, Steps p.tables e below (s₁.setTop (mkF m 85 #[.val (.ref a1), .val (.int p1), .val (.int p2), .val (.int p3), .val (.int p4), .val (.int p5), .val (.int p6)] [(.int (1 : Int32))])) t → Steps p.tables e below (s₁.setTop (entryFrame m #[(.ref a1), (.int p1), (.int p2), (.int p3), (.int p4), (.int p5), (.int p6)] 7)) t := by
          intro t kt
          refine pre8 t ?_
          show Steps p.tables e below (s₁.setTop (mkF m 41 #[.val (.ref a1), .val (.int p1), .val (.int p2), .val (.int p3), .val (.int p4), .val (.int p5), .val (.int p6)] [(.int (2 : Int32)), (.int p1)])) _
          refine XS.icmpYes X0.here hx rfl (pc0 := 41) (pc' := 54) rfl (hb hby own_d_method_3_41) rfl (flt hc9).2.2.2 (by decide) (by decide) ?_
          show Steps p.tables e below (s₁.setTop (mkF m 54 #[.val (.ref a1), .val (.int p1), .val (.int p2), .val (.int p3), .val (.int p4), .val (.int p5), .val (.int p6)] [])) _
          refine XS.iloadN X0.here hx rfl (hb hby own_d_method_3_54) rfl ?_
          show Steps p.tables e below (s₁.setTop (mkF m 55 #[.val (.ref a1), .val (.int p1), .val (.int p2), .val (.int p3), .val (.int p4), .val (.int p5), .val (.int p6)] [(.int p1)])) _
          refine XS.iconst X0.here hx rfl (hb hby own_d_method_3_55) ?_
          show Steps p.tables e below (s₁.setTop (mkF m 56 #[.val (.ref a1), .val (.int p1), .val (.int p2), .val (.int p3), .val (.int p4), .val (.int p5), .val (.int p6)] [(.int (3 : Int32)), (.int p1)])) _
          refine XS.icmpYes X0.here hx rfl (pc0 := 56) (pc' := 69) rfl (hb hby own_d_method_3_56) rfl (flt (own_no (2 : Int32) (3 : Int32) hc9 (by decide))).2.2.2 (by decide) (by decide) ?_
          show Steps p.tables e below (s₁.setTop (mkF m 69 #[.val (.ref a1), .val (.int p1), .val (.int p2), .val (.int p3), .val (.int p4), .val (.int p5), .val (.int p6)] [])) _
          refine XS.iloadN X0.here hx rfl (hb hby own_d_method_3_69) rfl ?_
          show Steps p.tables e below (s₁.setTop (mkF m 70 #[.val (.ref a1), .val (.int p1), .val (.int p2), .val (.int p3), .val (.int p4), .val (.int p5), .val (.int p6)] [(.int p1)])) _
          refine XS.iconst X0.here hx rfl (hb hby own_d_method_3_70) ?_
          show Steps p.tables e below (s₁.setTop (mkF m 71 #[.val (.ref a1), .val (.int p1), .val (.int p2), .val (.int p3), .val (.int p4), .val (.int p5), .val (.int p6)] [(.int (4 : Int32)), (.int p1)])) _
          refine XS.icmpYes X0.here hx rfl (pc0 := 71) (pc' := 84) rfl (hb hby own_d_method_3_71) rfl (flt (own_no (3 : Int32) (4 : Int32) (own_no (2 : Int32) (3 : Int32) hc9 (by decide)) (by decide))).2.2.2 (by decide) (by decide) ?_
          show Steps p.tables e below (s₁.setTop (mkF m 84 #[.val (.ref a1), .val (.int p1), .val (.int p2), .val (.int p3), .val (.int p4), .val (.int p5), .val (.int p6)] [])) _
          refine XS.iconst X0.here hx rfl (hb hby own_d_method_3_84) ?_
          exact kt
        obtain ⟨fs, hr, hrun, hended, hW, hsame⟩ := X0.leave (v := some (.int (1 : Int32))) (fun h => by rw [Bd.returns] at h; cases h)
        refine ⟨_, _, pre20 _ ?_, hrun, hended, _, _, rfl, ?_, ⟨_, rfl⟩, hW, hsame.mono (by decide) (by decide)⟩
        · show Steps p.tables e below (s₁.setTop (mkF m 85 #[.val (.ref a1), .val (.int p1), .val (.int p2), .val (.int p3), .val (.int p4), .val (.int p5), .val (.int p6)] [(.int (1 : Int32))])) _
          exact retN X0 hx (t := .boolean) Bd.returns (by simp) (hb hby own_d_method_3_85) hr
        · show own_Q_mt Z a1 p1 p2 p3 p4 p5 p6 n_ f h0 n0 (some (.int (1 : Int32))) s₁.heap _
          rw [e0]
          exact ⟨rfl, N0, rfl⟩
    · have pre21 : ∀ t, Steps p.tables e below (s₁.setTop (mkF m 85 #[.val (.ref a1), .val (.int p1), .val (.int p2), .val (.int p3), .val (.int p4), .val (.int p5), .val (.int p6)] [(.int (1 : Int32))])) t → Steps p.tables e below (s₁.setTop (entryFrame m #[(.ref a1), (.int p1), (.int p2), (.int p3), (.int p4), (.int p5), (.int p6)] 7)) t := by
        intro t kt
        refine pre5 t ?_
        show Steps p.tables e below (s₁.setTop (mkF m 27 #[.val (.ref a1), .val (.int p1), .val (.int p2), .val (.int p3), .val (.int p4), .val (.int p5), .val (.int p6)] [(.int (1 : Int32)), (.int p1)])) _
        refine XS.icmpYes X0.here hx rfl (pc0 := 27) (pc' := 39) rfl (hb hby own_d_method_3_27) rfl (flt hc6).2.2.2 (by decide) (by decide) ?_
        show Steps p.tables e below (s₁.setTop (mkF m 39 #[.val (.ref a1), .val (.int p1), .val (.int p2), .val (.int p3), .val (.int p4), .val (.int p5), .val (.int p6)] [])) _
        refine XS.iloadN X0.here hx rfl (hb hby own_d_method_3_39) rfl ?_
        show Steps p.tables e below (s₁.setTop (mkF m 40 #[.val (.ref a1), .val (.int p1), .val (.int p2), .val (.int p3), .val (.int p4), .val (.int p5), .val (.int p6)] [(.int p1)])) _
        refine XS.iconst X0.here hx rfl (hb hby own_d_method_3_40) ?_
        show Steps p.tables e below (s₁.setTop (mkF m 41 #[.val (.ref a1), .val (.int p1), .val (.int p2), .val (.int p3), .val (.int p4), .val (.int p5), .val (.int p6)] [(.int (2 : Int32)), (.int p1)])) _
        refine XS.icmpYes X0.here hx rfl (pc0 := 41) (pc' := 54) rfl (hb hby own_d_method_3_41) rfl (flt (own_no (1 : Int32) (2 : Int32) hc6 (by decide))).2.2.2 (by decide) (by decide) ?_
        show Steps p.tables e below (s₁.setTop (mkF m 54 #[.val (.ref a1), .val (.int p1), .val (.int p2), .val (.int p3), .val (.int p4), .val (.int p5), .val (.int p6)] [])) _
        refine XS.iloadN X0.here hx rfl (hb hby own_d_method_3_54) rfl ?_
        show Steps p.tables e below (s₁.setTop (mkF m 55 #[.val (.ref a1), .val (.int p1), .val (.int p2), .val (.int p3), .val (.int p4), .val (.int p5), .val (.int p6)] [(.int p1)])) _
        refine XS.iconst X0.here hx rfl (hb hby own_d_method_3_55) ?_
        show Steps p.tables e below (s₁.setTop (mkF m 56 #[.val (.ref a1), .val (.int p1), .val (.int p2), .val (.int p3), .val (.int p4), .val (.int p5), .val (.int p6)] [(.int (3 : Int32)), (.int p1)])) _
        refine XS.icmpYes X0.here hx rfl (pc0 := 56) (pc' := 69) rfl (hb hby own_d_method_3_56) rfl (flt (own_no (2 : Int32) (3 : Int32) (own_no (1 : Int32) (2 : Int32) hc6 (by decide)) (by decide))).2.2.2 (by decide) (by decide) ?_
        show Steps p.tables e below (s₁.setTop (mkF m 69 #[.val (.ref a1), .val (.int p1), .val (.int p2), .val (.int p3), .val (.int p4), .val (.int p5), .val (.int p6)] [])) _
        refine XS.iloadN X0.here hx rfl (hb hby own_d_method_3_69) rfl ?_
        show Steps p.tables e below (s₁.setTop (mkF m 70 #[.val (.ref a1), .val (.int p1), .val (.int p2), .val (.int p3), .val (.int p4), .val (.int p5), .val (.int p6)] [(.int p1)])) _
        refine XS.iconst X0.here hx rfl (hb hby own_d_method_3_70) ?_
        show Steps p.tables e below (s₁.setTop (mkF m 71 #[.val (.ref a1), .val (.int p1), .val (.int p2), .val (.int p3), .val (.int p4), .val (.int p5), .val (.int p6)] [(.int (4 : Int32)), (.int p1)])) _
        refine XS.icmpYes X0.here hx rfl (pc0 := 71) (pc' := 84) rfl (hb hby own_d_method_3_71) rfl (flt (own_no (3 : Int32) (4 : Int32) (own_no (2 : Int32) (3 : Int32) (own_no (1 : Int32) (2 : Int32) hc6 (by decide)) (by decide)) (by decide))).2.2.2 (by decide) (by decide) ?_
        show Steps p.tables e below (s₁.setTop (mkF m 84 #[.val (.ref a1), .val (.int p1), .val (.int p2), .val (.int p3), .val (.int p4), .val (.int p5), .val (.int p6)] [])) _
        refine XS.iconst X0.here hx rfl (hb hby own_d_method_3_84) ?_
        exact kt
      obtain ⟨fs, hr, hrun, hended, hW, hsame⟩ := X0.leave (v := some (.int (1 : Int32))) (fun h => by rw [Bd.returns] at h; cases h)
      refine ⟨_, _, pre21 _ ?_, hrun, hended, _, _, rfl, ?_, ⟨_, rfl⟩, hW, hsame.mono (by decide) (by decide)⟩
      · show Steps p.tables e below (s₁.setTop (mkF m 85 #[.val (.ref a1), .val (.int p1), .val (.int p2), .val (.int p3), .val (.int p4), .val (.int p5), .val (.int p6)] [(.int (1 : Int32))])) _
        exact retN X0 hx (t := .boolean) Bd.returns (by simp) (hb hby own_d_method_3_85) hr
      · show own_Q_mt Z a1 p1 p2 p3 p4 p5 p6 n_ f h0 n0 (some (.int (1 : Int32))) s₁.heap _
        rw [e0]
        exact ⟨rfl, N0, rfl⟩
  · have pre22 : ∀ t, Steps p.tables e below (s₁.setTop (mkF m 71 #[.val (.ref a1), .val (.int p1), .val (.int p2), .val (.int p3), .val (.int p4), .val (.int p5), .val (.int p6)] [(.int (4 : Int32)), (.int p1)])) t → Steps p.tables e below (s₁.setTop (entryFrame m #[(.ref a1), (.int p1), (.int p2), (.int p3), (.int p4), (.int p5), (.int p6)] 7)) t := by
      intro t kt
      refine pre2 t ?_
      show Steps p.tables e below (s₁.setTop (mkF m 13 #[.val (.ref a1), .val (.int p1), .val (.int p2), .val (.int p3), .val (.int p4), .val (.int p5), .val (.int p6)] [(.int p1)])) _
      refine XS.ifYes X0.here hx rfl (pc0 := 13) (pc' := 25) rfl (hb hby own_d_method_3_13) rfl ((if0 _ _).trans (flt hc3).2.2.2) (by decide) (by decide) ?_
      show Steps p.tables e below (s₁.setTop (mkF m 25 #[.val (.ref a1), .val (.int p1), .val (.int p2), .val (.int p3), .val (.int p4), .val (.int p5), .val (.int p6)] [])) _
      refine XS.iloadN X0.here hx rfl (hb hby own_d_method_3_25) rfl ?_
      show Steps p.tables e below (s₁.setTop (mkF m 26 #[.val (.ref a1), .val (.int p1), .val (.int p2), .val (.int p3), .val (.int p4), .val (.int p5), .val (.int p6)] [(.int p1)])) _
      refine XS.iconst X0.here hx rfl (hb hby own_d_method_3_26) ?_
      show Steps p.tables e below (s₁.setTop (mkF m 27 #[.val (.ref a1), .val (.int p1), .val (.int p2), .val (.int p3), .val (.int p4), .val (.int p5), .val (.int p6)] [(.int (1 : Int32)), (.int p1)])) _
      refine XS.icmpYes X0.here hx rfl (pc0 := 27) (pc' := 39) rfl (hb hby own_d_method_3_27) rfl (flt (own_no (0 : Int32) (1 : Int32) hc3 (by decide))).2.2.2 (by decide) (by decide) ?_
      show Steps p.tables e below (s₁.setTop (mkF m 39 #[.val (.ref a1), .val (.int p1), .val (.int p2), .val (.int p3), .val (.int p4), .val (.int p5), .val (.int p6)] [])) _
      refine XS.iloadN X0.here hx rfl (hb hby own_d_method_3_39) rfl ?_
      show Steps p.tables e below (s₁.setTop (mkF m 40 #[.val (.ref a1), .val (.int p1), .val (.int p2), .val (.int p3), .val (.int p4), .val (.int p5), .val (.int p6)] [(.int p1)])) _
      refine XS.iconst X0.here hx rfl (hb hby own_d_method_3_40) ?_
      show Steps p.tables e below (s₁.setTop (mkF m 41 #[.val (.ref a1), .val (.int p1), .val (.int p2), .val (.int p3), .val (.int p4), .val (.int p5), .val (.int p6)] [(.int (2 : Int32)), (.int p1)])) _
      refine XS.icmpYes X0.here hx rfl (pc0 := 41) (pc' := 54) rfl (hb hby own_d_method_3_41) rfl (flt (own_no (1 : Int32) (2 : Int32) (own_no (0 : Int32) (1 : Int32) hc3 (by decide)) (by decide))).2.2.2 (by decide) (by decide) ?_
      show Steps p.tables e below (s₁.setTop (mkF m 54 #[.val (.ref a1), .val (.int p1), .val (.int p2), .val (.int p3), .val (.int p4), .val (.int p5), .val (.int p6)] [])) _
      refine XS.iloadN X0.here hx rfl (hb hby own_d_method_3_54) rfl ?_
      show Steps p.tables e below (s₁.setTop (mkF m 55 #[.val (.ref a1), .val (.int p1), .val (.int p2), .val (.int p3), .val (.int p4), .val (.int p5), .val (.int p6)] [(.int p1)])) _
      refine XS.iconst X0.here hx rfl (hb hby own_d_method_3_55) ?_
      show Steps p.tables e below (s₁.setTop (mkF m 56 #[.val (.ref a1), .val (.int p1), .val (.int p2), .val (.int p3), .val (.int p4), .val (.int p5), .val (.int p6)] [(.int (3 : Int32)), (.int p1)])) _
      refine XS.icmpYes X0.here hx rfl (pc0 := 56) (pc' := 69) rfl (hb hby own_d_method_3_56) rfl (flt (own_no (2 : Int32) (3 : Int32) (own_no (1 : Int32) (2 : Int32) (own_no (0 : Int32) (1 : Int32) hc3 (by decide)) (by decide)) (by decide))).2.2.2 (by decide) (by decide) ?_
      show Steps p.tables e below (s₁.setTop (mkF m 69 #[.val (.ref a1), .val (.int p1), .val (.int p2), .val (.int p3), .val (.int p4), .val (.int p5), .val (.int p6)] [])) _
      refine XS.iloadN X0.here hx rfl (hb hby own_d_method_3_69) rfl ?_
      show Steps p.tables e below (s₁.setTop (mkF m 70 #[.val (.ref a1), .val (.int p1), .val (.int p2), .val (.int p3), .val (.int p4), .val (.int p5), .val (.int p6)] [(.int p1)])) _
      refine XS.iconst X0.here hx rfl (hb hby own_d_method_3_70) ?_
      exact kt
    have pre23 : ∀ t, Steps p.tables e below (s₁.setTop (mkF m 85 #[.val (.ref a1), .val (.int p1), .val (.int p2), .val (.int p3), .val (.int p4), .val (.int p5), .val (.int p6)] [(.int (1 : Int32))])) t → Steps p.tables e below (s₁.setTop (entryFrame m #[(.ref a1), (.int p1), (.int p2), (.int p3), (.int p4), (.int p5), (.int p6)] 7)) t := by
      intro t kt
      refine pre22 t ?_
      show Steps p.tables e below (s₁.setTop (mkF m 71 #[.val (.ref a1), .val (.int p1), .val (.int p2), .val (.int p3), .val (.int p4), .val (.int p5), .val (.int p6)] [(.int (4 : Int32)), (.int p1)])) _
      refine XS.icmpYes X0.here hx rfl (pc0 := 71) (pc' := 84) rfl (hb hby own_d_method_3_71) rfl (flt (own_no (3 : Int32) (4 : Int32) (own_no (2 : Int32) (3 : Int32) (own_no (1 : Int32) (2 : Int32) (own_no (0 : Int32) (1 : Int32) hc3 (by decide)) (by decide)) (by decide)) (by decide))).2.2.2 (by decide) (by decide) ?_
      show Steps p.tables e below (s₁.setTop (mkF m 84 #[.val (.ref a1), .val (.int p1), .val (.int p2), .val (.int p3), .val (.int p4), .val (.int p5), .val (.int p6)] [])) _
      refine XS.iconst X0.here hx rfl (hb hby own_d_method_3_84) ?_
      exact kt
    obtain ⟨fs, hr, hrun, hended, hW, hsame⟩ := X0.leave (v := some (.int (1 : Int32))) (fun h => by rw [Bd.returns] at h; cases h)
    refine ⟨_, _, pre23 _ ?_, hrun, hended, _, _, rfl, ?_, ⟨_, rfl⟩, hW, hsame.mono (by decide) (by decide)⟩
    · show Steps p.tables e below (s₁.setTop (mkF m 85 #[.val (.ref a1), .val (.int p1), .val (.int p2), .val (.int p3), .val (.int p4), .val (.int p5), .val (.int p6)] [(.int (1 : Int32))])) _
      exact retN X0 hx (t := .boolean) Bd.returns (by simp) (hb hby own_d_method_3_85) hr
    · show own_Q_mt Z a1 p1 p2 p3 p4 p5 p6 n_ f h0 n0 (some (.int (1 : Int32))) s₁.heap _
      rw [e0]
      exact ⟨rfl, N0, rfl⟩
theorem own_pd2 : parseMethodDescriptor "()V" = some ⟨[], none⟩ := by decide +kernel
theorem own_pd3 : parseMethodDescriptor "(I)V" = some ⟨[.int], none⟩ := by decide +kernel
theorem own_pd4 : parseMethodDescriptor "()[I" = some ⟨[], some (.array .int)⟩ := by decide +kernel
theorem own_pd5 : parseMethodDescriptor "([IIIIIII)Z" = some ⟨[(.array .int), .int, .int, .int, .int, .int, .int], some .boolean⟩ := by decide +kernel
theorem own_ef_law (m : MethodId) (p0 : Int32) (p1 : Int32) (p2 : Int32) (p3 : Int32) (p4 : Int32) (p5 : Int32) : entryFrame m #[(.int p0), (.int p1), (.int p2), (.int p3), (.int p4), (.int p5)] maxLocals = mkF m 0 #[.val (.int p0), .val (.int p1), .val (.int p2), .val (.int p3), .val (.int p4), .val (.int p5), .unset, .unset, .unset, .unset] [] := by first | (simp [entryFrame, mkF, argsToLocals, Value.category, maxLocals]; done) | rfl
def own_Q_law (Z : State) (p0 : Int32) (p1 : Int32) (p2 : Int32) (p3 : Int32) (p4 : Int32) (p5 : Int32) (h0 : Heap) (n0 : Nat) (v : Option Value) (h : Heap) (L : List Loc) : Prop := v = some (.int 1) ∧ Fr n0 L
set_option maxRecDepth 65536 in
set_option maxHeartbeats 40000000 in
theorem own_rm_law (l : Launch) (Z : State) (a0 : Array Value) (hw : ∀ d ∈ tables_1, d.before a0 Z = true) (ws : List Jvm.Cond) (p0 : Int32) (p1 : Int32) (p2 : Int32) (p3 : Int32) (p4 : Int32) (p5 : Int32) (h0 : Heap) (n0 : Nat) (Z0 : n0 ≤ h0.size) :
    MetFree l x (head1 (Jvm.Cond.code x code maxLocals ret :: ws) room_1) (fun a U => a = #[(.int p0), (.int p1), (.int p2), (.int p3), (.int p4), (.int p5)] ∧ Z.Warmed39 U.vm ∧ U.heap = h0) (fun _ _ _ _ _ => True) (fun _ U o U' => ∃ v L, o = .returned v ∧ own_Q_law Z p0 p1 p2 p3 p4 p5 h0 n0 v U'.heap L ∧ FrameEnd U o U' L room_1.cells room_1.slots) := by
  refine MetFree.of_bodySF (plainFor_of_name own_pn2) hisR ?_
  intro p e s m args below meth c s₁ Bd hml0 hP hK
  obtain ⟨rfl, hZ, hh⟩ := hP
  have hx := Bd.exec
  have hby := Bd.bytes
  have hml : c.maxLocals = 10 := hml0
  have hown : s.vm.findClass "com/example/interleaving/interleaving/store/StateGraphInitialStatesPinLaw" = some m.cls := findClass_of_methodNamed Bd.named
  have hnm := (name_of_methodNamed Bd.named Bd.method).1
  have X0 : Stand p l e room_1 s m #[(.int p0), (.int p1), (.int p2), (.int p3), (.int p4), (.int p5)] below meth c s₁ [] 0 0 := Stand.of_body Bd
  have e0 : s₁.heap = h0 := by rw [← hh, Bd.state]; rfl
  have N0 := Fr.nil n0
  have K0 : Keep h0 h0 [] := Keep.refl _ _
  have pre0 : ∀ t, Steps p.tables e below (s₁.setTop (mkF m 0 #[.val (.int p0), .val (.int p1), .val (.int p2), .val (.int p3), .val (.int p4), .val (.int p5), .unset, .unset, .unset, .unset] [])) t → Steps p.tables e below (s₁.setTop (entryFrame m #[(.int p0), (.int p1), (.int p2), (.int p3), (.int p4), (.int p5)] maxLocals)) t := fun t k => castTop (own_ef_law m p0 p1 p2 p3 p4 p5) k
  obtain ⟨T1, h1, X1, e1, E1, A1, D1, -, st1⟩ := newO X0 hx hZ hown (hw _ (List.mem_of_getElem? (i := 1) rfl)) (hw _ (List.mem_of_getElem? (i := 2) rfl)) (hw _ (List.mem_of_getElem? (i := 3) rfl)) e0 (g := (mkF m 9 #[.val (.int p0), .val (.int p1), .val (.int p2), .val (.int p3), .val (.int p4), .val (.int p5), .val (.int ((p0 &&& (2147483647 : Int32)) % (6 : Int32))), .unset, .unset, .unset] [])) rfl (hb hby at_9) (by decide) (by decide)
  obtain ⟨b1, g1⟩ : ∃ z, z = h0.size := ⟨_, rfl⟩
  rw [← g1] at A1 D1 st1
  have sz_b1 : h0.size ≤ b1 := Nat.le_trans K0.1 (Nat.le_of_eq g1.symm)
  have gn_b1 : n0 ≤ b1 := Nat.le_trans Z0 sz_b1
  have k2 := K0.ext E1
  have f3 : Fld Z h1 b1 "com/example/interleaving/interleaving/store/StateGraph" "initial" "[I" .null := D1 (Or.inl (hw _ (List.mem_of_getElem? (i := 12) rfl))) (ty := (.array .int)) (by decide)
  have f4 : Fld Z h1 b1 "com/example/interleaving/interleaving/store/StateGraph" "targets" "[I" .null := D1 (Or.inl (hw _ (List.mem_of_getElem? (i := 14) rfl))) (ty := (.array .int)) (by decide)
  have f5 : Fld Z h1 b1 "com/example/interleaving/interleaving/store/StateGraph" "firsts" "[I" .null := D1 (Or.inl (hw _ (List.mem_of_getElem? (i := 16) rfl))) (ty := (.array .int)) (by decide)
  have f6 : Fld Z h1 b1 "com/example/interleaving/interleaving/store/StateGraph" "open" "I" (.int (0 : Int32)) := D1 (Or.inl (hw _ (List.mem_of_getElem? (i := 18) rfl))) (ty := .int) (by decide)
  have f7 : Fld Z h1 b1 "com/example/interleaving/interleaving/store/StateGraph" "initialCount" "I" (.int (0 : Int32)) := D1 (Or.inl (hw _ (List.mem_of_getElem? (i := 25) rfl))) (ty := .int) (by decide)
  have zs8 : n0 ≤ h1.size := Nat.le_trans Z0 k2.1
  obtain ⟨_, _, ⟨T9, L9, k9, n9⟩, -, X9, ⟨Lc9, hQ9, l9, y9, z9⟩, st9⟩ := X1.specialBack hx (y := (⟨"com/example/interleaving/interleaving/store/StateGraph", "<init>", "()V"⟩ : MethodName)) rfl hown (mvT hZ (hw _ (List.mem_of_getElem? (i := 4) rfl))) (mvT hZ (hw _ (List.mem_of_getElem? (i := 5) rfl))) (mvT hZ (hw _ (List.mem_of_getElem? (i := 6) rfl))) (by decide) (backOf (W := 1) (own_rm_ctor l Z a0 hw [] b1 h1 n0 zs8 A1 f3 f4 f5 f6 f7 gn_b1) hZ (hw _ (List.mem_of_getElem? (i := 6) rfl)) (hw _ (List.mem_of_getElem? (i := 3) rfl)) (by decide) (by decide)) (g := (mkF m 13 #[.val (.int p0), .val (.int p1), .val (.int p2), .val (.int p3), .val (.int p4), .val (.int p5), .val (.int ((p0 &&& (2147483647 : Int32)) % (6 : Int32))), .unset, .unset, .unset] [(.ref b1), (.ref b1)])) rfl (by rw [hml]; rfl) (Steps.refl _) (a := b1) (argsL := []) (rest := [(.ref b1)]) (lenOf own_pd2 rfl) rfl (by show 2 * 0 + _ ≤ _; exact Nat.le_of_eq rfl) (hb hby at_13) (fun _ _ => ⟨rfl, e1, (by decide : 1 + 3 ≤ _), (by decide : 7 + 2065 ≤ _)⟩)
  dsimp only [Pt.U, Pt.locs, Pt.cells, Pt.slots] at X9 l9 y9 z9 st9 hQ9
  rw [l9, (y9 : k9 = 4), (z9 : n9 = 2072)] at X9
  clear l9 y9 z9
  obtain ⟨bx10, rfl, N10, K10, c10_0, c10_1, c10_2, c10_3, c10_4⟩ := hQ9
  have sz_bx10 : h0.size ≤ bx10 := Nat.le_trans k2.1 c10_0
  have gn_bx10 : n0 ≤ bx10 := Nat.le_trans Z0 sz_bx10
  have ne_b1_bx10 : b1 ≠ bx10 := Nat.ne_of_lt (Nat.lt_of_lt_of_le f7.lt c10_0)
  have f11 := A1.keep K10
  have k12 := k2.trans K10 (allS (Or.inr sz_b1) all0)
  have nf13 := Fr.app N0 N10
  have pre14 : ∀ t, Steps p.tables e below (T9.setTop (mkF m 20 #[.val (.int p0), .val (.int p1), .val (.int p2), .val (.int p3), .val (.int p4), .val (.int p5), .val (.int ((p0 &&& (2147483647 : Int32)) % (6 : Int32))), .val (.ref b1), .unset, .unset] [(.int ((p0 &&& (2147483647 : Int32)) % (6 : Int32)))])) t → Steps p.tables e below (s₁.setTop (entryFrame m #[(.int p0), (.int p1), (.int p2), (.int p3), (.int p4), (.int p5)] maxLocals)) t := by
    intro t kt
    refine pre0 t ?_
    show Steps p.tables e below (s₁.setTop (mkF m 0 #[.val (.int p0), .val (.int p1), .val (.int p2), .val (.int p3), .val (.int p4), .val (.int p5), .unset, .unset, .unset, .unset] [])) _
    refine XS.iloadN X0.here hx rfl (hb hby at_0) rfl ?_
    show Steps p.tables e below (s₁.setTop (mkF m 1 #[.val (.int p0), .val (.int p1), .val (.int p2), .val (.int p3), .val (.int p4), .val (.int p5), .unset, .unset, .unset, .unset] [(.int p0)])) _
    refine X0.ldcI hx hown (mvT hZ (hw _ (List.mem_of_getElem? (i := 0) rfl))) (g := (mkF m 1 #[.val (.int p0), .val (.int p1), .val (.int p2), .val (.int p3), .val (.int p4), .val (.int p5), .unset, .unset, .unset, .unset] [(.int p0)])) rfl (hb hby at_1) ?_
    show Steps p.tables e below (s₁.setTop (mkF m 3 #[.val (.int p0), .val (.int p1), .val (.int p2), .val (.int p3), .val (.int p4), .val (.int p5), .unset, .unset, .unset, .unset] [(.int (2147483647 : Int32)), (.int p0)])) _
    refine XS.iand X0.here hx rfl (hb hby at_3) rfl ?_
    show Steps p.tables e below (s₁.setTop (mkF m 4 #[.val (.int p0), .val (.int p1), .val (.int p2), .val (.int p3), .val (.int p4), .val (.int p5), .unset, .unset, .unset, .unset] [(.int (p0 &&& (2147483647 : Int32)))])) _
    refine XS.bipush X0.here hx rfl (hb hby at_4) ?_
    show Steps p.tables e below (s₁.setTop (mkF m 6 #[.val (.int p0), .val (.int p1), .val (.int p2), .val (.int p3), .val (.int p4), .val (.int p5), .unset, .unset, .unset, .unset] [(.int (6 : Int32)), (.int (p0 &&& (2147483647 : Int32)))])) _
    refine iremM X0 hx rfl (hb hby at_6) rfl (by decide) ?_
    show Steps p.tables e below (s₁.setTop (mkF m 7 #[.val (.int p0), .val (.int p1), .val (.int p2), .val (.int p3), .val (.int p4), .val (.int p5), .unset, .unset, .unset, .unset] [(.int ((p0 &&& (2147483647 : Int32)) % (6 : Int32)))])) _
    refine XS.istore X0.here hx rfl (hb hby at_7) rfl (l' := #[.val (.int p0), .val (.int p1), .val (.int p2), .val (.int p3), .val (.int p4), .val (.int p5), .val (.int ((p0 &&& (2147483647 : Int32)) % (6 : Int32))), .unset, .unset, .unset]) rfl ?_
    show Steps p.tables e below (s₁.setTop (mkF m 9 #[.val (.int p0), .val (.int p1), .val (.int p2), .val (.int p3), .val (.int p4), .val (.int p5), .val (.int ((p0 &&& (2147483647 : Int32)) % (6 : Int32))), .unset, .unset, .unset] [])) _
    refine st1 _ ?_
    show Steps p.tables e below (T1.setTop (mkF m 12 #[.val (.int p0), .val (.int p1), .val (.int p2), .val (.int p3), .val (.int p4), .val (.int p5), .val (.int ((p0 &&& (2147483647 : Int32)) % (6 : Int32))), .unset, .unset, .unset] [(.ref b1)])) _
    refine XS.dup X1.here hx rfl (hb hby at_12) rfl rfl ?_
    show Steps p.tables e below (T1.setTop (mkF m 13 #[.val (.int p0), .val (.int p1), .val (.int p2), .val (.int p3), .val (.int p4), .val (.int p5), .val (.int ((p0 &&& (2147483647 : Int32)) % (6 : Int32))), .unset, .unset, .unset] [(.ref b1), (.ref b1)])) _
    refine st9.trans ?_
    show Steps p.tables e below (T9.setTop (mkF m 16 #[.val (.int p0), .val (.int p1), .val (.int p2), .val (.int p3), .val (.int p4), .val (.int p5), .val (.int ((p0 &&& (2147483647 : Int32)) % (6 : Int32))), .unset, .unset, .unset] [(.ref b1)])) _
    refine XS.astore X9.here hx rfl (hb hby at_16) rfl rfl (l' := #[.val (.int p0), .val (.int p1), .val (.int p2), .val (.int p3), .val (.int p4), .val (.int p5), .val (.int ((p0 &&& (2147483647 : Int32)) % (6 : Int32))), .val (.ref b1), .unset, .unset]) rfl ?_
    show Steps p.tables e below (T9.setTop (mkF m 18 #[.val (.int p0), .val (.int p1), .val (.int p2), .val (.int p3), .val (.int p4), .val (.int p5), .val (.int ((p0 &&& (2147483647 : Int32)) % (6 : Int32))), .val (.ref b1), .unset, .unset] [])) _
    refine XS.iload X9.here hx rfl (hb hby at_18) rfl ?_
    exact kt
  by_cases hc15 : (0 : Int32) < ((p0 &&& (2147483647 : Int32)) % (6 : Int32))
  · have zs16 : n0 ≤ T9.heap.size := Nat.le_trans Z0 k12.1
    obtain ⟨cq18, kq18, q18a, q18b, q18c⟩ := isOf hZ rfl f11
    obtain ⟨_, _, ⟨T17, L17, k17, n17⟩, -, X17, ⟨Lc17, hQ17, l17, y17, z17⟩, st17⟩ := X9.virtualBack hx (y := (⟨"com/example/interleaving/interleaving/store/StateGraph", "addInitial", "(I)V"⟩ : MethodName)) (z := (⟨"com/example/interleaving/interleaving/store/StateGraph", "addInitial", "(I)V"⟩ : MethodName)) hown (mvT hZ (hw _ (List.mem_of_getElem? (i := 42) rfl))) (mvT hZ (hw _ (List.mem_of_getElem? (i := 43) rfl))) (notFace_of_selects (args := #[]) (mvT hZ (hw _ (List.mem_of_getElem? (i := 45) rfl)))) (mvT hZ (hw _ (List.mem_of_getElem? (i := 45) rfl))) (mvT hZ (hw _ (List.mem_of_getElem? (i := 44) rfl))) (by decide) (backOf (W := 0) (own_rm_add l Z a0 hw [] b1 p1 bx10 0 16 (fun _ => 0) T9.heap n0 zs16 f11 c10_1 c10_2 c10_3 gn_b1 gn_bx10 ne_b1_bx10 (by decide) (by decide)) hZ (hw _ (List.mem_of_getElem? (i := 46) rfl)) (hw _ (List.mem_of_getElem? (i := 3) rfl)) (by decide) (by decide)) q18a q18c (g := (mkF m 26 #[.val (.int p0), .val (.int p1), .val (.int p2), .val (.int p3), .val (.int p4), .val (.int p5), .val (.int ((p0 &&& (2147483647 : Int32)) % (6 : Int32))), .val (.ref b1), .unset, .unset] [(.int p1), (.ref b1)])) rfl (by rw [hml]; rfl) (Steps.refl _) (argsL := [(.int p1)]) (rest := []) (lenOf own_pd3 rfl) rfl (by show 2 * 0 + _ ≤ _; exact Nat.le_of_eq rfl) (hb hby at_26) (fun _ _ => ⟨rfl, rfl, (by decide : 4 + 0 ≤ _), (by decide : 2072 + 0 ≤ _)⟩)
    dsimp only [Pt.U, Pt.locs, Pt.cells, Pt.slots] at X17 l17 y17 z17 st17 hQ17
    rw [l17, (y17 : k17 = 4), (z17 : n17 = 2072)] at X17
    clear l17 y17 z17
    obtain ⟨rfl, N19, K19, c19_0, c19_1, c19_2⟩ := hQ17
    have f20 := f11.keep K19
    have f21 := c10_4.keep K19
    have k22 := k12.trans K19 (allS (Or.inr sz_b1) (allS (Or.inr sz_bx10) all0))
    have nf23 := Fr.app nf13 N19
    have pre24 : ∀ t, Steps p.tables e below (T17.setTop (mkF m 32 #[.val (.int p0), .val (.int p1), .val (.int p2), .val (.int p3), .val (.int p4), .val (.int p5), .val (.int ((p0 &&& (2147483647 : Int32)) % (6 : Int32))), .val (.ref b1), .unset, .unset] [(.int (1 : Int32)), (.int ((p0 &&& (2147483647 : Int32)) % (6 : Int32)))])) t → Steps p.tables e below (s₁.setTop (entryFrame m #[(.int p0), (.int p1), (.int p2), (.int p3), (.int p4), (.int p5)] maxLocals)) t := by
      intro t kt
      refine pre14 t ?_
      show Steps p.tables e below (T9.setTop (mkF m 20 #[.val (.int p0), .val (.int p1), .val (.int p2), .val (.int p3), .val (.int p4), .val (.int p5), .val (.int ((p0 &&& (2147483647 : Int32)) % (6 : Int32))), .val (.ref b1), .unset, .unset] [(.int ((p0 &&& (2147483647 : Int32)) % (6 : Int32)))])) _
      refine XS.ifNo X9.here hx rfl (hb hby at_20) rfl ((if0 _ _).trans (tlt hc15).2.2.2) ?_
      show Steps p.tables e below (T9.setTop (mkF m 23 #[.val (.int p0), .val (.int p1), .val (.int p2), .val (.int p3), .val (.int p4), .val (.int p5), .val (.int ((p0 &&& (2147483647 : Int32)) % (6 : Int32))), .val (.ref b1), .unset, .unset] [])) _
      refine XS.aload X9.here hx rfl (hb hby at_23) rfl rfl ?_
      show Steps p.tables e below (T9.setTop (mkF m 25 #[.val (.int p0), .val (.int p1), .val (.int p2), .val (.int p3), .val (.int p4), .val (.int p5), .val (.int ((p0 &&& (2147483647 : Int32)) % (6 : Int32))), .val (.ref b1), .unset, .unset] [(.ref b1)])) _
      refine XS.iloadN X9.here hx rfl (hb hby at_25) rfl ?_
      show Steps p.tables e below (T9.setTop (mkF m 26 #[.val (.int p0), .val (.int p1), .val (.int p2), .val (.int p3), .val (.int p4), .val (.int p5), .val (.int ((p0 &&& (2147483647 : Int32)) % (6 : Int32))), .val (.ref b1), .unset, .unset] [(.int p1), (.ref b1)])) _
      refine st17.trans ?_
      show Steps p.tables e below (T17.setTop (mkF m 29 #[.val (.int p0), .val (.int p1), .val (.int p2), .val (.int p3), .val (.int p4), .val (.int p5), .val (.int ((p0 &&& (2147483647 : Int32)) % (6 : Int32))), .val (.ref b1), .unset, .unset] [])) _
      refine XS.iload X17.here hx rfl (hb hby at_29) rfl ?_
      show Steps p.tables e below (T17.setTop (mkF m 31 #[.val (.int p0), .val (.int p1), .val (.int p2), .val (.int p3), .val (.int p4), .val (.int p5), .val (.int ((p0 &&& (2147483647 : Int32)) % (6 : Int32))), .val (.ref b1), .unset, .unset] [(.int ((p0 &&& (2147483647 : Int32)) % (6 : Int32)))])) _
      refine XS.iconst X17.here hx rfl (hb hby at_31) ?_
      exact kt
    by_cases hc25 : (1 : Int32) < ((p0 &&& (2147483647 : Int32)) % (6 : Int32))
    · have zs26 : n0 ≤ T17.heap.size := Nat.le_trans Z0 k22.1
      obtain ⟨cq28, kq28, q28a, q28b, q28c⟩ := isOf hZ rfl f20
      obtain ⟨_, _, ⟨T27, L27, k27, n27⟩, -, X27, ⟨Lc27, hQ27, l27, y27, z27⟩, st27⟩ := X17.virtualBack hx (y := (⟨"com/example/interleaving/interleaving/store/StateGraph", "addInitial", "(I)V"⟩ : MethodName)) (z := (⟨"com/example/interleaving/interleaving/store/StateGraph", "addInitial", "(I)V"⟩ : MethodName)) hown (mvT hZ (hw _ (List.mem_of_getElem? (i := 42) rfl))) (mvT hZ (hw _ (List.mem_of_getElem? (i := 43) rfl))) (notFace_of_selects (args := #[]) (mvT hZ (hw _ (List.mem_of_getElem? (i := 45) rfl)))) (mvT hZ (hw _ (List.mem_of_getElem? (i := 45) rfl))) (mvT hZ (hw _ (List.mem_of_getElem? (i := 44) rfl))) (by decide) (backOf (W := 0) (own_rm_add l Z a0 hw [] b1 p2 bx10 1 16 (own_upd (fun _ => 0) 0 p1) T17.heap n0 zs26 f20 c19_0 c19_1 c19_2 gn_b1 gn_bx10 ne_b1_bx10 (by decide) (by decide)) hZ (hw _ (List.mem_of_getElem? (i := 46) rfl)) (hw _ (List.mem_of_getElem? (i := 3) rfl)) (by decide) (by decide)) q28a q28c (g := (mkF m 38 #[.val (.int p0), .val (.int p1), .val (.int p2), .val (.int p3), .val (.int p4), .val (.int p5), .val (.int ((p0 &&& (2147483647 : Int32)) % (6 : Int32))), .val (.ref b1), .unset, .unset] [(.int p2), (.ref b1)])) rfl (by rw [hml]; rfl) (Steps.refl _) (argsL := [(.int p2)]) (rest := []) (lenOf own_pd3 rfl) rfl (by show 2 * 0 + _ ≤ _; exact Nat.le_of_eq rfl) (hb hby at_38) (fun _ _ => ⟨rfl, rfl, (by decide : 4 + 0 ≤ _), (by decide : 2072 + 0 ≤ _)⟩)
      dsimp only [Pt.U, Pt.locs, Pt.cells, Pt.slots] at X27 l27 y27 z27 st27 hQ27
      rw [l27, (y27 : k27 = 4), (z27 : n27 = 2072)] at X27
      clear l27 y27 z27
      obtain ⟨rfl, N29, K29, c29_0, c29_1, c29_2⟩ := hQ27
      have f30 := f20.keep K29
      have f31 := f21.keep K29
      have k32 := k22.trans K29 (allS (Or.inr sz_b1) (allS (Or.inr sz_bx10) all0))
      have nf33 := Fr.app nf23 N29
      have pre34 : ∀ t, Steps p.tables e below (T27.setTop (mkF m 44 #[.val (.int p0), .val (.int p1), .val (.int p2), .val (.int p3), .val (.int p4), .val (.int p5), .val (.int ((p0 &&& (2147483647 : Int32)) % (6 : Int32))), .val (.ref b1), .unset, .unset] [(.int (2 : Int32)), (.int ((p0 &&& (2147483647 : Int32)) % (6 : Int32)))])) t → Steps p.tables e below (s₁.setTop (entryFrame m #[(.int p0), (.int p1), (.int p2), (.int p3), (.int p4), (.int p5)] maxLocals)) t := by
        intro t kt
        refine pre24 t ?_
        show Steps p.tables e below (T17.setTop (mkF m 32 #[.val (.int p0), .val (.int p1), .val (.int p2), .val (.int p3), .val (.int p4), .val (.int p5), .val (.int ((p0 &&& (2147483647 : Int32)) % (6 : Int32))), .val (.ref b1), .unset, .unset] [(.int (1 : Int32)), (.int ((p0 &&& (2147483647 : Int32)) % (6 : Int32)))])) _
        refine XS.icmpNo X17.here hx rfl (hb hby at_32) rfl (tlt hc25).2.2.2 ?_
        show Steps p.tables e below (T17.setTop (mkF m 35 #[.val (.int p0), .val (.int p1), .val (.int p2), .val (.int p3), .val (.int p4), .val (.int p5), .val (.int ((p0 &&& (2147483647 : Int32)) % (6 : Int32))), .val (.ref b1), .unset, .unset] [])) _
        refine XS.aload X17.here hx rfl (hb hby at_35) rfl rfl ?_
        show Steps p.tables e below (T17.setTop (mkF m 37 #[.val (.int p0), .val (.int p1), .val (.int p2), .val (.int p3), .val (.int p4), .val (.int p5), .val (.int ((p0 &&& (2147483647 : Int32)) % (6 : Int32))), .val (.ref b1), .unset, .unset] [(.ref b1)])) _
        refine XS.iloadN X17.here hx rfl (hb hby at_37) rfl ?_
        show Steps p.tables e below (T17.setTop (mkF m 38 #[.val (.int p0), .val (.int p1), .val (.int p2), .val (.int p3), .val (.int p4), .val (.int p5), .val (.int ((p0 &&& (2147483647 : Int32)) % (6 : Int32))), .val (.ref b1), .unset, .unset] [(.int p2), (.ref b1)])) _
        refine st27.trans ?_
        show Steps p.tables e below (T27.setTop (mkF m 41 #[.val (.int p0), .val (.int p1), .val (.int p2), .val (.int p3), .val (.int p4), .val (.int p5), .val (.int ((p0 &&& (2147483647 : Int32)) % (6 : Int32))), .val (.ref b1), .unset, .unset] [])) _
        refine XS.iload X27.here hx rfl (hb hby at_41) rfl ?_
        show Steps p.tables e below (T27.setTop (mkF m 43 #[.val (.int p0), .val (.int p1), .val (.int p2), .val (.int p3), .val (.int p4), .val (.int p5), .val (.int ((p0 &&& (2147483647 : Int32)) % (6 : Int32))), .val (.ref b1), .unset, .unset] [(.int ((p0 &&& (2147483647 : Int32)) % (6 : Int32)))])) _
        refine XS.iconst X27.here hx rfl (hb hby at_43) ?_
        exact kt
      by_cases hc35 : (2 : Int32) < ((p0 &&& (2147483647 : Int32)) % (6 : Int32))
      · have zs36 : n0 ≤ T27.heap.size := Nat.le_trans Z0 k32.1
        obtain ⟨cq38, kq38, q38a, q38b, q38c⟩ := isOf hZ rfl f30
        obtain ⟨_, _, ⟨T37, L37, k37, n37⟩, -, X37, ⟨Lc37, hQ37, l37, y37, z37⟩, st37⟩ := X27.virtualBack hx (y := (⟨"com/example/interleaving/interleaving/store/StateGraph", "addInitial", "(I)V"⟩ : MethodName)) (z := (⟨"com/example/interleaving/interleaving/store/StateGraph", "addInitial", "(I)V"⟩ : MethodName)) hown (mvT hZ (hw _ (List.mem_of_getElem? (i := 42) rfl))) (mvT hZ (hw _ (List.mem_of_getElem? (i := 43) rfl))) (notFace_of_selects (args := #[]) (mvT hZ (hw _ (List.mem_of_getElem? (i := 45) rfl)))) (mvT hZ (hw _ (List.mem_of_getElem? (i := 45) rfl))) (mvT hZ (hw _ (List.mem_of_getElem? (i := 44) rfl))) (by decide) (backOf (W := 0) (own_rm_add l Z a0 hw [] b1 p3 bx10 2 16 (own_upd (own_upd (fun _ => 0) 0 p1) 1 p2) T27.heap n0 zs36 f30 c29_0 c29_1 c29_2 gn_b1 gn_bx10 ne_b1_bx10 (by decide) (by decide)) hZ (hw _ (List.mem_of_getElem? (i := 46) rfl)) (hw _ (List.mem_of_getElem? (i := 3) rfl)) (by decide) (by decide)) q38a q38c (g := (mkF m 50 #[.val (.int p0), .val (.int p1), .val (.int p2), .val (.int p3), .val (.int p4), .val (.int p5), .val (.int ((p0 &&& (2147483647 : Int32)) % (6 : Int32))), .val (.ref b1), .unset, .unset] [(.int p3), (.ref b1)])) rfl (by rw [hml]; rfl) (Steps.refl _) (argsL := [(.int p3)]) (rest := []) (lenOf own_pd3 rfl) rfl (by show 2 * 0 + _ ≤ _; exact Nat.le_of_eq rfl) (hb hby at_50) (fun _ _ => ⟨rfl, rfl, (by decide : 4 + 0 ≤ _), (by decide : 2072 + 0 ≤ _)⟩)
        dsimp only [Pt.U, Pt.locs, Pt.cells, Pt.slots] at X37 l37 y37 z37 st37 hQ37
        rw [l37, (y37 : k37 = 4), (z37 : n37 = 2072)] at X37
        clear l37 y37 z37
        obtain ⟨rfl, N39, K39, c39_0, c39_1, c39_2⟩ := hQ37
        have f40 := f30.keep K39
        have f41 := f31.keep K39
        have k42 := k32.trans K39 (allS (Or.inr sz_b1) (allS (Or.inr sz_bx10) all0))
        have nf43 := Fr.app nf33 N39
        have pre44 : ∀ t, Steps p.tables e below (T37.setTop (mkF m 56 #[.val (.int p0), .val (.int p1), .val (.int p2), .val (.int p3), .val (.int p4), .val (.int p5), .val (.int ((p0 &&& (2147483647 : Int32)) % (6 : Int32))), .val (.ref b1), .unset, .unset] [(.int (3 : Int32)), (.int ((p0 &&& (2147483647 : Int32)) % (6 : Int32)))])) t → Steps p.tables e below (s₁.setTop (entryFrame m #[(.int p0), (.int p1), (.int p2), (.int p3), (.int p4), (.int p5)] maxLocals)) t := by
          intro t kt
          refine pre34 t ?_
          show Steps p.tables e below (T27.setTop (mkF m 44 #[.val (.int p0), .val (.int p1), .val (.int p2), .val (.int p3), .val (.int p4), .val (.int p5), .val (.int ((p0 &&& (2147483647 : Int32)) % (6 : Int32))), .val (.ref b1), .unset, .unset] [(.int (2 : Int32)), (.int ((p0 &&& (2147483647 : Int32)) % (6 : Int32)))])) _
          refine XS.icmpNo X27.here hx rfl (hb hby at_44) rfl (tlt hc35).2.2.2 ?_
          show Steps p.tables e below (T27.setTop (mkF m 47 #[.val (.int p0), .val (.int p1), .val (.int p2), .val (.int p3), .val (.int p4), .val (.int p5), .val (.int ((p0 &&& (2147483647 : Int32)) % (6 : Int32))), .val (.ref b1), .unset, .unset] [])) _
          refine XS.aload X27.here hx rfl (hb hby at_47) rfl rfl ?_
          show Steps p.tables e below (T27.setTop (mkF m 49 #[.val (.int p0), .val (.int p1), .val (.int p2), .val (.int p3), .val (.int p4), .val (.int p5), .val (.int ((p0 &&& (2147483647 : Int32)) % (6 : Int32))), .val (.ref b1), .unset, .unset] [(.ref b1)])) _
          refine XS.iloadN X27.here hx rfl (hb hby at_49) rfl ?_
          show Steps p.tables e below (T27.setTop (mkF m 50 #[.val (.int p0), .val (.int p1), .val (.int p2), .val (.int p3), .val (.int p4), .val (.int p5), .val (.int ((p0 &&& (2147483647 : Int32)) % (6 : Int32))), .val (.ref b1), .unset, .unset] [(.int p3), (.ref b1)])) _
          refine st37.trans ?_
          show Steps p.tables e below (T37.setTop (mkF m 53 #[.val (.int p0), .val (.int p1), .val (.int p2), .val (.int p3), .val (.int p4), .val (.int p5), .val (.int ((p0 &&& (2147483647 : Int32)) % (6 : Int32))), .val (.ref b1), .unset, .unset] [])) _
          refine XS.iload X37.here hx rfl (hb hby at_53) rfl ?_
          show Steps p.tables e below (T37.setTop (mkF m 55 #[.val (.int p0), .val (.int p1), .val (.int p2), .val (.int p3), .val (.int p4), .val (.int p5), .val (.int ((p0 &&& (2147483647 : Int32)) % (6 : Int32))), .val (.ref b1), .unset, .unset] [(.int ((p0 &&& (2147483647 : Int32)) % (6 : Int32)))])) _
          refine XS.iconst X37.here hx rfl (hb hby at_55) ?_
          exact kt
        by_cases hc45 : (3 : Int32) < ((p0 &&& (2147483647 : Int32)) % (6 : Int32))
        · have zs46 : n0 ≤ T37.heap.size := Nat.le_trans Z0 k42.1
          obtain ⟨cq48, kq48, q48a, q48b, q48c⟩ := isOf hZ rfl f40
          obtain ⟨_, _, ⟨T47, L47, k47, n47⟩, -, X47, ⟨Lc47, hQ47, l47, y47, z47⟩, st47⟩ := X37.virtualBack hx (y := (⟨"com/example/interleaving/interleaving/store/StateGraph", "addInitial", "(I)V"⟩ : MethodName)) (z := (⟨"com/example/interleaving/interleaving/store/StateGraph", "addInitial", "(I)V"⟩ : MethodName)) hown (mvT hZ (hw _ (List.mem_of_getElem? (i := 42) rfl))) (mvT hZ (hw _ (List.mem_of_getElem? (i := 43) rfl))) (notFace_of_selects (args := #[]) (mvT hZ (hw _ (List.mem_of_getElem? (i := 45) rfl)))) (mvT hZ (hw _ (List.mem_of_getElem? (i := 45) rfl))) (mvT hZ (hw _ (List.mem_of_getElem? (i := 44) rfl))) (by decide) (backOf (W := 0) (own_rm_add l Z a0 hw [] b1 p4 bx10 3 16 (own_upd (own_upd (own_upd (fun _ => 0) 0 p1) 1 p2) 2 p3) T37.heap n0 zs46 f40 c39_0 c39_1 c39_2 gn_b1 gn_bx10 ne_b1_bx10 (by decide) (by decide)) hZ (hw _ (List.mem_of_getElem? (i := 46) rfl)) (hw _ (List.mem_of_getElem? (i := 3) rfl)) (by decide) (by decide)) q48a q48c (g := (mkF m 63 #[.val (.int p0), .val (.int p1), .val (.int p2), .val (.int p3), .val (.int p4), .val (.int p5), .val (.int ((p0 &&& (2147483647 : Int32)) % (6 : Int32))), .val (.ref b1), .unset, .unset] [(.int p4), (.ref b1)])) rfl (by rw [hml]; rfl) (Steps.refl _) (argsL := [(.int p4)]) (rest := []) (lenOf own_pd3 rfl) rfl (by show 2 * 0 + _ ≤ _; exact Nat.le_of_eq rfl) (hb hby at_63) (fun _ _ => ⟨rfl, rfl, (by decide : 4 + 0 ≤ _), (by decide : 2072 + 0 ≤ _)⟩)
          dsimp only [Pt.U, Pt.locs, Pt.cells, Pt.slots] at X47 l47 y47 z47 st47 hQ47
          rw [l47, (y47 : k47 = 4), (z47 : n47 = 2072)] at X47
          clear l47 y47 z47
          obtain ⟨rfl, N49, K49, c49_0, c49_1, c49_2⟩ := hQ47
          have f50 := f40.keep K49
          have f51 := f41.keep K49
          have k52 := k42.trans K49 (allS (Or.inr sz_b1) (allS (Or.inr sz_bx10) all0))
          have nf53 := Fr.app nf43 N49
          have pre54 : ∀ t, Steps p.tables e below (T47.setTop (mkF m 69 #[.val (.int p0), .val (.int p1), .val (.int p2), .val (.int p3), .val (.int p4), .val (.int p5), .val (.int ((p0 &&& (2147483647 : Int32)) % (6 : Int32))), .val (.ref b1), .unset, .unset] [(.int (4 : Int32)), (.int ((p0 &&& (2147483647 : Int32)) % (6 : Int32)))])) t → Steps p.tables e below (s₁.setTop (entryFrame m #[(.int p0), (.int p1), (.int p2), (.int p3), (.int p4), (.int p5)] maxLocals)) t := by
            intro t kt
            refine pre44 t ?_
            show Steps p.tables e below (T37.setTop (mkF m 56 #[.val (.int p0), .val (.int p1), .val (.int p2), .val (.int p3), .val (.int p4), .val (.int p5), .val (.int ((p0 &&& (2147483647 : Int32)) % (6 : Int32))), .val (.ref b1), .unset, .unset] [(.int (3 : Int32)), (.int ((p0 &&& (2147483647 : Int32)) % (6 : Int32)))])) _
            refine XS.icmpNo X37.here hx rfl (hb hby at_56) rfl (tlt hc45).2.2.2 ?_
            show Steps p.tables e below (T37.setTop (mkF m 59 #[.val (.int p0), .val (.int p1), .val (.int p2), .val (.int p3), .val (.int p4), .val (.int p5), .val (.int ((p0 &&& (2147483647 : Int32)) % (6 : Int32))), .val (.ref b1), .unset, .unset] [])) _
            refine XS.aload X37.here hx rfl (hb hby at_59) rfl rfl ?_
            show Steps p.tables e below (T37.setTop (mkF m 61 #[.val (.int p0), .val (.int p1), .val (.int p2), .val (.int p3), .val (.int p4), .val (.int p5), .val (.int ((p0 &&& (2147483647 : Int32)) % (6 : Int32))), .val (.ref b1), .unset, .unset] [(.ref b1)])) _
            refine XS.iload X37.here hx rfl (hb hby at_61) rfl ?_
            show Steps p.tables e below (T37.setTop (mkF m 63 #[.val (.int p0), .val (.int p1), .val (.int p2), .val (.int p3), .val (.int p4), .val (.int p5), .val (.int ((p0 &&& (2147483647 : Int32)) % (6 : Int32))), .val (.ref b1), .unset, .unset] [(.int p4), (.ref b1)])) _
            refine st47.trans ?_
            show Steps p.tables e below (T47.setTop (mkF m 66 #[.val (.int p0), .val (.int p1), .val (.int p2), .val (.int p3), .val (.int p4), .val (.int p5), .val (.int ((p0 &&& (2147483647 : Int32)) % (6 : Int32))), .val (.ref b1), .unset, .unset] [])) _
            refine XS.iload X47.here hx rfl (hb hby at_66) rfl ?_
            show Steps p.tables e below (T47.setTop (mkF m 68 #[.val (.int p0), .val (.int p1), .val (.int p2), .val (.int p3), .val (.int p4), .val (.int p5), .val (.int ((p0 &&& (2147483647 : Int32)) % (6 : Int32))), .val (.ref b1), .unset, .unset] [(.int ((p0 &&& (2147483647 : Int32)) % (6 : Int32)))])) _
            refine XS.iconst X47.here hx rfl (hb hby at_68) ?_
            exact kt
          by_cases hc55 : (4 : Int32) < ((p0 &&& (2147483647 : Int32)) % (6 : Int32))
          · have zs56 : n0 ≤ T47.heap.size := Nat.le_trans Z0 k52.1
            obtain ⟨cq58, kq58, q58a, q58b, q58c⟩ := isOf hZ rfl f50
            obtain ⟨_, _, ⟨T57, L57, k57, n57⟩, -, X57, ⟨Lc57, hQ57, l57, y57, z57⟩, st57⟩ := X47.virtualBack hx (y := (⟨"com/example/interleaving/interleaving/store/StateGraph", "addInitial", "(I)V"⟩ : MethodName)) (z := (⟨"com/example/interleaving/interleaving/store/StateGraph", "addInitial", "(I)V"⟩ : MethodName)) hown (mvT hZ (hw _ (List.mem_of_getElem? (i := 42) rfl))) (mvT hZ (hw _ (List.mem_of_getElem? (i := 43) rfl))) (notFace_of_selects (args := #[]) (mvT hZ (hw _ (List.mem_of_getElem? (i := 45) rfl)))) (mvT hZ (hw _ (List.mem_of_getElem? (i := 45) rfl))) (mvT hZ (hw _ (List.mem_of_getElem? (i := 44) rfl))) (by decide) (backOf (W := 0) (own_rm_add l Z a0 hw [] b1 p5 bx10 4 16 (own_upd (own_upd (own_upd (own_upd (fun _ => 0) 0 p1) 1 p2) 2 p3) 3 p4) T47.heap n0 zs56 f50 c49_0 c49_1 c49_2 gn_b1 gn_bx10 ne_b1_bx10 (by decide) (by decide)) hZ (hw _ (List.mem_of_getElem? (i := 46) rfl)) (hw _ (List.mem_of_getElem? (i := 3) rfl)) (by decide) (by decide)) q58a q58c (g := (mkF m 76 #[.val (.int p0), .val (.int p1), .val (.int p2), .val (.int p3), .val (.int p4), .val (.int p5), .val (.int ((p0 &&& (2147483647 : Int32)) % (6 : Int32))), .val (.ref b1), .unset, .unset] [(.int p5), (.ref b1)])) rfl (by rw [hml]; rfl) (Steps.refl _) (argsL := [(.int p5)]) (rest := []) (lenOf own_pd3 rfl) rfl (by show 2 * 0 + _ ≤ _; exact Nat.le_of_eq rfl) (hb hby at_76) (fun _ _ => ⟨rfl, rfl, (by decide : 4 + 0 ≤ _), (by decide : 2072 + 0 ≤ _)⟩)
            dsimp only [Pt.U, Pt.locs, Pt.cells, Pt.slots] at X57 l57 y57 z57 st57 hQ57
            rw [l57, (y57 : k57 = 4), (z57 : n57 = 2072)] at X57
            clear l57 y57 z57
            obtain ⟨rfl, N59, K59, c59_0, c59_1, c59_2⟩ := hQ57
            have f60 := f50.keep K59
            have f61 := f51.keep K59
            have k62 := k52.trans K59 (allS (Or.inr sz_b1) (allS (Or.inr sz_bx10) all0))
            have nf63 := Fr.app nf53 N59
            have zs64 : n0 ≤ T57.heap.size := Nat.le_trans Z0 k62.1
            obtain ⟨cq66, kq66, q66a, q66b, q66c⟩ := isOf hZ rfl f60
            obtain ⟨_, _, ⟨T65, L65, k65, n65⟩, -, X65, ⟨Lc65, hQ65, l65, y65, z65⟩, st65⟩ := X57.virtualBack hx (y := (⟨"com/example/interleaving/interleaving/store/StateGraph", "initialStates", "()[I"⟩ : MethodName)) (z := (⟨"com/example/interleaving/interleaving/store/StateGraph", "initialStates", "()[I"⟩ : MethodName)) hown (mvT hZ (hw _ (List.mem_of_getElem? (i := 19) rfl))) (mvT hZ (hw _ (List.mem_of_getElem? (i := 20) rfl))) (notFace_of_selects (args := #[]) (mvT hZ (hw _ (List.mem_of_getElem? (i := 22) rfl)))) (mvT hZ (hw _ (List.mem_of_getElem? (i := 22) rfl))) (mvT hZ (hw _ (List.mem_of_getElem? (i := 21) rfl))) (by decide) (backOf (W := 0) (own_rm_ist l Z a0 hw [] b1 bx10 5 16 (own_upd (own_upd (own_upd (own_upd (own_upd (fun _ => 0) 0 p1) 1 p2) 2 p3) 3 p4) 4 p5) T57.heap n0 zs64 c59_0 c59_1 c59_2 (by decide) (by decide) (by decide)) hZ (hw _ (List.mem_of_getElem? (i := 23) rfl)) (hw _ (List.mem_of_getElem? (i := 3) rfl)) (by decide) (by decide)) q66a q66c (g := (mkF m 81 #[.val (.int p0), .val (.int p1), .val (.int p2), .val (.int p3), .val (.int p4), .val (.int p5), .val (.int ((p0 &&& (2147483647 : Int32)) % (6 : Int32))), .val (.ref b1), .unset, .unset] [(.ref b1)])) rfl (by rw [hml]; rfl) (Steps.refl _) (argsL := []) (rest := []) (lenOf own_pd4 rfl) rfl (by show 2 * 0 + _ ≤ _; exact Nat.le_of_eq rfl) (hb hby at_81) (fun _ _ => ⟨rfl, rfl, (by decide : 4 + 1 ≤ _), (by decide : 2072 + 32 ≤ _)⟩)
            dsimp only [Pt.U, Pt.locs, Pt.cells, Pt.slots] at X65 l65 y65 z65 st65 hQ65
            rw [l65, (y65 : k65 = 5), (z65 : n65 = 2104)] at X65
            clear l65 y65 z65
            obtain ⟨r67, rfl, N67, K67, c67_0, c67_1⟩ := hQ65
            have sz_r67 : h0.size ≤ r67 := Nat.le_trans k62.1 c67_0
            have gn_r67 : n0 ≤ r67 := Nat.le_trans Z0 sz_r67
            have ne_b1_r67 : b1 ≠ r67 := Nat.ne_of_lt (Nat.lt_of_lt_of_le c59_1.lt c67_0)
            have ne_bx10_r67 : bx10 ≠ r67 := Nat.ne_of_lt (Nat.lt_of_lt_of_le c59_2.lt c67_0)
            have f68 := f60.keep K67
            have f69 := f61.keep K67
            have f70 := c59_0.keep K67 nin0
            have f71 := c59_1.keep K67 nin0
            have f72 := c59_2.keep K67 nin0
            have k73 := k62.trans K67 all0
            have nf74 := Fr.app nf63 N67
            have pre75 : ∀ t, Steps p.tables e below (T65.setTop (mkF m 93 #[.val (.int p0), .val (.int p1), .val (.int p2), .val (.int p3), .val (.int p4), .val (.int p5), .val (.int ((p0 &&& (2147483647 : Int32)) % (6 : Int32))), .val (.ref b1), .val (.ref r67), .unset] [(.int p3), (.int p2), (.int p1), (.int ((p0 &&& (2147483647 : Int32)) % (6 : Int32))), (.ref r67)])) t → Steps p.tables e below (s₁.setTop (entryFrame m #[(.int p0), (.int p1), (.int p2), (.int p3), (.int p4), (.int p5)] maxLocals)) t := by
              intro t kt
              refine pre54 t ?_
              show Steps p.tables e below (T47.setTop (mkF m 69 #[.val (.int p0), .val (.int p1), .val (.int p2), .val (.int p3), .val (.int p4), .val (.int p5), .val (.int ((p0 &&& (2147483647 : Int32)) % (6 : Int32))), .val (.ref b1), .unset, .unset] [(.int (4 : Int32)), (.int ((p0 &&& (2147483647 : Int32)) % (6 : Int32)))])) _
              refine XS.icmpNo X47.here hx rfl (hb hby at_69) rfl (tlt hc55).2.2.2 ?_
              show Steps p.tables e below (T47.setTop (mkF m 72 #[.val (.int p0), .val (.int p1), .val (.int p2), .val (.int p3), .val (.int p4), .val (.int p5), .val (.int ((p0 &&& (2147483647 : Int32)) % (6 : Int32))), .val (.ref b1), .unset, .unset] [])) _
              refine XS.aload X47.here hx rfl (hb hby at_72) rfl rfl ?_
              show Steps p.tables e below (T47.setTop (mkF m 74 #[.val (.int p0), .val (.int p1), .val (.int p2), .val (.int p3), .val (.int p4), .val (.int p5), .val (.int ((p0 &&& (2147483647 : Int32)) % (6 : Int32))), .val (.ref b1), .unset, .unset] [(.ref b1)])) _
              refine XS.iload X47.here hx rfl (hb hby at_74) rfl ?_
              show Steps p.tables e below (T47.setTop (mkF m 76 #[.val (.int p0), .val (.int p1), .val (.int p2), .val (.int p3), .val (.int p4), .val (.int p5), .val (.int ((p0 &&& (2147483647 : Int32)) % (6 : Int32))), .val (.ref b1), .unset, .unset] [(.int p5), (.ref b1)])) _
              refine st57.trans ?_
              show Steps p.tables e below (T57.setTop (mkF m 79 #[.val (.int p0), .val (.int p1), .val (.int p2), .val (.int p3), .val (.int p4), .val (.int p5), .val (.int ((p0 &&& (2147483647 : Int32)) % (6 : Int32))), .val (.ref b1), .unset, .unset] [])) _
              refine XS.aload X57.here hx rfl (hb hby at_79) rfl rfl ?_
              show Steps p.tables e below (T57.setTop (mkF m 81 #[.val (.int p0), .val (.int p1), .val (.int p2), .val (.int p3), .val (.int p4), .val (.int p5), .val (.int ((p0 &&& (2147483647 : Int32)) % (6 : Int32))), .val (.ref b1), .unset, .unset] [(.ref b1)])) _
              refine st65.trans ?_
              show Steps p.tables e below (T65.setTop (mkF m 84 #[.val (.int p0), .val (.int p1), .val (.int p2), .val (.int p3), .val (.int p4), .val (.int p5), .val (.int ((p0 &&& (2147483647 : Int32)) % (6 : Int32))), .val (.ref b1), .unset, .unset] [(.ref r67)])) _
              refine XS.astore X65.here hx rfl (hb hby at_84) rfl rfl (l' := #[.val (.int p0), .val (.int p1), .val (.int p2), .val (.int p3), .val (.int p4), .val (.int p5), .val (.int ((p0 &&& (2147483647 : Int32)) % (6 : Int32))), .val (.ref b1), .val (.ref r67), .unset]) rfl ?_
              show Steps p.tables e below (T65.setTop (mkF m 86 #[.val (.int p0), .val (.int p1), .val (.int p2), .val (.int p3), .val (.int p4), .val (.int p5), .val (.int ((p0 &&& (2147483647 : Int32)) % (6 : Int32))), .val (.ref b1), .val (.ref r67), .unset] [])) _
              refine XS.aload X65.here hx rfl (hb hby at_86) rfl rfl ?_
              show Steps p.tables e below (T65.setTop (mkF m 88 #[.val (.int p0), .val (.int p1), .val (.int p2), .val (.int p3), .val (.int p4), .val (.int p5), .val (.int ((p0 &&& (2147483647 : Int32)) % (6 : Int32))), .val (.ref b1), .val (.ref r67), .unset] [(.ref r67)])) _
              refine XS.iload X65.here hx rfl (hb hby at_88) rfl ?_
              show Steps p.tables e below (T65.setTop (mkF m 90 #[.val (.int p0), .val (.int p1), .val (.int p2), .val (.int p3), .val (.int p4), .val (.int p5), .val (.int ((p0 &&& (2147483647 : Int32)) % (6 : Int32))), .val (.ref b1), .val (.ref r67), .unset] [(.int ((p0 &&& (2147483647 : Int32)) % (6 : Int32))), (.ref r67)])) _
              refine XS.iloadN X65.here hx rfl (hb hby at_90) rfl ?_
              show Steps p.tables e below (T65.setTop (mkF m 91 #[.val (.int p0), .val (.int p1), .val (.int p2), .val (.int p3), .val (.int p4), .val (.int p5), .val (.int ((p0 &&& (2147483647 : Int32)) % (6 : Int32))), .val (.ref b1), .val (.ref r67), .unset] [(.int p1), (.int ((p0 &&& (2147483647 : Int32)) % (6 : Int32))), (.ref r67)])) _
              refine XS.iloadN X65.here hx rfl (hb hby at_91) rfl ?_
              show Steps p.tables e below (T65.setTop (mkF m 92 #[.val (.int p0), .val (.int p1), .val (.int p2), .val (.int p3), .val (.int p4), .val (.int p5), .val (.int ((p0 &&& (2147483647 : Int32)) % (6 : Int32))), .val (.ref b1), .val (.ref r67), .unset] [(.int p2), (.int p1), (.int ((p0 &&& (2147483647 : Int32)) % (6 : Int32))), (.ref r67)])) _
              refine XS.iloadN X65.here hx rfl (hb hby at_92) rfl ?_
              exact kt
            have zs76 : n0 ≤ T65.heap.size := Nat.le_trans Z0 k73.1
            obtain ⟨_, _, ⟨T77, L77, k77, n77⟩, -, X77, ⟨Lc77, hQ77, l77, y77, z77⟩, st77⟩ := Jvm.LawKit.callS X65 hx (y := (⟨"com/example/interleaving/interleaving/store/StateGraphInitialStatesPinLaw", "matches", "([IIIIIII)Z"⟩ : MethodName)) hown (mvT hZ (hw _ (List.mem_of_getElem? (i := 38) rfl))) (mvT hZ (hw _ (List.mem_of_getElem? (i := 39) rfl))) (mvT hZ (hw _ (List.mem_of_getElem? (i := 40) rfl))) (mvT hZ (hw _ (List.mem_of_getElem? (i := 41) rfl))) (by decide) (backOf (W := 0) (own_rm_mt l Z a0 hw [] r67 ((p0 &&& (2147483647 : Int32)) % (6 : Int32)) p1 p2 p3 p4 p5 5 (own_upd (own_upd (own_upd (own_upd (own_upd (fun _ => 0) 0 p1) 1 p2) 2 p3) 3 p4) 4 p5) T65.heap n0 zs76 c67_1 (own_kN 4 (by decide) hc55 (own_kr p0).2) (by decide) (fun j hj => by rcases j with _ | _ | _ | _ | _ | j <;> first | rfl | omega)) hZ (hw _ (List.mem_of_getElem? (i := 41) rfl)) (hw _ (List.mem_of_getElem? (i := 40) rfl)) (by decide) (by decide)) (g := (mkF m 97 #[.val (.int p0), .val (.int p1), .val (.int p2), .val (.int p3), .val (.int p4), .val (.int p5), .val (.int ((p0 &&& (2147483647 : Int32)) % (6 : Int32))), .val (.ref b1), .val (.ref r67), .unset] [(.int p5), (.int p4), (.int p3), (.int p2), (.int p1), (.int ((p0 &&& (2147483647 : Int32)) % (6 : Int32))), (.ref r67)])) rfl (by rw [hml]; rfl) (argsL := [(.ref r67), (.int ((p0 &&& (2147483647 : Int32)) % (6 : Int32))), (.int p1), (.int p2), (.int p3), (.int p4), (.int p5)]) (rest := []) (lenOf own_pd5 rfl) rfl (by show 2 * 0 + _ ≤ _; exact Nat.le_of_eq rfl) (hb hby at_97) (fun _ _ => ⟨rfl, rfl, (by decide : 5 + 0 ≤ _), (by decide : 2104 + 0 ≤ _)⟩)
            dsimp only [Pt.U, Pt.locs, Pt.cells, Pt.slots] at X77 l77 y77 z77 st77 hQ77
            rw [l77, (y77 : k77 = 5), (z77 : n77 = 2104)] at X77
            clear l77 y77 z77
            obtain ⟨rfl, N78, eq78⟩ := hQ77
            have nf79 := Fr.app nf74 N78
            obtain ⟨cl80, Ar80, S80, H80⟩ := id c67_1
            have hin80 : ¬ ((0 : Int32) < 0 ∨ cl80.slots.size ≤ ((0 : Int32)).toNatClampNeg) := own_inb S80 (by decide) (by decide)
            obtain ⟨T81, h81, X81, e81, W81, st81⟩ := stI X77 hx hZ eq78 Ar80 (j := (0 : Int32)) hin80 (g := (mkF m 116 #[.val (.int p0), .val (.int p1), .val (.int p2), .val (.int p3), .val (.int p4), .val (.int p5), .val (.int ((p0 &&& (2147483647 : Int32)) % (6 : Int32))), .val (.ref b1), .val (.ref r67), .unset] [(.int (p1 ^^^ (1 : Int32))), (.int (0 : Int32)), (.ref r67)])) rfl rfl (hb hby at_116)
            have f82 := f68.wr W81
            have f83 := f69.wr W81
            have f84 := f70.other W81 (Or.inl ne_b1_r67)
            have f85 := f71.other W81 (Or.inl ne_b1_r67)
            have f86 := f72.other W81 ne_bx10_r67
            have k88 := k73.wr W81 (Or.inr sz_r67)
            have nf89 := Fr.snoc X81 nf79 gn_r67
            have f90 := c67_1.set W81
            have pre91 : ∀ t, Steps p.tables e below (T81.setTop (mkF m 117 #[.val (.int p0), .val (.int p1), .val (.int p2), .val (.int p3), .val (.int p4), .val (.int p5), .val (.int ((p0 &&& (2147483647 : Int32)) % (6 : Int32))), .val (.ref b1), .val (.ref r67), .unset] [])) t → Steps p.tables e below (s₁.setTop (entryFrame m #[(.int p0), (.int p1), (.int p2), (.int p3), (.int p4), (.int p5)] maxLocals)) t := by
              intro t kt
              refine pre75 t ?_
              show Steps p.tables e below (T65.setTop (mkF m 93 #[.val (.int p0), .val (.int p1), .val (.int p2), .val (.int p3), .val (.int p4), .val (.int p5), .val (.int ((p0 &&& (2147483647 : Int32)) % (6 : Int32))), .val (.ref b1), .val (.ref r67), .unset] [(.int p3), (.int p2), (.int p1), (.int ((p0 &&& (2147483647 : Int32)) % (6 : Int32))), (.ref r67)])) _
              refine XS.iload X65.here hx rfl (hb hby at_93) rfl ?_
              show Steps p.tables e below (T65.setTop (mkF m 95 #[.val (.int p0), .val (.int p1), .val (.int p2), .val (.int p3), .val (.int p4), .val (.int p5), .val (.int ((p0 &&& (2147483647 : Int32)) % (6 : Int32))), .val (.ref b1), .val (.ref r67), .unset] [(.int p4), (.int p3), (.int p2), (.int p1), (.int ((p0 &&& (2147483647 : Int32)) % (6 : Int32))), (.ref r67)])) _
              refine XS.iload X65.here hx rfl (hb hby at_95) rfl ?_
              show Steps p.tables e below (T65.setTop (mkF m 97 #[.val (.int p0), .val (.int p1), .val (.int p2), .val (.int p3), .val (.int p4), .val (.int p5), .val (.int ((p0 &&& (2147483647 : Int32)) % (6 : Int32))), .val (.ref b1), .val (.ref r67), .unset] [(.int p5), (.int p4), (.int p3), (.int p2), (.int p1), (.int ((p0 &&& (2147483647 : Int32)) % (6 : Int32))), (.ref r67)])) _
              refine st77 _ ?_
              show Steps p.tables e below (T77.setTop (mkF m 100 #[.val (.int p0), .val (.int p1), .val (.int p2), .val (.int p3), .val (.int p4), .val (.int p5), .val (.int ((p0 &&& (2147483647 : Int32)) % (6 : Int32))), .val (.ref b1), .val (.ref r67), .unset] [(.int (1 : Int32))])) _
              refine XS.ifYes X77.here hx rfl (pc0 := 100) (pc' := 105) rfl (hb hby at_100) rfl ((if0 _ _).trans (feq (by decide : ¬ ((1 : Int32) = (0 : Int32)))).2) (by decide) (by decide) ?_
              show Steps p.tables e below (T77.setTop (mkF m 105 #[.val (.int p0), .val (.int p1), .val (.int p2), .val (.int p3), .val (.int p4), .val (.int p5), .val (.int ((p0 &&& (2147483647 : Int32)) % (6 : Int32))), .val (.ref b1), .val (.ref r67), .unset] [])) _
              refine XS.iload X77.here hx rfl (hb hby at_105) rfl ?_
              show Steps p.tables e below (T77.setTop (mkF m 107 #[.val (.int p0), .val (.int p1), .val (.int p2), .val (.int p3), .val (.int p4), .val (.int p5), .val (.int ((p0 &&& (2147483647 : Int32)) % (6 : Int32))), .val (.ref b1), .val (.ref r67), .unset] [(.int ((p0 &&& (2147483647 : Int32)) % (6 : Int32)))])) _
              refine XS.ifNo X77.here hx rfl (hb hby at_107) rfl ((if0 _ _).trans (tlt hc15).2.2.2) ?_
              show Steps p.tables e below (T77.setTop (mkF m 110 #[.val (.int p0), .val (.int p1), .val (.int p2), .val (.int p3), .val (.int p4), .val (.int p5), .val (.int ((p0 &&& (2147483647 : Int32)) % (6 : Int32))), .val (.ref b1), .val (.ref r67), .unset] [])) _
              refine XS.aload X77.here hx rfl (hb hby at_110) rfl rfl ?_
              show Steps p.tables e below (T77.setTop (mkF m 112 #[.val (.int p0), .val (.int p1), .val (.int p2), .val (.int p3), .val (.int p4), .val (.int p5), .val (.int ((p0 &&& (2147483647 : Int32)) % (6 : Int32))), .val (.ref b1), .val (.ref r67), .unset] [(.ref r67)])) _
              refine XS.iconst X77.here hx rfl (hb hby at_112) ?_
              show Steps p.tables e below (T77.setTop (mkF m 113 #[.val (.int p0), .val (.int p1), .val (.int p2), .val (.int p3), .val (.int p4), .val (.int p5), .val (.int ((p0 &&& (2147483647 : Int32)) % (6 : Int32))), .val (.ref b1), .val (.ref r67), .unset] [(.int (0 : Int32)), (.ref r67)])) _
              refine XS.iloadN X77.here hx rfl (hb hby at_113) rfl ?_
              show Steps p.tables e below (T77.setTop (mkF m 114 #[.val (.int p0), .val (.int p1), .val (.int p2), .val (.int p3), .val (.int p4), .val (.int p5), .val (.int ((p0 &&& (2147483647 : Int32)) % (6 : Int32))), .val (.ref b1), .val (.ref r67), .unset] [(.int p1), (.int (0 : Int32)), (.ref r67)])) _
              refine XS.iconst X77.here hx rfl (hb hby at_114) ?_
              show Steps p.tables e below (T77.setTop (mkF m 115 #[.val (.int p0), .val (.int p1), .val (.int p2), .val (.int p3), .val (.int p4), .val (.int p5), .val (.int ((p0 &&& (2147483647 : Int32)) % (6 : Int32))), .val (.ref b1), .val (.ref r67), .unset] [(.int (1 : Int32)), (.int p1), (.int (0 : Int32)), (.ref r67)])) _
              refine XS.ixor X77.here hx rfl (hb hby at_115) rfl ?_
              show Steps p.tables e below (T77.setTop (mkF m 116 #[.val (.int p0), .val (.int p1), .val (.int p2), .val (.int p3), .val (.int p4), .val (.int p5), .val (.int ((p0 &&& (2147483647 : Int32)) % (6 : Int32))), .val (.ref b1), .val (.ref r67), .unset] [(.int (p1 ^^^ (1 : Int32))), (.int (0 : Int32)), (.ref r67)])) _
              refine st81 _ ?_
              exact kt
            obtain ⟨cl92, Ar92, S92, H92⟩ := id f90
            have hin92 : ¬ ((((p0 &&& (2147483647 : Int32)) % (6 : Int32)) - (1 : Int32)) < 0 ∨ cl92.slots.size ≤ ((((p0 &&& (2147483647 : Int32)) % (6 : Int32)) - (1 : Int32))).toNatClampNeg) := own_inb S92 (by rw [(own_kN 4 (by decide) hc55 (own_kr p0).2)]; decide) (by rw [(own_kN 4 (by decide) hc55 (own_kr p0).2)]; decide)
            have hat92 : cl92.slots[((((p0 &&& (2147483647 : Int32)) % (6 : Int32)) - (1 : Int32))).toNatClampNeg]? = some (.int ((own_upd (own_upd (own_upd (own_upd (own_upd (own_upd (fun _ => 0) 0 p1) 1 p2) 2 p3) 3 p4) 4 p5) ((0 : Int32)).toNatClampNeg (p1 ^^^ (1 : Int32))) ((((p0 &&& (2147483647 : Int32)) % (6 : Int32)) - (1 : Int32))).toNatClampNeg)) := H92 _ (by rw [(own_kN 4 (by decide) hc55 (own_kr p0).2)]; decide)
            obtain ⟨cl93, Ar93, S93, H93⟩ := id f90
            have hin93 : ¬ ((((p0 &&& (2147483647 : Int32)) % (6 : Int32)) - (1 : Int32)) < 0 ∨ cl93.slots.size ≤ ((((p0 &&& (2147483647 : Int32)) % (6 : Int32)) - (1 : Int32))).toNatClampNeg) := own_inb S93 (by rw [(own_kN 4 (by decide) hc55 (own_kr p0).2)]; decide) (by rw [(own_kN 4 (by decide) hc55 (own_kr p0).2)]; decide)
            obtain ⟨T94, h94, X94, e94, W94, st94⟩ := stI X81 hx hZ e81 Ar93 (j := (((p0 &&& (2147483647 : Int32)) % (6 : Int32)) - (1 : Int32))) hin93 (g := (mkF m 132 #[.val (.int p0), .val (.int p1), .val (.int p2), .val (.int p3), .val (.int p4), .val (.int p5), .val (.int ((p0 &&& (2147483647 : Int32)) % (6 : Int32))), .val (.ref b1), .val (.ref r67), .unset] [(.int (((own_upd (own_upd (own_upd (own_upd (own_upd (own_upd (fun _ => 0) 0 p1) 1 p2) 2 p3) 3 p4) 4 p5) ((0 : Int32)).toNatClampNeg (p1 ^^^ (1 : Int32))) ((((p0 &&& (2147483647 : Int32)) % (6 : Int32)) - (1 : Int32))).toNatClampNeg) ^^^ (2 : Int32))), (.int (((p0 &&& (2147483647 : Int32)) % (6 : Int32)) - (1 : Int32))), (.ref r67)])) rfl rfl (hb hby at_132)
            have f95 := f82.wr W94
            have f96 := f83.wr W94
            have f97 := f84.other W94 (Or.inl ne_b1_r67)
            have f98 := f85.other W94 (Or.inl ne_b1_r67)
            have f99 := f86.other W94 ne_bx10_r67
            have k101 := k88.wr W94 (Or.inr sz_r67)
            have nf102 := Fr.snoc X94 nf89 gn_r67
            have f103 := f90.set W94
            have pre104 : ∀ t, Steps p.tables e below (T94.setTop (mkF m 133 #[.val (.int p0), .val (.int p1), .val (.int p2), .val (.int p3), .val (.int p4), .val (.int p5), .val (.int ((p0 &&& (2147483647 : Int32)) % (6 : Int32))), .val (.ref b1), .val (.ref r67), .unset] [])) t → Steps p.tables e below (s₁.setTop (entryFrame m #[(.int p0), (.int p1), (.int p2), (.int p3), (.int p4), (.int p5)] maxLocals)) t := by
              intro t kt
              refine pre91 t ?_
              show Steps p.tables e below (T81.setTop (mkF m 117 #[.val (.int p0), .val (.int p1), .val (.int p2), .val (.int p3), .val (.int p4), .val (.int p5), .val (.int ((p0 &&& (2147483647 : Int32)) % (6 : Int32))), .val (.ref b1), .val (.ref r67), .unset] [])) _
              refine XS.aload X81.here hx rfl (hb hby at_117) rfl rfl ?_
              show Steps p.tables e below (T81.setTop (mkF m 119 #[.val (.int p0), .val (.int p1), .val (.int p2), .val (.int p3), .val (.int p4), .val (.int p5), .val (.int ((p0 &&& (2147483647 : Int32)) % (6 : Int32))), .val (.ref b1), .val (.ref r67), .unset] [(.ref r67)])) _
              refine XS.iload X81.here hx rfl (hb hby at_119) rfl ?_
              show Steps p.tables e below (T81.setTop (mkF m 121 #[.val (.int p0), .val (.int p1), .val (.int p2), .val (.int p3), .val (.int p4), .val (.int p5), .val (.int ((p0 &&& (2147483647 : Int32)) % (6 : Int32))), .val (.ref b1), .val (.ref r67), .unset] [(.int ((p0 &&& (2147483647 : Int32)) % (6 : Int32))), (.ref r67)])) _
              refine XS.iconst X81.here hx rfl (hb hby at_121) ?_
              show Steps p.tables e below (T81.setTop (mkF m 122 #[.val (.int p0), .val (.int p1), .val (.int p2), .val (.int p3), .val (.int p4), .val (.int p5), .val (.int ((p0 &&& (2147483647 : Int32)) % (6 : Int32))), .val (.ref b1), .val (.ref r67), .unset] [(.int (1 : Int32)), (.int ((p0 &&& (2147483647 : Int32)) % (6 : Int32))), (.ref r67)])) _
              refine XS.isub X81.here hx rfl (hb hby at_122) rfl ?_
              show Steps p.tables e below (T81.setTop (mkF m 123 #[.val (.int p0), .val (.int p1), .val (.int p2), .val (.int p3), .val (.int p4), .val (.int p5), .val (.int ((p0 &&& (2147483647 : Int32)) % (6 : Int32))), .val (.ref b1), .val (.ref r67), .unset] [(.int (((p0 &&& (2147483647 : Int32)) % (6 : Int32)) - (1 : Int32))), (.ref r67)])) _
              refine XS.aload X81.here hx rfl (hb hby at_123) rfl rfl ?_
              show Steps p.tables e below (T81.setTop (mkF m 125 #[.val (.int p0), .val (.int p1), .val (.int p2), .val (.int p3), .val (.int p4), .val (.int p5), .val (.int ((p0 &&& (2147483647 : Int32)) % (6 : Int32))), .val (.ref b1), .val (.ref r67), .unset] [(.ref r67), (.int (((p0 &&& (2147483647 : Int32)) % (6 : Int32)) - (1 : Int32))), (.ref r67)])) _
              refine XS.iload X81.here hx rfl (hb hby at_125) rfl ?_
              show Steps p.tables e below (T81.setTop (mkF m 127 #[.val (.int p0), .val (.int p1), .val (.int p2), .val (.int p3), .val (.int p4), .val (.int p5), .val (.int ((p0 &&& (2147483647 : Int32)) % (6 : Int32))), .val (.ref b1), .val (.ref r67), .unset] [(.int ((p0 &&& (2147483647 : Int32)) % (6 : Int32))), (.ref r67), (.int (((p0 &&& (2147483647 : Int32)) % (6 : Int32)) - (1 : Int32))), (.ref r67)])) _
              refine XS.iconst X81.here hx rfl (hb hby at_127) ?_
              show Steps p.tables e below (T81.setTop (mkF m 128 #[.val (.int p0), .val (.int p1), .val (.int p2), .val (.int p3), .val (.int p4), .val (.int p5), .val (.int ((p0 &&& (2147483647 : Int32)) % (6 : Int32))), .val (.ref b1), .val (.ref r67), .unset] [(.int (1 : Int32)), (.int ((p0 &&& (2147483647 : Int32)) % (6 : Int32))), (.ref r67), (.int (((p0 &&& (2147483647 : Int32)) % (6 : Int32)) - (1 : Int32))), (.ref r67)])) _
              refine XS.isub X81.here hx rfl (hb hby at_128) rfl ?_
              show Steps p.tables e below (T81.setTop (mkF m 129 #[.val (.int p0), .val (.int p1), .val (.int p2), .val (.int p3), .val (.int p4), .val (.int p5), .val (.int ((p0 &&& (2147483647 : Int32)) % (6 : Int32))), .val (.ref b1), .val (.ref r67), .unset] [(.int (((p0 &&& (2147483647 : Int32)) % (6 : Int32)) - (1 : Int32))), (.ref r67), (.int (((p0 &&& (2147483647 : Int32)) % (6 : Int32)) - (1 : Int32))), (.ref r67)])) _
              refine X81.iaload hx (j := (((p0 &&& (2147483647 : Int32)) % (6 : Int32)) - (1 : Int32))) (v := (.int ((own_upd (own_upd (own_upd (own_upd (own_upd (own_upd (fun _ => 0) 0 p1) 1 p2) 2 p3) 3 p4) 4 p5) ((0 : Int32)).toNatClampNeg (p1 ^^^ (1 : Int32))) ((((p0 &&& (2147483647 : Int32)) % (6 : Int32)) - (1 : Int32))).toNatClampNeg))) (by rw [e81]; exact Ar92.1) (State.isArrayOf_alike hZ.alike Ar92.2.1) Ar92.2.2 hin92 hat92 (g := (mkF m 129 #[.val (.int p0), .val (.int p1), .val (.int p2), .val (.int p3), .val (.int p4), .val (.int p5), .val (.int ((p0 &&& (2147483647 : Int32)) % (6 : Int32))), .val (.ref b1), .val (.ref r67), .unset] [(.int (((p0 &&& (2147483647 : Int32)) % (6 : Int32)) - (1 : Int32))), (.ref r67), (.int (((p0 &&& (2147483647 : Int32)) % (6 : Int32)) - (1 : Int32))), (.ref r67)])) rfl rfl (hb hby at_129) _ ?_
              show Steps p.tables e below (T81.setTop (mkF m 130 #[.val (.int p0), .val (.int p1), .val (.int p2), .val (.int p3), .val (.int p4), .val (.int p5), .val (.int ((p0 &&& (2147483647 : Int32)) % (6 : Int32))), .val (.ref b1), .val (.ref r67), .unset] [(.int ((own_upd (own_upd (own_upd (own_upd (own_upd (own_upd (fun _ => 0) 0 p1) 1 p2) 2 p3) 3 p4) 4 p5) ((0 : Int32)).toNatClampNeg (p1 ^^^ (1 : Int32))) ((((p0 &&& (2147483647 : Int32)) % (6 : Int32)) - (1 : Int32))).toNatClampNeg)), (.int (((p0 &&& (2147483647 : Int32)) % (6 : Int32)) - (1 : Int32))), (.ref r67)])) _
              refine XS.iconst X81.here hx rfl (hb hby at_130) ?_
              show Steps p.tables e below (T81.setTop (mkF m 131 #[.val (.int p0), .val (.int p1), .val (.int p2), .val (.int p3), .val (.int p4), .val (.int p5), .val (.int ((p0 &&& (2147483647 : Int32)) % (6 : Int32))), .val (.ref b1), .val (.ref r67), .unset] [(.int (2 : Int32)), (.int ((own_upd (own_upd (own_upd (own_upd (own_upd (own_upd (fun _ => 0) 0 p1) 1 p2) 2 p3) 3 p4) 4 p5) ((0 : Int32)).toNatClampNeg (p1 ^^^ (1 : Int32))) ((((p0 &&& (2147483647 : Int32)) % (6 : Int32)) - (1 : Int32))).toNatClampNeg)), (.int (((p0 &&& (2147483647 : Int32)) % (6 : Int32)) - (1 : Int32))), (.ref r67)])) _
              refine XS.ixor X81.here hx rfl (hb hby at_131) rfl ?_
              show Steps p.tables e below (T81.setTop (mkF m 132 #[.val (.int p0), .val (.int p1), .val (.int p2), .val (.int p3), .val (.int p4), .val (.int p5), .val (.int ((p0 &&& (2147483647 : Int32)) % (6 : Int32))), .val (.ref b1), .val (.ref r67), .unset] [(.int (((own_upd (own_upd (own_upd (own_upd (own_upd (own_upd (fun _ => 0) 0 p1) 1 p2) 2 p3) 3 p4) 4 p5) ((0 : Int32)).toNatClampNeg (p1 ^^^ (1 : Int32))) ((((p0 &&& (2147483647 : Int32)) % (6 : Int32)) - (1 : Int32))).toNatClampNeg) ^^^ (2 : Int32))), (.int (((p0 &&& (2147483647 : Int32)) % (6 : Int32)) - (1 : Int32))), (.ref r67)])) _
              refine st94 _ ?_
              exact kt
            have zs105 : n0 ≤ h94.size := Nat.le_trans Z0 k101.1
            obtain ⟨cq107, kq107, q107a, q107b, q107c⟩ := isOf hZ e94 f95
            obtain ⟨_, _, ⟨T106, L106, k106, n106⟩, -, X106, ⟨Lc106, hQ106, l106, y106, z106⟩, st106⟩ := X94.virtualBack hx (y := (⟨"com/example/interleaving/interleaving/store/StateGraph", "initialStates", "()[I"⟩ : MethodName)) (z := (⟨"com/example/interleaving/interleaving/store/StateGraph", "initialStates", "()[I"⟩ : MethodName)) hown (mvT hZ (hw _ (List.mem_of_getElem? (i := 19) rfl))) (mvT hZ (hw _ (List.mem_of_getElem? (i := 20) rfl))) (notFace_of_selects (args := #[]) (mvT hZ (hw _ (List.mem_of_getElem? (i := 22) rfl)))) (mvT hZ (hw _ (List.mem_of_getElem? (i := 22) rfl))) (mvT hZ (hw _ (List.mem_of_getElem? (i := 21) rfl))) (by decide) (backOf (W := 0) (own_rm_ist l Z a0 hw [] b1 bx10 5 16 (own_upd (own_upd (own_upd (own_upd (own_upd (fun _ => 0) 0 p1) 1 p2) 2 p3) 3 p4) 4 p5) h94 n0 zs105 f97 f98 f99 (by decide) (by decide) (by decide)) hZ (hw _ (List.mem_of_getElem? (i := 23) rfl)) (hw _ (List.mem_of_getElem? (i := 3) rfl)) (by decide) (by decide)) q107a q107c (g := (mkF m 135 #[.val (.int p0), .val (.int p1), .val (.int p2), .val (.int p3), .val (.int p4), .val (.int p5), .val (.int ((p0 &&& (2147483647 : Int32)) % (6 : Int32))), .val (.ref b1), .val (.ref r67), .unset] [(.ref b1)])) rfl (by rw [hml]; rfl) (Steps.refl _) (argsL := []) (rest := []) (lenOf own_pd4 rfl) rfl (by show 2 * 0 + _ ≤ _; exact Nat.le_of_eq rfl) (hb hby at_135) (fun _ _ => ⟨rfl, e94, (by decide : 5 + 1 ≤ _), (by decide : 2104 + 32 ≤ _)⟩)
            dsimp only [Pt.U, Pt.locs, Pt.cells, Pt.slots] at X106 l106 y106 z106 st106 hQ106
            rw [l106, (y106 : k106 = 6), (z106 : n106 = 2136)] at X106
            clear l106 y106 z106
            obtain ⟨r108, rfl, N108, K108, c108_0, c108_1⟩ := hQ106
            have sz_r108 : h0.size ≤ r108 := Nat.le_trans k101.1 c108_0
            have gn_r108 : n0 ≤ r108 := Nat.le_trans Z0 sz_r108
            have ne_b1_r108 : b1 ≠ r108 := Nat.ne_of_lt (Nat.lt_of_lt_of_le f98.lt c108_0)
            have ne_bx10_r108 : bx10 ≠ r108 := Nat.ne_of_lt (Nat.lt_of_lt_of_le f99.lt c108_0)
            have ne_r67_r108 : r67 ≠ r108 := Nat.ne_of_lt (Nat.lt_of_lt_of_le f103.lt c108_0)
            have f109 := f95.keep K108
            have f110 := f96.keep K108
            have f111 := f97.keep K108 nin0
            have f112 := f98.keep K108 nin0
            have f113 := f99.keep K108 nin0
            have f114 := f103.keep K108 nin0
            have k115 := k101.trans K108 all0
            have nf116 := Fr.app nf102 N108
            have zs117 : n0 ≤ T106.heap.size := Nat.le_trans Z0 k115.1
            obtain ⟨_, _, ⟨T118, L118, k118, n118⟩, -, X118, ⟨Lc118, hQ118, l118, y118, z118⟩, st118⟩ := Jvm.LawKit.callS X106 hx (y := (⟨"com/example/interleaving/interleaving/store/StateGraphInitialStatesPinLaw", "matches", "([IIIIIII)Z"⟩ : MethodName)) hown (mvT hZ (hw _ (List.mem_of_getElem? (i := 38) rfl))) (mvT hZ (hw _ (List.mem_of_getElem? (i := 39) rfl))) (mvT hZ (hw _ (List.mem_of_getElem? (i := 40) rfl))) (mvT hZ (hw _ (List.mem_of_getElem? (i := 41) rfl))) (by decide) (backOf (W := 0) (own_rm_mt l Z a0 hw [] r108 ((p0 &&& (2147483647 : Int32)) % (6 : Int32)) p1 p2 p3 p4 p5 5 (own_upd (own_upd (own_upd (own_upd (own_upd (fun _ => 0) 0 p1) 1 p2) 2 p3) 3 p4) 4 p5) T106.heap n0 zs117 c108_1 (own_kN 4 (by decide) hc55 (own_kr p0).2) (by decide) (fun j hj => by rcases j with _ | _ | _ | _ | _ | j <;> first | rfl | omega)) hZ (hw _ (List.mem_of_getElem? (i := 41) rfl)) (hw _ (List.mem_of_getElem? (i := 40) rfl)) (by decide) (by decide)) (g := (mkF m 151 #[.val (.int p0), .val (.int p1), .val (.int p2), .val (.int p3), .val (.int p4), .val (.int p5), .val (.int ((p0 &&& (2147483647 : Int32)) % (6 : Int32))), .val (.ref b1), .val (.ref r67), .val (.ref r108)] [(.int p5), (.int p4), (.int p3), (.int p2), (.int p1), (.int ((p0 &&& (2147483647 : Int32)) % (6 : Int32))), (.ref r108)])) rfl (by rw [hml]; rfl) (argsL := [(.ref r108), (.int ((p0 &&& (2147483647 : Int32)) % (6 : Int32))), (.int p1), (.int p2), (.int p3), (.int p4), (.int p5)]) (rest := []) (lenOf own_pd5 rfl) rfl (by show 2 * 0 + _ ≤ _; exact Nat.le_of_eq rfl) (hb hby at_151) (fun _ _ => ⟨rfl, rfl, (by decide : 6 + 0 ≤ _), (by decide : 2136 + 0 ≤ _)⟩)
            dsimp only [Pt.U, Pt.locs, Pt.cells, Pt.slots] at X118 l118 y118 z118 st118 hQ118
            rw [l118, (y118 : k118 = 6), (z118 : n118 = 2136)] at X118
            clear l118 y118 z118
            obtain ⟨rfl, N119, eq119⟩ := hQ118
            have nf120 := Fr.app nf116 N119
            have pre121 : ∀ t, Steps p.tables e below (T118.setTop (mkF m 154 #[.val (.int p0), .val (.int p1), .val (.int p2), .val (.int p3), .val (.int p4), .val (.int p5), .val (.int ((p0 &&& (2147483647 : Int32)) % (6 : Int32))), .val (.ref b1), .val (.ref r67), .val (.ref r108)] [(.int (1 : Int32))])) t → Steps p.tables e below (s₁.setTop (entryFrame m #[(.int p0), (.int p1), (.int p2), (.int p3), (.int p4), (.int p5)] maxLocals)) t := by
              intro t kt
              refine pre104 t ?_
              show Steps p.tables e below (T94.setTop (mkF m 133 #[.val (.int p0), .val (.int p1), .val (.int p2), .val (.int p3), .val (.int p4), .val (.int p5), .val (.int ((p0 &&& (2147483647 : Int32)) % (6 : Int32))), .val (.ref b1), .val (.ref r67), .unset] [])) _
              refine XS.aload X94.here hx rfl (hb hby at_133) rfl rfl ?_
              show Steps p.tables e below (T94.setTop (mkF m 135 #[.val (.int p0), .val (.int p1), .val (.int p2), .val (.int p3), .val (.int p4), .val (.int p5), .val (.int ((p0 &&& (2147483647 : Int32)) % (6 : Int32))), .val (.ref b1), .val (.ref r67), .unset] [(.ref b1)])) _
              refine st106.trans ?_
              show Steps p.tables e below (T106.setTop (mkF m 138 #[.val (.int p0), .val (.int p1), .val (.int p2), .val (.int p3), .val (.int p4), .val (.int p5), .val (.int ((p0 &&& (2147483647 : Int32)) % (6 : Int32))), .val (.ref b1), .val (.ref r67), .unset] [(.ref r108)])) _
              refine XS.astore X106.here hx rfl (hb hby at_138) rfl rfl (l' := #[.val (.int p0), .val (.int p1), .val (.int p2), .val (.int p3), .val (.int p4), .val (.int p5), .val (.int ((p0 &&& (2147483647 : Int32)) % (6 : Int32))), .val (.ref b1), .val (.ref r67), .val (.ref r108)]) rfl ?_
              show Steps p.tables e below (T106.setTop (mkF m 140 #[.val (.int p0), .val (.int p1), .val (.int p2), .val (.int p3), .val (.int p4), .val (.int p5), .val (.int ((p0 &&& (2147483647 : Int32)) % (6 : Int32))), .val (.ref b1), .val (.ref r67), .val (.ref r108)] [])) _
              refine XS.aload X106.here hx rfl (hb hby at_140) rfl rfl ?_
              show Steps p.tables e below (T106.setTop (mkF m 142 #[.val (.int p0), .val (.int p1), .val (.int p2), .val (.int p3), .val (.int p4), .val (.int p5), .val (.int ((p0 &&& (2147483647 : Int32)) % (6 : Int32))), .val (.ref b1), .val (.ref r67), .val (.ref r108)] [(.ref r108)])) _
              refine XS.iload X106.here hx rfl (hb hby at_142) rfl ?_
              show Steps p.tables e below (T106.setTop (mkF m 144 #[.val (.int p0), .val (.int p1), .val (.int p2), .val (.int p3), .val (.int p4), .val (.int p5), .val (.int ((p0 &&& (2147483647 : Int32)) % (6 : Int32))), .val (.ref b1), .val (.ref r67), .val (.ref r108)] [(.int ((p0 &&& (2147483647 : Int32)) % (6 : Int32))), (.ref r108)])) _
              refine XS.iloadN X106.here hx rfl (hb hby at_144) rfl ?_
              show Steps p.tables e below (T106.setTop (mkF m 145 #[.val (.int p0), .val (.int p1), .val (.int p2), .val (.int p3), .val (.int p4), .val (.int p5), .val (.int ((p0 &&& (2147483647 : Int32)) % (6 : Int32))), .val (.ref b1), .val (.ref r67), .val (.ref r108)] [(.int p1), (.int ((p0 &&& (2147483647 : Int32)) % (6 : Int32))), (.ref r108)])) _
              refine XS.iloadN X106.here hx rfl (hb hby at_145) rfl ?_
              show Steps p.tables e below (T106.setTop (mkF m 146 #[.val (.int p0), .val (.int p1), .val (.int p2), .val (.int p3), .val (.int p4), .val (.int p5), .val (.int ((p0 &&& (2147483647 : Int32)) % (6 : Int32))), .val (.ref b1), .val (.ref r67), .val (.ref r108)] [(.int p2), (.int p1), (.int ((p0 &&& (2147483647 : Int32)) % (6 : Int32))), (.ref r108)])) _
              refine XS.iloadN X106.here hx rfl (hb hby at_146) rfl ?_
              show Steps p.tables e below (T106.setTop (mkF m 147 #[.val (.int p0), .val (.int p1), .val (.int p2), .val (.int p3), .val (.int p4), .val (.int p5), .val (.int ((p0 &&& (2147483647 : Int32)) % (6 : Int32))), .val (.ref b1), .val (.ref r67), .val (.ref r108)] [(.int p3), (.int p2), (.int p1), (.int ((p0 &&& (2147483647 : Int32)) % (6 : Int32))), (.ref r108)])) _
              refine XS.iload X106.here hx rfl (hb hby at_147) rfl ?_
              show Steps p.tables e below (T106.setTop (mkF m 149 #[.val (.int p0), .val (.int p1), .val (.int p2), .val (.int p3), .val (.int p4), .val (.int p5), .val (.int ((p0 &&& (2147483647 : Int32)) % (6 : Int32))), .val (.ref b1), .val (.ref r67), .val (.ref r108)] [(.int p4), (.int p3), (.int p2), (.int p1), (.int ((p0 &&& (2147483647 : Int32)) % (6 : Int32))), (.ref r108)])) _
              refine XS.iload X106.here hx rfl (hb hby at_149) rfl ?_
              show Steps p.tables e below (T106.setTop (mkF m 151 #[.val (.int p0), .val (.int p1), .val (.int p2), .val (.int p3), .val (.int p4), .val (.int p5), .val (.int ((p0 &&& (2147483647 : Int32)) % (6 : Int32))), .val (.ref b1), .val (.ref r67), .val (.ref r108)] [(.int p5), (.int p4), (.int p3), (.int p2), (.int p1), (.int ((p0 &&& (2147483647 : Int32)) % (6 : Int32))), (.ref r108)])) _
              refine st118 _ ?_
              exact kt
            obtain ⟨fs, hr, hrun, hended, hW, hsame⟩ := X118.leave (v := some (.int (1 : Int32))) (fun h => by rw [Bd.returns] at h; cases h)
            refine ⟨_, _, pre121 _ ?_, hrun, hended, _, _, rfl, ?_, ⟨_, rfl⟩, hW, hsame.mono (by decide) (by decide)⟩
            · show Steps p.tables e below (T118.setTop (mkF m 154 #[.val (.int p0), .val (.int p1), .val (.int p2), .val (.int p3), .val (.int p4), .val (.int p5), .val (.int ((p0 &&& (2147483647 : Int32)) % (6 : Int32))), .val (.ref b1), .val (.ref r67), .val (.ref r108)] [(.int (1 : Int32))])) _
              exact retN X118 hx (t := .boolean) Bd.returns (by simp) (hb hby at_154) hr
            · show own_Q_law Z p0 p1 p2 p3 p4 p5 h0 n0 (some (.int (1 : Int32))) T118.heap _
              rw [eq119]
              exact ⟨rfl, nf120⟩
          · have zs122 : n0 ≤ T47.heap.size := Nat.le_trans Z0 k52.1
            obtain ⟨cq124, kq124, q124a, q124b, q124c⟩ := isOf hZ rfl f50
            obtain ⟨_, _, ⟨T123, L123, k123, n123⟩, -, X123, ⟨Lc123, hQ123, l123, y123, z123⟩, st123⟩ := X47.virtualBack hx (y := (⟨"com/example/interleaving/interleaving/store/StateGraph", "initialStates", "()[I"⟩ : MethodName)) (z := (⟨"com/example/interleaving/interleaving/store/StateGraph", "initialStates", "()[I"⟩ : MethodName)) hown (mvT hZ (hw _ (List.mem_of_getElem? (i := 19) rfl))) (mvT hZ (hw _ (List.mem_of_getElem? (i := 20) rfl))) (notFace_of_selects (args := #[]) (mvT hZ (hw _ (List.mem_of_getElem? (i := 22) rfl)))) (mvT hZ (hw _ (List.mem_of_getElem? (i := 22) rfl))) (mvT hZ (hw _ (List.mem_of_getElem? (i := 21) rfl))) (by decide) (backOf (W := 0) (own_rm_ist l Z a0 hw [] b1 bx10 4 16 (own_upd (own_upd (own_upd (own_upd (fun _ => 0) 0 p1) 1 p2) 2 p3) 3 p4) T47.heap n0 zs122 c49_0 c49_1 c49_2 (by decide) (by decide) (by decide)) hZ (hw _ (List.mem_of_getElem? (i := 23) rfl)) (hw _ (List.mem_of_getElem? (i := 3) rfl)) (by decide) (by decide)) q124a q124c (g := (mkF m 81 #[.val (.int p0), .val (.int p1), .val (.int p2), .val (.int p3), .val (.int p4), .val (.int p5), .val (.int ((p0 &&& (2147483647 : Int32)) % (6 : Int32))), .val (.ref b1), .unset, .unset] [(.ref b1)])) rfl (by rw [hml]; rfl) (Steps.refl _) (argsL := []) (rest := []) (lenOf own_pd4 rfl) rfl (by show 2 * 0 + _ ≤ _; exact Nat.le_of_eq rfl) (hb hby at_81) (fun _ _ => ⟨rfl, rfl, (by decide : 4 + 1 ≤ _), (by decide : 2072 + 32 ≤ _)⟩)
            dsimp only [Pt.U, Pt.locs, Pt.cells, Pt.slots] at X123 l123 y123 z123 st123 hQ123
            rw [l123, (y123 : k123 = 5), (z123 : n123 = 2104)] at X123
            clear l123 y123 z123
            obtain ⟨r125, rfl, N125, K125, c125_0, c125_1⟩ := hQ123
            have sz_r125 : h0.size ≤ r125 := Nat.le_trans k52.1 c125_0
            have gn_r125 : n0 ≤ r125 := Nat.le_trans Z0 sz_r125
            have ne_b1_r125 : b1 ≠ r125 := Nat.ne_of_lt (Nat.lt_of_lt_of_le c49_1.lt c125_0)
            have ne_bx10_r125 : bx10 ≠ r125 := Nat.ne_of_lt (Nat.lt_of_lt_of_le c49_2.lt c125_0)
            have f126 := f50.keep K125
            have f127 := f51.keep K125
            have f128 := c49_0.keep K125 nin0
            have f129 := c49_1.keep K125 nin0
            have f130 := c49_2.keep K125 nin0
            have k131 := k52.trans K125 all0
            have nf132 := Fr.app nf53 N125
            have zs133 : n0 ≤ T123.heap.size := Nat.le_trans Z0 k131.1
            obtain ⟨_, _, ⟨T134, L134, k134, n134⟩, -, X134, ⟨Lc134, hQ134, l134, y134, z134⟩, st134⟩ := Jvm.LawKit.callS X123 hx (y := (⟨"com/example/interleaving/interleaving/store/StateGraphInitialStatesPinLaw", "matches", "([IIIIIII)Z"⟩ : MethodName)) hown (mvT hZ (hw _ (List.mem_of_getElem? (i := 38) rfl))) (mvT hZ (hw _ (List.mem_of_getElem? (i := 39) rfl))) (mvT hZ (hw _ (List.mem_of_getElem? (i := 40) rfl))) (mvT hZ (hw _ (List.mem_of_getElem? (i := 41) rfl))) (by decide) (backOf (W := 0) (own_rm_mt l Z a0 hw [] r125 ((p0 &&& (2147483647 : Int32)) % (6 : Int32)) p1 p2 p3 p4 p5 4 (own_upd (own_upd (own_upd (own_upd (fun _ => 0) 0 p1) 1 p2) 2 p3) 3 p4) T123.heap n0 zs133 c125_1 (own_kN 3 (by decide) hc45 (own_le 3 (by decide) hc55)) (by decide) (fun j hj => by rcases j with _ | _ | _ | _ | j <;> first | rfl | omega)) hZ (hw _ (List.mem_of_getElem? (i := 41) rfl)) (hw _ (List.mem_of_getElem? (i := 40) rfl)) (by decide) (by decide)) (g := (mkF m 97 #[.val (.int p0), .val (.int p1), .val (.int p2), .val (.int p3), .val (.int p4), .val (.int p5), .val (.int ((p0 &&& (2147483647 : Int32)) % (6 : Int32))), .val (.ref b1), .val (.ref r125), .unset] [(.int p5), (.int p4), (.int p3), (.int p2), (.int p1), (.int ((p0 &&& (2147483647 : Int32)) % (6 : Int32))), (.ref r125)])) rfl (by rw [hml]; rfl) (argsL := [(.ref r125), (.int ((p0 &&& (2147483647 : Int32)) % (6 : Int32))), (.int p1), (.int p2), (.int p3), (.int p4), (.int p5)]) (rest := []) (lenOf own_pd5 rfl) rfl (by show 2 * 0 + _ ≤ _; exact Nat.le_of_eq rfl) (hb hby at_97) (fun _ _ => ⟨rfl, rfl, (by decide : 5 + 0 ≤ _), (by decide : 2104 + 0 ≤ _)⟩)
            dsimp only [Pt.U, Pt.locs, Pt.cells, Pt.slots] at X134 l134 y134 z134 st134 hQ134
            rw [l134, (y134 : k134 = 5), (z134 : n134 = 2104)] at X134
            clear l134 y134 z134
            obtain ⟨rfl, N135, eq135⟩ := hQ134
            have nf136 := Fr.app nf132 N135
            have pre137 : ∀ t, Steps p.tables e below (T134.setTop (mkF m 100 #[.val (.int p0), .val (.int p1), .val (.int p2), .val (.int p3), .val (.int p4), .val (.int p5), .val (.int ((p0 &&& (2147483647 : Int32)) % (6 : Int32))), .val (.ref b1), .val (.ref r125), .unset] [(.int (1 : Int32))])) t → Steps p.tables e below (s₁.setTop (entryFrame m #[(.int p0), (.int p1), (.int p2), (.int p3), (.int p4), (.int p5)] maxLocals)) t := by
              intro t kt
              refine pre54 t ?_
              show Steps p.tables e below (T47.setTop (mkF m 69 #[.val (.int p0), .val (.int p1), .val (.int p2), .val (.int p3), .val (.int p4), .val (.int p5), .val (.int ((p0 &&& (2147483647 : Int32)) % (6 : Int32))), .val (.ref b1), .unset, .unset] [(.int (4 : Int32)), (.int ((p0 &&& (2147483647 : Int32)) % (6 : Int32)))])) _
              refine XS.icmpYes X47.here hx rfl (pc0 := 69) (pc' := 79) rfl (hb hby at_69) rfl (flt hc55).2.2.2 (by decide) (by decide) ?_
              show Steps p.tables e below (T47.setTop (mkF m 79 #[.val (.int p0), .val (.int p1), .val (.int p2), .val (.int p3), .val (.int p4), .val (.int p5), .val (.int ((p0 &&& (2147483647 : Int32)) % (6 : Int32))), .val (.ref b1), .unset, .unset] [])) _
              refine XS.aload X47.here hx rfl (hb hby at_79) rfl rfl ?_
              show Steps p.tables e below (T47.setTop (mkF m 81 #[.val (.int p0), .val (.int p1), .val (.int p2), .val (.int p3), .val (.int p4), .val (.int p5), .val (.int ((p0 &&& (2147483647 : Int32)) % (6 : Int32))), .val (.ref b1), .unset, .unset] [(.ref b1)])) _
              refine st123.trans ?_
              show Steps p.tables e below (T123.setTop (mkF m 84 #[.val (.int p0), .val (.int p1), .val (.int p2), .val (.int p3), .val (.int p4), .val (.int p5), .val (.int ((p0 &&& (2147483647 : Int32)) % (6 : Int32))), .val (.ref b1), .unset, .unset] [(.ref r125)])) _
              refine XS.astore X123.here hx rfl (hb hby at_84) rfl rfl (l' := #[.val (.int p0), .val (.int p1), .val (.int p2), .val (.int p3), .val (.int p4), .val (.int p5), .val (.int ((p0 &&& (2147483647 : Int32)) % (6 : Int32))), .val (.ref b1), .val (.ref r125), .unset]) rfl ?_
              show Steps p.tables e below (T123.setTop (mkF m 86 #[.val (.int p0), .val (.int p1), .val (.int p2), .val (.int p3), .val (.int p4), .val (.int p5), .val (.int ((p0 &&& (2147483647 : Int32)) % (6 : Int32))), .val (.ref b1), .val (.ref r125), .unset] [])) _
              refine XS.aload X123.here hx rfl (hb hby at_86) rfl rfl ?_
              show Steps p.tables e below (T123.setTop (mkF m 88 #[.val (.int p0), .val (.int p1), .val (.int p2), .val (.int p3), .val (.int p4), .val (.int p5), .val (.int ((p0 &&& (2147483647 : Int32)) % (6 : Int32))), .val (.ref b1), .val (.ref r125), .unset] [(.ref r125)])) _
              refine XS.iload X123.here hx rfl (hb hby at_88) rfl ?_
              show Steps p.tables e below (T123.setTop (mkF m 90 #[.val (.int p0), .val (.int p1), .val (.int p2), .val (.int p3), .val (.int p4), .val (.int p5), .val (.int ((p0 &&& (2147483647 : Int32)) % (6 : Int32))), .val (.ref b1), .val (.ref r125), .unset] [(.int ((p0 &&& (2147483647 : Int32)) % (6 : Int32))), (.ref r125)])) _
              refine XS.iloadN X123.here hx rfl (hb hby at_90) rfl ?_
              show Steps p.tables e below (T123.setTop (mkF m 91 #[.val (.int p0), .val (.int p1), .val (.int p2), .val (.int p3), .val (.int p4), .val (.int p5), .val (.int ((p0 &&& (2147483647 : Int32)) % (6 : Int32))), .val (.ref b1), .val (.ref r125), .unset] [(.int p1), (.int ((p0 &&& (2147483647 : Int32)) % (6 : Int32))), (.ref r125)])) _
              refine XS.iloadN X123.here hx rfl (hb hby at_91) rfl ?_
              show Steps p.tables e below (T123.setTop (mkF m 92 #[.val (.int p0), .val (.int p1), .val (.int p2), .val (.int p3), .val (.int p4), .val (.int p5), .val (.int ((p0 &&& (2147483647 : Int32)) % (6 : Int32))), .val (.ref b1), .val (.ref r125), .unset] [(.int p2), (.int p1), (.int ((p0 &&& (2147483647 : Int32)) % (6 : Int32))), (.ref r125)])) _
              refine XS.iloadN X123.here hx rfl (hb hby at_92) rfl ?_
              show Steps p.tables e below (T123.setTop (mkF m 93 #[.val (.int p0), .val (.int p1), .val (.int p2), .val (.int p3), .val (.int p4), .val (.int p5), .val (.int ((p0 &&& (2147483647 : Int32)) % (6 : Int32))), .val (.ref b1), .val (.ref r125), .unset] [(.int p3), (.int p2), (.int p1), (.int ((p0 &&& (2147483647 : Int32)) % (6 : Int32))), (.ref r125)])) _
              refine XS.iload X123.here hx rfl (hb hby at_93) rfl ?_
              show Steps p.tables e below (T123.setTop (mkF m 95 #[.val (.int p0), .val (.int p1), .val (.int p2), .val (.int p3), .val (.int p4), .val (.int p5), .val (.int ((p0 &&& (2147483647 : Int32)) % (6 : Int32))), .val (.ref b1), .val (.ref r125), .unset] [(.int p4), (.int p3), (.int p2), (.int p1), (.int ((p0 &&& (2147483647 : Int32)) % (6 : Int32))), (.ref r125)])) _
              refine XS.iload X123.here hx rfl (hb hby at_95) rfl ?_
              show Steps p.tables e below (T123.setTop (mkF m 97 #[.val (.int p0), .val (.int p1), .val (.int p2), .val (.int p3), .val (.int p4), .val (.int p5), .val (.int ((p0 &&& (2147483647 : Int32)) % (6 : Int32))), .val (.ref b1), .val (.ref r125), .unset] [(.int p5), (.int p4), (.int p3), (.int p2), (.int p1), (.int ((p0 &&& (2147483647 : Int32)) % (6 : Int32))), (.ref r125)])) _
              refine st134 _ ?_
              exact kt
            obtain ⟨cl138, Ar138, S138, H138⟩ := id c125_1
            have hin138 : ¬ ((0 : Int32) < 0 ∨ cl138.slots.size ≤ ((0 : Int32)).toNatClampNeg) := own_inb S138 (by decide) (by decide)
            obtain ⟨T139, h139, X139, e139, W139, st139⟩ := stI X134 hx hZ eq135 Ar138 (j := (0 : Int32)) hin138 (g := (mkF m 116 #[.val (.int p0), .val (.int p1), .val (.int p2), .val (.int p3), .val (.int p4), .val (.int p5), .val (.int ((p0 &&& (2147483647 : Int32)) % (6 : Int32))), .val (.ref b1), .val (.ref r125), .unset] [(.int (p1 ^^^ (1 : Int32))), (.int (0 : Int32)), (.ref r125)])) rfl rfl (hb hby at_116)
            have f140 := f126.wr W139
            have f141 := f127.wr W139
            have f142 := f128.other W139 (Or.inl ne_b1_r125)
            have f143 := f129.other W139 (Or.inl ne_b1_r125)
            have f144 := f130.other W139 ne_bx10_r125
            have k146 := k131.wr W139 (Or.inr sz_r125)
            have nf147 := Fr.snoc X139 nf136 gn_r125
            have f148 := c125_1.set W139
            have pre149 : ∀ t, Steps p.tables e below (T139.setTop (mkF m 122 #[.val (.int p0), .val (.int p1), .val (.int p2), .val (.int p3), .val (.int p4), .val (.int p5), .val (.int ((p0 &&& (2147483647 : Int32)) % (6 : Int32))), .val (.ref b1), .val (.ref r125), .unset] [(.int (1 : Int32)), (.int ((p0 &&& (2147483647 : Int32)) % (6 : Int32))), (.ref r125)])) t → Steps p.tables e below (s₁.setTop (entryFrame m #[(.int p0), (.int p1), (.int p2), (.int p3), (.int p4), (.int p5)] maxLocals)) t := by
              intro t kt
              refine pre137 t ?_
              show Steps p.tables e below (T134.setTop (mkF m 100 #[.val (.int p0), .val (.int p1), .val (.int p2), .val (.int p3), .val (.int p4), .val (.int p5), .val (.int ((p0 &&& (2147483647 : Int32)) % (6 : Int32))), .val (.ref b1), .val (.ref r125), .unset] [(.int (1 : Int32))])) _
              refine XS.ifYes X134.here hx rfl (pc0 := 100) (pc' := 105) rfl (hb hby at_100) rfl ((if0 _ _).trans (feq (by decide : ¬ ((1 : Int32) = (0 : Int32)))).2) (by decide) (by decide) ?_
              show Steps p.tables e below (T134.setTop (mkF m 105 #[.val (.int p0), .val (.int p1), .val (.int p2), .val (.int p3), .val (.int p4), .val (.int p5), .val (.int ((p0 &&& (2147483647 : Int32)) % (6 : Int32))), .val (.ref b1), .val (.ref r125), .unset] [])) _
              refine XS.iload X134.here hx rfl (hb hby at_105) rfl ?_
              show Steps p.tables e below (T134.setTop (mkF m 107 #[.val (.int p0), .val (.int p1), .val (.int p2), .val (.int p3), .val (.int p4), .val (.int p5), .val (.int ((p0 &&& (2147483647 : Int32)) % (6 : Int32))), .val (.ref b1), .val (.ref r125), .unset] [(.int ((p0 &&& (2147483647 : Int32)) % (6 : Int32)))])) _
              refine XS.ifNo X134.here hx rfl (hb hby at_107) rfl ((if0 _ _).trans (tlt hc15).2.2.2) ?_
              show Steps p.tables e below (T134.setTop (mkF m 110 #[.val (.int p0), .val (.int p1), .val (.int p2), .val (.int p3), .val (.int p4), .val (.int p5), .val (.int ((p0 &&& (2147483647 : Int32)) % (6 : Int32))), .val (.ref b1), .val (.ref r125), .unset] [])) _
              refine XS.aload X134.here hx rfl (hb hby at_110) rfl rfl ?_
              show Steps p.tables e below (T134.setTop (mkF m 112 #[.val (.int p0), .val (.int p1), .val (.int p2), .val (.int p3), .val (.int p4), .val (.int p5), .val (.int ((p0 &&& (2147483647 : Int32)) % (6 : Int32))), .val (.ref b1), .val (.ref r125), .unset] [(.ref r125)])) _
              refine XS.iconst X134.here hx rfl (hb hby at_112) ?_
              show Steps p.tables e below (T134.setTop (mkF m 113 #[.val (.int p0), .val (.int p1), .val (.int p2), .val (.int p3), .val (.int p4), .val (.int p5), .val (.int ((p0 &&& (2147483647 : Int32)) % (6 : Int32))), .val (.ref b1), .val (.ref r125), .unset] [(.int (0 : Int32)), (.ref r125)])) _
              refine XS.iloadN X134.here hx rfl (hb hby at_113) rfl ?_
              show Steps p.tables e below (T134.setTop (mkF m 114 #[.val (.int p0), .val (.int p1), .val (.int p2), .val (.int p3), .val (.int p4), .val (.int p5), .val (.int ((p0 &&& (2147483647 : Int32)) % (6 : Int32))), .val (.ref b1), .val (.ref r125), .unset] [(.int p1), (.int (0 : Int32)), (.ref r125)])) _
              refine XS.iconst X134.here hx rfl (hb hby at_114) ?_
              show Steps p.tables e below (T134.setTop (mkF m 115 #[.val (.int p0), .val (.int p1), .val (.int p2), .val (.int p3), .val (.int p4), .val (.int p5), .val (.int ((p0 &&& (2147483647 : Int32)) % (6 : Int32))), .val (.ref b1), .val (.ref r125), .unset] [(.int (1 : Int32)), (.int p1), (.int (0 : Int32)), (.ref r125)])) _
              refine XS.ixor X134.here hx rfl (hb hby at_115) rfl ?_
              show Steps p.tables e below (T134.setTop (mkF m 116 #[.val (.int p0), .val (.int p1), .val (.int p2), .val (.int p3), .val (.int p4), .val (.int p5), .val (.int ((p0 &&& (2147483647 : Int32)) % (6 : Int32))), .val (.ref b1), .val (.ref r125), .unset] [(.int (p1 ^^^ (1 : Int32))), (.int (0 : Int32)), (.ref r125)])) _
              refine st139 _ ?_
              show Steps p.tables e below (T139.setTop (mkF m 117 #[.val (.int p0), .val (.int p1), .val (.int p2), .val (.int p3), .val (.int p4), .val (.int p5), .val (.int ((p0 &&& (2147483647 : Int32)) % (6 : Int32))), .val (.ref b1), .val (.ref r125), .unset] [])) _
              refine XS.aload X139.here hx rfl (hb hby at_117) rfl rfl ?_
              show Steps p.tables e below (T139.setTop (mkF m 119 #[.val (.int p0), .val (.int p1), .val (.int p2), .val (.int p3), .val (.int p4), .val (.int p5), .val (.int ((p0 &&& (2147483647 : Int32)) % (6 : Int32))), .val (.ref b1), .val (.ref r125), .unset] [(.ref r125)])) _
              refine XS.iload X139.here hx rfl (hb hby at_119) rfl ?_
              show Steps p.tables e below (T139.setTop (mkF m 121 #[.val (.int p0), .val (.int p1), .val (.int p2), .val (.int p3), .val (.int p4), .val (.int p5), .val (.int ((p0 &&& (2147483647 : Int32)) % (6 : Int32))), .val (.ref b1), .val (.ref r125), .unset] [(.int ((p0 &&& (2147483647 : Int32)) % (6 : Int32))), (.ref r125)])) _
              refine XS.iconst X139.here hx rfl (hb hby at_121) ?_
              exact kt
            obtain ⟨cl150, Ar150, S150, H150⟩ := id f148
            have hin150 : ¬ ((((p0 &&& (2147483647 : Int32)) % (6 : Int32)) - (1 : Int32)) < 0 ∨ cl150.slots.size ≤ ((((p0 &&& (2147483647 : Int32)) % (6 : Int32)) - (1 : Int32))).toNatClampNeg) := own_inb S150 (by rw [(own_kN 3 (by decide) hc45 (own_le 3 (by decide) hc55))]; decide) (by rw [(own_kN 3 (by decide) hc45 (own_le 3 (by decide) hc55))]; decide)
            have hat150 : cl150.slots[((((p0 &&& (2147483647 : Int32)) % (6 : Int32)) - (1 : Int32))).toNatClampNeg]? = some (.int ((own_upd (own_upd (own_upd (own_upd (own_upd (fun _ => 0) 0 p1) 1 p2) 2 p3) 3 p4) ((0 : Int32)).toNatClampNeg (p1 ^^^ (1 : Int32))) ((((p0 &&& (2147483647 : Int32)) % (6 : Int32)) - (1 : Int32))).toNatClampNeg)) := H150 _ (by rw [(own_kN 3 (by decide) hc45 (own_le 3 (by decide) hc55))]; decide)
            obtain ⟨cl151, Ar151, S151, H151⟩ := id f148
            have hin151 : ¬ ((((p0 &&& (2147483647 : Int32)) % (6 : Int32)) - (1 : Int32)) < 0 ∨ cl151.slots.size ≤ ((((p0 &&& (2147483647 : Int32)) % (6 : Int32)) - (1 : Int32))).toNatClampNeg) := own_inb S151 (by rw [(own_kN 3 (by decide) hc45 (own_le 3 (by decide) hc55))]; decide) (by rw [(own_kN 3 (by decide) hc45 (own_le 3 (by decide) hc55))]; decide)
            obtain ⟨T152, h152, X152, e152, W152, st152⟩ := stI X139 hx hZ e139 Ar151 (j := (((p0 &&& (2147483647 : Int32)) % (6 : Int32)) - (1 : Int32))) hin151 (g := (mkF m 132 #[.val (.int p0), .val (.int p1), .val (.int p2), .val (.int p3), .val (.int p4), .val (.int p5), .val (.int ((p0 &&& (2147483647 : Int32)) % (6 : Int32))), .val (.ref b1), .val (.ref r125), .unset] [(.int (((own_upd (own_upd (own_upd (own_upd (own_upd (fun _ => 0) 0 p1) 1 p2) 2 p3) 3 p4) ((0 : Int32)).toNatClampNeg (p1 ^^^ (1 : Int32))) ((((p0 &&& (2147483647 : Int32)) % (6 : Int32)) - (1 : Int32))).toNatClampNeg) ^^^ (2 : Int32))), (.int (((p0 &&& (2147483647 : Int32)) % (6 : Int32)) - (1 : Int32))), (.ref r125)])) rfl rfl (hb hby at_132)
            have f153 := f140.wr W152
            have f154 := f141.wr W152
            have f155 := f142.other W152 (Or.inl ne_b1_r125)
            have f156 := f143.other W152 (Or.inl ne_b1_r125)
            have f157 := f144.other W152 ne_bx10_r125
            have k159 := k146.wr W152 (Or.inr sz_r125)
            have nf160 := Fr.snoc X152 nf147 gn_r125
            have f161 := f148.set W152
            have zs162 : n0 ≤ h152.size := Nat.le_trans Z0 k159.1
            obtain ⟨cq164, kq164, q164a, q164b, q164c⟩ := isOf hZ e152 f153
            obtain ⟨_, _, ⟨T163, L163, k163, n163⟩, -, X163, ⟨Lc163, hQ163, l163, y163, z163⟩, st163⟩ := X152.virtualBack hx (y := (⟨"com/example/interleaving/interleaving/store/StateGraph", "initialStates", "()[I"⟩ : MethodName)) (z := (⟨"com/example/interleaving/interleaving/store/StateGraph", "initialStates", "()[I"⟩ : MethodName)) hown (mvT hZ (hw _ (List.mem_of_getElem? (i := 19) rfl))) (mvT hZ (hw _ (List.mem_of_getElem? (i := 20) rfl))) (notFace_of_selects (args := #[]) (mvT hZ (hw _ (List.mem_of_getElem? (i := 22) rfl)))) (mvT hZ (hw _ (List.mem_of_getElem? (i := 22) rfl))) (mvT hZ (hw _ (List.mem_of_getElem? (i := 21) rfl))) (by decide) (backOf (W := 0) (own_rm_ist l Z a0 hw [] b1 bx10 4 16 (own_upd (own_upd (own_upd (own_upd (fun _ => 0) 0 p1) 1 p2) 2 p3) 3 p4) h152 n0 zs162 f155 f156 f157 (by decide) (by decide) (by decide)) hZ (hw _ (List.mem_of_getElem? (i := 23) rfl)) (hw _ (List.mem_of_getElem? (i := 3) rfl)) (by decide) (by decide)) q164a q164c (g := (mkF m 135 #[.val (.int p0), .val (.int p1), .val (.int p2), .val (.int p3), .val (.int p4), .val (.int p5), .val (.int ((p0 &&& (2147483647 : Int32)) % (6 : Int32))), .val (.ref b1), .val (.ref r125), .unset] [(.ref b1)])) rfl (by rw [hml]; rfl) (Steps.refl _) (argsL := []) (rest := []) (lenOf own_pd4 rfl) rfl (by show 2 * 0 + _ ≤ _; exact Nat.le_of_eq rfl) (hb hby at_135) (fun _ _ => ⟨rfl, e152, (by decide : 5 + 1 ≤ _), (by decide : 2104 + 32 ≤ _)⟩)
            dsimp only [Pt.U, Pt.locs, Pt.cells, Pt.slots] at X163 l163 y163 z163 st163 hQ163
            rw [l163, (y163 : k163 = 6), (z163 : n163 = 2136)] at X163
            clear l163 y163 z163
            obtain ⟨r165, rfl, N165, K165, c165_0, c165_1⟩ := hQ163
            have sz_r165 : h0.size ≤ r165 := Nat.le_trans k159.1 c165_0
            have gn_r165 : n0 ≤ r165 := Nat.le_trans Z0 sz_r165
            have ne_b1_r165 : b1 ≠ r165 := Nat.ne_of_lt (Nat.lt_of_lt_of_le f156.lt c165_0)
            have ne_bx10_r165 : bx10 ≠ r165 := Nat.ne_of_lt (Nat.lt_of_lt_of_le f157.lt c165_0)
            have ne_r125_r165 : r125 ≠ r165 := Nat.ne_of_lt (Nat.lt_of_lt_of_le f161.lt c165_0)
            have f166 := f153.keep K165
            have f167 := f154.keep K165
            have f168 := f155.keep K165 nin0
            have f169 := f156.keep K165 nin0
            have f170 := f157.keep K165 nin0
            have f171 := f161.keep K165 nin0
            have k172 := k159.trans K165 all0
            have nf173 := Fr.app nf160 N165
            have pre174 : ∀ t, Steps p.tables e below (T163.setTop (mkF m 140 #[.val (.int p0), .val (.int p1), .val (.int p2), .val (.int p3), .val (.int p4), .val (.int p5), .val (.int ((p0 &&& (2147483647 : Int32)) % (6 : Int32))), .val (.ref b1), .val (.ref r125), .val (.ref r165)] [])) t → Steps p.tables e below (s₁.setTop (entryFrame m #[(.int p0), (.int p1), (.int p2), (.int p3), (.int p4), (.int p5)] maxLocals)) t := by
              intro t kt
              refine pre149 t ?_
              show Steps p.tables e below (T139.setTop (mkF m 122 #[.val (.int p0), .val (.int p1), .val (.int p2), .val (.int p3), .val (.int p4), .val (.int p5), .val (.int ((p0 &&& (2147483647 : Int32)) % (6 : Int32))), .val (.ref b1), .val (.ref r125), .unset] [(.int (1 : Int32)), (.int ((p0 &&& (2147483647 : Int32)) % (6 : Int32))), (.ref r125)])) _
              refine XS.isub X139.here hx rfl (hb hby at_122) rfl ?_
              show Steps p.tables e below (T139.setTop (mkF m 123 #[.val (.int p0), .val (.int p1), .val (.int p2), .val (.int p3), .val (.int p4), .val (.int p5), .val (.int ((p0 &&& (2147483647 : Int32)) % (6 : Int32))), .val (.ref b1), .val (.ref r125), .unset] [(.int (((p0 &&& (2147483647 : Int32)) % (6 : Int32)) - (1 : Int32))), (.ref r125)])) _
              refine XS.aload X139.here hx rfl (hb hby at_123) rfl rfl ?_
              show Steps p.tables e below (T139.setTop (mkF m 125 #[.val (.int p0), .val (.int p1), .val (.int p2), .val (.int p3), .val (.int p4), .val (.int p5), .val (.int ((p0 &&& (2147483647 : Int32)) % (6 : Int32))), .val (.ref b1), .val (.ref r125), .unset] [(.ref r125), (.int (((p0 &&& (2147483647 : Int32)) % (6 : Int32)) - (1 : Int32))), (.ref r125)])) _
              refine XS.iload X139.here hx rfl (hb hby at_125) rfl ?_
              show Steps p.tables e below (T139.setTop (mkF m 127 #[.val (.int p0), .val (.int p1), .val (.int p2), .val (.int p3), .val (.int p4), .val (.int p5), .val (.int ((p0 &&& (2147483647 : Int32)) % (6 : Int32))), .val (.ref b1), .val (.ref r125), .unset] [(.int ((p0 &&& (2147483647 : Int32)) % (6 : Int32))), (.ref r125), (.int (((p0 &&& (2147483647 : Int32)) % (6 : Int32)) - (1 : Int32))), (.ref r125)])) _
              refine XS.iconst X139.here hx rfl (hb hby at_127) ?_
              show Steps p.tables e below (T139.setTop (mkF m 128 #[.val (.int p0), .val (.int p1), .val (.int p2), .val (.int p3), .val (.int p4), .val (.int p5), .val (.int ((p0 &&& (2147483647 : Int32)) % (6 : Int32))), .val (.ref b1), .val (.ref r125), .unset] [(.int (1 : Int32)), (.int ((p0 &&& (2147483647 : Int32)) % (6 : Int32))), (.ref r125), (.int (((p0 &&& (2147483647 : Int32)) % (6 : Int32)) - (1 : Int32))), (.ref r125)])) _
              refine XS.isub X139.here hx rfl (hb hby at_128) rfl ?_
              show Steps p.tables e below (T139.setTop (mkF m 129 #[.val (.int p0), .val (.int p1), .val (.int p2), .val (.int p3), .val (.int p4), .val (.int p5), .val (.int ((p0 &&& (2147483647 : Int32)) % (6 : Int32))), .val (.ref b1), .val (.ref r125), .unset] [(.int (((p0 &&& (2147483647 : Int32)) % (6 : Int32)) - (1 : Int32))), (.ref r125), (.int (((p0 &&& (2147483647 : Int32)) % (6 : Int32)) - (1 : Int32))), (.ref r125)])) _
              refine X139.iaload hx (j := (((p0 &&& (2147483647 : Int32)) % (6 : Int32)) - (1 : Int32))) (v := (.int ((own_upd (own_upd (own_upd (own_upd (own_upd (fun _ => 0) 0 p1) 1 p2) 2 p3) 3 p4) ((0 : Int32)).toNatClampNeg (p1 ^^^ (1 : Int32))) ((((p0 &&& (2147483647 : Int32)) % (6 : Int32)) - (1 : Int32))).toNatClampNeg))) (by rw [e139]; exact Ar150.1) (State.isArrayOf_alike hZ.alike Ar150.2.1) Ar150.2.2 hin150 hat150 (g := (mkF m 129 #[.val (.int p0), .val (.int p1), .val (.int p2), .val (.int p3), .val (.int p4), .val (.int p5), .val (.int ((p0 &&& (2147483647 : Int32)) % (6 : Int32))), .val (.ref b1), .val (.ref r125), .unset] [(.int (((p0 &&& (2147483647 : Int32)) % (6 : Int32)) - (1 : Int32))), (.ref r125), (.int (((p0 &&& (2147483647 : Int32)) % (6 : Int32)) - (1 : Int32))), (.ref r125)])) rfl rfl (hb hby at_129) _ ?_
              show Steps p.tables e below (T139.setTop (mkF m 130 #[.val (.int p0), .val (.int p1), .val (.int p2), .val (.int p3), .val (.int p4), .val (.int p5), .val (.int ((p0 &&& (2147483647 : Int32)) % (6 : Int32))), .val (.ref b1), .val (.ref r125), .unset] [(.int ((own_upd (own_upd (own_upd (own_upd (own_upd (fun _ => 0) 0 p1) 1 p2) 2 p3) 3 p4) ((0 : Int32)).toNatClampNeg (p1 ^^^ (1 : Int32))) ((((p0 &&& (2147483647 : Int32)) % (6 : Int32)) - (1 : Int32))).toNatClampNeg)), (.int (((p0 &&& (2147483647 : Int32)) % (6 : Int32)) - (1 : Int32))), (.ref r125)])) _
              refine XS.iconst X139.here hx rfl (hb hby at_130) ?_
              show Steps p.tables e below (T139.setTop (mkF m 131 #[.val (.int p0), .val (.int p1), .val (.int p2), .val (.int p3), .val (.int p4), .val (.int p5), .val (.int ((p0 &&& (2147483647 : Int32)) % (6 : Int32))), .val (.ref b1), .val (.ref r125), .unset] [(.int (2 : Int32)), (.int ((own_upd (own_upd (own_upd (own_upd (own_upd (fun _ => 0) 0 p1) 1 p2) 2 p3) 3 p4) ((0 : Int32)).toNatClampNeg (p1 ^^^ (1 : Int32))) ((((p0 &&& (2147483647 : Int32)) % (6 : Int32)) - (1 : Int32))).toNatClampNeg)), (.int (((p0 &&& (2147483647 : Int32)) % (6 : Int32)) - (1 : Int32))), (.ref r125)])) _
              refine XS.ixor X139.here hx rfl (hb hby at_131) rfl ?_
              show Steps p.tables e below (T139.setTop (mkF m 132 #[.val (.int p0), .val (.int p1), .val (.int p2), .val (.int p3), .val (.int p4), .val (.int p5), .val (.int ((p0 &&& (2147483647 : Int32)) % (6 : Int32))), .val (.ref b1), .val (.ref r125), .unset] [(.int (((own_upd (own_upd (own_upd (own_upd (own_upd (fun _ => 0) 0 p1) 1 p2) 2 p3) 3 p4) ((0 : Int32)).toNatClampNeg (p1 ^^^ (1 : Int32))) ((((p0 &&& (2147483647 : Int32)) % (6 : Int32)) - (1 : Int32))).toNatClampNeg) ^^^ (2 : Int32))), (.int (((p0 &&& (2147483647 : Int32)) % (6 : Int32)) - (1 : Int32))), (.ref r125)])) _
              refine st152 _ ?_
              show Steps p.tables e below (T152.setTop (mkF m 133 #[.val (.int p0), .val (.int p1), .val (.int p2), .val (.int p3), .val (.int p4), .val (.int p5), .val (.int ((p0 &&& (2147483647 : Int32)) % (6 : Int32))), .val (.ref b1), .val (.ref r125), .unset] [])) _
              refine XS.aload X152.here hx rfl (hb hby at_133) rfl rfl ?_
              show Steps p.tables e below (T152.setTop (mkF m 135 #[.val (.int p0), .val (.int p1), .val (.int p2), .val (.int p3), .val (.int p4), .val (.int p5), .val (.int ((p0 &&& (2147483647 : Int32)) % (6 : Int32))), .val (.ref b1), .val (.ref r125), .unset] [(.ref b1)])) _
              refine st163.trans ?_
              show Steps p.tables e below (T163.setTop (mkF m 138 #[.val (.int p0), .val (.int p1), .val (.int p2), .val (.int p3), .val (.int p4), .val (.int p5), .val (.int ((p0 &&& (2147483647 : Int32)) % (6 : Int32))), .val (.ref b1), .val (.ref r125), .unset] [(.ref r165)])) _
              refine XS.astore X163.here hx rfl (hb hby at_138) rfl rfl (l' := #[.val (.int p0), .val (.int p1), .val (.int p2), .val (.int p3), .val (.int p4), .val (.int p5), .val (.int ((p0 &&& (2147483647 : Int32)) % (6 : Int32))), .val (.ref b1), .val (.ref r125), .val (.ref r165)]) rfl ?_
              exact kt
            have zs175 : n0 ≤ T163.heap.size := Nat.le_trans Z0 k172.1
            obtain ⟨_, _, ⟨T176, L176, k176, n176⟩, -, X176, ⟨Lc176, hQ176, l176, y176, z176⟩, st176⟩ := Jvm.LawKit.callS X163 hx (y := (⟨"com/example/interleaving/interleaving/store/StateGraphInitialStatesPinLaw", "matches", "([IIIIIII)Z"⟩ : MethodName)) hown (mvT hZ (hw _ (List.mem_of_getElem? (i := 38) rfl))) (mvT hZ (hw _ (List.mem_of_getElem? (i := 39) rfl))) (mvT hZ (hw _ (List.mem_of_getElem? (i := 40) rfl))) (mvT hZ (hw _ (List.mem_of_getElem? (i := 41) rfl))) (by decide) (backOf (W := 0) (own_rm_mt l Z a0 hw [] r165 ((p0 &&& (2147483647 : Int32)) % (6 : Int32)) p1 p2 p3 p4 p5 4 (own_upd (own_upd (own_upd (own_upd (fun _ => 0) 0 p1) 1 p2) 2 p3) 3 p4) T163.heap n0 zs175 c165_1 (own_kN 3 (by decide) hc45 (own_le 3 (by decide) hc55)) (by decide) (fun j hj => by rcases j with _ | _ | _ | _ | j <;> first | rfl | omega)) hZ (hw _ (List.mem_of_getElem? (i := 41) rfl)) (hw _ (List.mem_of_getElem? (i := 40) rfl)) (by decide) (by decide)) (g := (mkF m 151 #[.val (.int p0), .val (.int p1), .val (.int p2), .val (.int p3), .val (.int p4), .val (.int p5), .val (.int ((p0 &&& (2147483647 : Int32)) % (6 : Int32))), .val (.ref b1), .val (.ref r125), .val (.ref r165)] [(.int p5), (.int p4), (.int p3), (.int p2), (.int p1), (.int ((p0 &&& (2147483647 : Int32)) % (6 : Int32))), (.ref r165)])) rfl (by rw [hml]; rfl) (argsL := [(.ref r165), (.int ((p0 &&& (2147483647 : Int32)) % (6 : Int32))), (.int p1), (.int p2), (.int p3), (.int p4), (.int p5)]) (rest := []) (lenOf own_pd5 rfl) rfl (by show 2 * 0 + _ ≤ _; exact Nat.le_of_eq rfl) (hb hby at_151) (fun _ _ => ⟨rfl, rfl, (by decide : 6 + 0 ≤ _), (by decide : 2136 + 0 ≤ _)⟩)
            dsimp only [Pt.U, Pt.locs, Pt.cells, Pt.slots] at X176 l176 y176 z176 st176 hQ176
            rw [l176, (y176 : k176 = 6), (z176 : n176 = 2136)] at X176
            clear l176 y176 z176
            obtain ⟨rfl, N177, eq177⟩ := hQ176
            have nf178 := Fr.app nf173 N177
            have pre179 : ∀ t, Steps p.tables e below (T176.setTop (mkF m 154 #[.val (.int p0), .val (.int p1), .val (.int p2), .val (.int p3), .val (.int p4), .val (.int p5), .val (.int ((p0 &&& (2147483647 : Int32)) % (6 : Int32))), .val (.ref b1), .val (.ref r125), .val (.ref r165)] [(.int (1 : Int32))])) t → Steps p.tables e below (s₁.setTop (entryFrame m #[(.int p0), (.int p1), (.int p2), (.int p3), (.int p4), (.int p5)] maxLocals)) t := by
              intro t kt
              refine pre174 t ?_
              show Steps p.tables e below (T163.setTop (mkF m 140 #[.val (.int p0), .val (.int p1), .val (.int p2), .val (.int p3), .val (.int p4), .val (.int p5), .val (.int ((p0 &&& (2147483647 : Int32)) % (6 : Int32))), .val (.ref b1), .val (.ref r125), .val (.ref r165)] [])) _
              refine XS.aload X163.here hx rfl (hb hby at_140) rfl rfl ?_
              show Steps p.tables e below (T163.setTop (mkF m 142 #[.val (.int p0), .val (.int p1), .val (.int p2), .val (.int p3), .val (.int p4), .val (.int p5), .val (.int ((p0 &&& (2147483647 : Int32)) % (6 : Int32))), .val (.ref b1), .val (.ref r125), .val (.ref r165)] [(.ref r165)])) _
              refine XS.iload X163.here hx rfl (hb hby at_142) rfl ?_
              show Steps p.tables e below (T163.setTop (mkF m 144 #[.val (.int p0), .val (.int p1), .val (.int p2), .val (.int p3), .val (.int p4), .val (.int p5), .val (.int ((p0 &&& (2147483647 : Int32)) % (6 : Int32))), .val (.ref b1), .val (.ref r125), .val (.ref r165)] [(.int ((p0 &&& (2147483647 : Int32)) % (6 : Int32))), (.ref r165)])) _
              refine XS.iloadN X163.here hx rfl (hb hby at_144) rfl ?_
              show Steps p.tables e below (T163.setTop (mkF m 145 #[.val (.int p0), .val (.int p1), .val (.int p2), .val (.int p3), .val (.int p4), .val (.int p5), .val (.int ((p0 &&& (2147483647 : Int32)) % (6 : Int32))), .val (.ref b1), .val (.ref r125), .val (.ref r165)] [(.int p1), (.int ((p0 &&& (2147483647 : Int32)) % (6 : Int32))), (.ref r165)])) _
              refine XS.iloadN X163.here hx rfl (hb hby at_145) rfl ?_
              show Steps p.tables e below (T163.setTop (mkF m 146 #[.val (.int p0), .val (.int p1), .val (.int p2), .val (.int p3), .val (.int p4), .val (.int p5), .val (.int ((p0 &&& (2147483647 : Int32)) % (6 : Int32))), .val (.ref b1), .val (.ref r125), .val (.ref r165)] [(.int p2), (.int p1), (.int ((p0 &&& (2147483647 : Int32)) % (6 : Int32))), (.ref r165)])) _
              refine XS.iloadN X163.here hx rfl (hb hby at_146) rfl ?_
              show Steps p.tables e below (T163.setTop (mkF m 147 #[.val (.int p0), .val (.int p1), .val (.int p2), .val (.int p3), .val (.int p4), .val (.int p5), .val (.int ((p0 &&& (2147483647 : Int32)) % (6 : Int32))), .val (.ref b1), .val (.ref r125), .val (.ref r165)] [(.int p3), (.int p2), (.int p1), (.int ((p0 &&& (2147483647 : Int32)) % (6 : Int32))), (.ref r165)])) _
              refine XS.iload X163.here hx rfl (hb hby at_147) rfl ?_
              show Steps p.tables e below (T163.setTop (mkF m 149 #[.val (.int p0), .val (.int p1), .val (.int p2), .val (.int p3), .val (.int p4), .val (.int p5), .val (.int ((p0 &&& (2147483647 : Int32)) % (6 : Int32))), .val (.ref b1), .val (.ref r125), .val (.ref r165)] [(.int p4), (.int p3), (.int p2), (.int p1), (.int ((p0 &&& (2147483647 : Int32)) % (6 : Int32))), (.ref r165)])) _
              refine XS.iload X163.here hx rfl (hb hby at_149) rfl ?_
              show Steps p.tables e below (T163.setTop (mkF m 151 #[.val (.int p0), .val (.int p1), .val (.int p2), .val (.int p3), .val (.int p4), .val (.int p5), .val (.int ((p0 &&& (2147483647 : Int32)) % (6 : Int32))), .val (.ref b1), .val (.ref r125), .val (.ref r165)] [(.int p5), (.int p4), (.int p3), (.int p2), (.int p1), (.int ((p0 &&& (2147483647 : Int32)) % (6 : Int32))), (.ref r165)])) _
              refine st176 _ ?_
              exact kt
            obtain ⟨fs, hr, hrun, hended, hW, hsame⟩ := X176.leave (v := some (.int (1 : Int32))) (fun h => by rw [Bd.returns] at h; cases h)
            refine ⟨_, _, pre179 _ ?_, hrun, hended, _, _, rfl, ?_, ⟨_, rfl⟩, hW, hsame.mono (by decide) (by decide)⟩
            · show Steps p.tables e below (T176.setTop (mkF m 154 #[.val (.int p0), .val (.int p1), .val (.int p2), .val (.int p3), .val (.int p4), .val (.int p5), .val (.int ((p0 &&& (2147483647 : Int32)) % (6 : Int32))), .val (.ref b1), .val (.ref r125), .val (.ref r165)] [(.int (1 : Int32))])) _
              exact retN X176 hx (t := .boolean) Bd.returns (by simp) (hb hby at_154) hr
            · show own_Q_law Z p0 p1 p2 p3 p4 p5 h0 n0 (some (.int (1 : Int32))) T176.heap _
              rw [eq177]
              exact ⟨rfl, nf178⟩
        · have zs180 : n0 ≤ T37.heap.size := Nat.le_trans Z0 k42.1
          obtain ⟨cq182, kq182, q182a, q182b, q182c⟩ := isOf hZ rfl f40
          obtain ⟨_, _, ⟨T181, L181, k181, n181⟩, -, X181, ⟨Lc181, hQ181, l181, y181, z181⟩, st181⟩ := X37.virtualBack hx (y := (⟨"com/example/interleaving/interleaving/store/StateGraph", "initialStates", "()[I"⟩ : MethodName)) (z := (⟨"com/example/interleaving/interleaving/store/StateGraph", "initialStates", "()[I"⟩ : MethodName)) hown (mvT hZ (hw _ (List.mem_of_getElem? (i := 19) rfl))) (mvT hZ (hw _ (List.mem_of_getElem? (i := 20) rfl))) (notFace_of_selects (args := #[]) (mvT hZ (hw _ (List.mem_of_getElem? (i := 22) rfl)))) (mvT hZ (hw _ (List.mem_of_getElem? (i := 22) rfl))) (mvT hZ (hw _ (List.mem_of_getElem? (i := 21) rfl))) (by decide) (backOf (W := 0) (own_rm_ist l Z a0 hw [] b1 bx10 3 16 (own_upd (own_upd (own_upd (fun _ => 0) 0 p1) 1 p2) 2 p3) T37.heap n0 zs180 c39_0 c39_1 c39_2 (by decide) (by decide) (by decide)) hZ (hw _ (List.mem_of_getElem? (i := 23) rfl)) (hw _ (List.mem_of_getElem? (i := 3) rfl)) (by decide) (by decide)) q182a q182c (g := (mkF m 81 #[.val (.int p0), .val (.int p1), .val (.int p2), .val (.int p3), .val (.int p4), .val (.int p5), .val (.int ((p0 &&& (2147483647 : Int32)) % (6 : Int32))), .val (.ref b1), .unset, .unset] [(.ref b1)])) rfl (by rw [hml]; rfl) (Steps.refl _) (argsL := []) (rest := []) (lenOf own_pd4 rfl) rfl (by show 2 * 0 + _ ≤ _; exact Nat.le_of_eq rfl) (hb hby at_81) (fun _ _ => ⟨rfl, rfl, (by decide : 4 + 1 ≤ _), (by decide : 2072 + 32 ≤ _)⟩)
          dsimp only [Pt.U, Pt.locs, Pt.cells, Pt.slots] at X181 l181 y181 z181 st181 hQ181
          rw [l181, (y181 : k181 = 5), (z181 : n181 = 2104)] at X181
          clear l181 y181 z181
          obtain ⟨r183, rfl, N183, K183, c183_0, c183_1⟩ := hQ181
          have sz_r183 : h0.size ≤ r183 := Nat.le_trans k42.1 c183_0
          have gn_r183 : n0 ≤ r183 := Nat.le_trans Z0 sz_r183
          have ne_b1_r183 : b1 ≠ r183 := Nat.ne_of_lt (Nat.lt_of_lt_of_le c39_1.lt c183_0)
          have ne_bx10_r183 : bx10 ≠ r183 := Nat.ne_of_lt (Nat.lt_of_lt_of_le c39_2.lt c183_0)
          have f184 := f40.keep K183
          have f185 := f41.keep K183
          have f186 := c39_0.keep K183 nin0
          have f187 := c39_1.keep K183 nin0
          have f188 := c39_2.keep K183 nin0
          have k189 := k42.trans K183 all0
          have nf190 := Fr.app nf43 N183
          have pre191 : ∀ t, Steps p.tables e below (T181.setTop (mkF m 93 #[.val (.int p0), .val (.int p1), .val (.int p2), .val (.int p3), .val (.int p4), .val (.int p5), .val (.int ((p0 &&& (2147483647 : Int32)) % (6 : Int32))), .val (.ref b1), .val (.ref r183), .unset] [(.int p3), (.int p2), (.int p1), (.int ((p0 &&& (2147483647 : Int32)) % (6 : Int32))), (.ref r183)])) t → Steps p.tables e below (s₁.setTop (entryFrame m #[(.int p0), (.int p1), (.int p2), (.int p3), (.int p4), (.int p5)] maxLocals)) t := by
            intro t kt
            refine pre44 t ?_
            show Steps p.tables e below (T37.setTop (mkF m 56 #[.val (.int p0), .val (.int p1), .val (.int p2), .val (.int p3), .val (.int p4), .val (.int p5), .val (.int ((p0 &&& (2147483647 : Int32)) % (6 : Int32))), .val (.ref b1), .unset, .unset] [(.int (3 : Int32)), (.int ((p0 &&& (2147483647 : Int32)) % (6 : Int32)))])) _
            refine XS.icmpYes X37.here hx rfl (pc0 := 56) (pc' := 66) rfl (hb hby at_56) rfl (flt hc45).2.2.2 (by decide) (by decide) ?_
            show Steps p.tables e below (T37.setTop (mkF m 66 #[.val (.int p0), .val (.int p1), .val (.int p2), .val (.int p3), .val (.int p4), .val (.int p5), .val (.int ((p0 &&& (2147483647 : Int32)) % (6 : Int32))), .val (.ref b1), .unset, .unset] [])) _
            refine XS.iload X37.here hx rfl (hb hby at_66) rfl ?_
            show Steps p.tables e below (T37.setTop (mkF m 68 #[.val (.int p0), .val (.int p1), .val (.int p2), .val (.int p3), .val (.int p4), .val (.int p5), .val (.int ((p0 &&& (2147483647 : Int32)) % (6 : Int32))), .val (.ref b1), .unset, .unset] [(.int ((p0 &&& (2147483647 : Int32)) % (6 : Int32)))])) _
            refine XS.iconst X37.here hx rfl (hb hby at_68) ?_
            show Steps p.tables e below (T37.setTop (mkF m 69 #[.val (.int p0), .val (.int p1), .val (.int p2), .val (.int p3), .val (.int p4), .val (.int p5), .val (.int ((p0 &&& (2147483647 : Int32)) % (6 : Int32))), .val (.ref b1), .unset, .unset] [(.int (4 : Int32)), (.int ((p0 &&& (2147483647 : Int32)) % (6 : Int32)))])) _
            refine XS.icmpYes X37.here hx rfl (pc0 := 69) (pc' := 79) rfl (hb hby at_69) rfl (flt (own_no (3 : Int32) (4 : Int32) hc45 (by decide))).2.2.2 (by decide) (by decide) ?_
            show Steps p.tables e below (T37.setTop (mkF m 79 #[.val (.int p0), .val (.int p1), .val (.int p2), .val (.int p3), .val (.int p4), .val (.int p5), .val (.int ((p0 &&& (2147483647 : Int32)) % (6 : Int32))), .val (.ref b1), .unset, .unset] [])) _
            refine XS.aload X37.here hx rfl (hb hby at_79) rfl rfl ?_
            show Steps p.tables e below (T37.setTop (mkF m 81 #[.val (.int p0), .val (.int p1), .val (.int p2), .val (.int p3), .val (.int p4), .val (.int p5), .val (.int ((p0 &&& (2147483647 : Int32)) % (6 : Int32))), .val (.ref b1), .unset, .unset] [(.ref b1)])) _
            refine st181.trans ?_
            show Steps p.tables e below (T181.setTop (mkF m 84 #[.val (.int p0), .val (.int p1), .val (.int p2), .val (.int p3), .val (.int p4), .val (.int p5), .val (.int ((p0 &&& (2147483647 : Int32)) % (6 : Int32))), .val (.ref b1), .unset, .unset] [(.ref r183)])) _
            refine XS.astore X181.here hx rfl (hb hby at_84) rfl rfl (l' := #[.val (.int p0), .val (.int p1), .val (.int p2), .val (.int p3), .val (.int p4), .val (.int p5), .val (.int ((p0 &&& (2147483647 : Int32)) % (6 : Int32))), .val (.ref b1), .val (.ref r183), .unset]) rfl ?_
            show Steps p.tables e below (T181.setTop (mkF m 86 #[.val (.int p0), .val (.int p1), .val (.int p2), .val (.int p3), .val (.int p4), .val (.int p5), .val (.int ((p0 &&& (2147483647 : Int32)) % (6 : Int32))), .val (.ref b1), .val (.ref r183), .unset] [])) _
            refine XS.aload X181.here hx rfl (hb hby at_86) rfl rfl ?_
            show Steps p.tables e below (T181.setTop (mkF m 88 #[.val (.int p0), .val (.int p1), .val (.int p2), .val (.int p3), .val (.int p4), .val (.int p5), .val (.int ((p0 &&& (2147483647 : Int32)) % (6 : Int32))), .val (.ref b1), .val (.ref r183), .unset] [(.ref r183)])) _
            refine XS.iload X181.here hx rfl (hb hby at_88) rfl ?_
            show Steps p.tables e below (T181.setTop (mkF m 90 #[.val (.int p0), .val (.int p1), .val (.int p2), .val (.int p3), .val (.int p4), .val (.int p5), .val (.int ((p0 &&& (2147483647 : Int32)) % (6 : Int32))), .val (.ref b1), .val (.ref r183), .unset] [(.int ((p0 &&& (2147483647 : Int32)) % (6 : Int32))), (.ref r183)])) _
            refine XS.iloadN X181.here hx rfl (hb hby at_90) rfl ?_
            show Steps p.tables e below (T181.setTop (mkF m 91 #[.val (.int p0), .val (.int p1), .val (.int p2), .val (.int p3), .val (.int p4), .val (.int p5), .val (.int ((p0 &&& (2147483647 : Int32)) % (6 : Int32))), .val (.ref b1), .val (.ref r183), .unset] [(.int p1), (.int ((p0 &&& (2147483647 : Int32)) % (6 : Int32))), (.ref r183)])) _
            refine XS.iloadN X181.here hx rfl (hb hby at_91) rfl ?_
            show Steps p.tables e below (T181.setTop (mkF m 92 #[.val (.int p0), .val (.int p1), .val (.int p2), .val (.int p3), .val (.int p4), .val (.int p5), .val (.int ((p0 &&& (2147483647 : Int32)) % (6 : Int32))), .val (.ref b1), .val (.ref r183), .unset] [(.int p2), (.int p1), (.int ((p0 &&& (2147483647 : Int32)) % (6 : Int32))), (.ref r183)])) _
            refine XS.iloadN X181.here hx rfl (hb hby at_92) rfl ?_
            exact kt
          have zs192 : n0 ≤ T181.heap.size := Nat.le_trans Z0 k189.1
          obtain ⟨_, _, ⟨T193, L193, k193, n193⟩, -, X193, ⟨Lc193, hQ193, l193, y193, z193⟩, st193⟩ := Jvm.LawKit.callS X181 hx (y := (⟨"com/example/interleaving/interleaving/store/StateGraphInitialStatesPinLaw", "matches", "([IIIIIII)Z"⟩ : MethodName)) hown (mvT hZ (hw _ (List.mem_of_getElem? (i := 38) rfl))) (mvT hZ (hw _ (List.mem_of_getElem? (i := 39) rfl))) (mvT hZ (hw _ (List.mem_of_getElem? (i := 40) rfl))) (mvT hZ (hw _ (List.mem_of_getElem? (i := 41) rfl))) (by decide) (backOf (W := 0) (own_rm_mt l Z a0 hw [] r183 ((p0 &&& (2147483647 : Int32)) % (6 : Int32)) p1 p2 p3 p4 p5 3 (own_upd (own_upd (own_upd (fun _ => 0) 0 p1) 1 p2) 2 p3) T181.heap n0 zs192 c183_1 (own_kN 2 (by decide) hc35 (own_le 2 (by decide) hc45)) (by decide) (fun j hj => by rcases j with _ | _ | _ | j <;> first | rfl | omega)) hZ (hw _ (List.mem_of_getElem? (i := 41) rfl)) (hw _ (List.mem_of_getElem? (i := 40) rfl)) (by decide) (by decide)) (g := (mkF m 97 #[.val (.int p0), .val (.int p1), .val (.int p2), .val (.int p3), .val (.int p4), .val (.int p5), .val (.int ((p0 &&& (2147483647 : Int32)) % (6 : Int32))), .val (.ref b1), .val (.ref r183), .unset] [(.int p5), (.int p4), (.int p3), (.int p2), (.int p1), (.int ((p0 &&& (2147483647 : Int32)) % (6 : Int32))), (.ref r183)])) rfl (by rw [hml]; rfl) (argsL := [(.ref r183), (.int ((p0 &&& (2147483647 : Int32)) % (6 : Int32))), (.int p1), (.int p2), (.int p3), (.int p4), (.int p5)]) (rest := []) (lenOf own_pd5 rfl) rfl (by show 2 * 0 + _ ≤ _; exact Nat.le_of_eq rfl) (hb hby at_97) (fun _ _ => ⟨rfl, rfl, (by decide : 5 + 0 ≤ _), (by decide : 2104 + 0 ≤ _)⟩)
          dsimp only [Pt.U, Pt.locs, Pt.cells, Pt.slots] at X193 l193 y193 z193 st193 hQ193
          rw [l193, (y193 : k193 = 5), (z193 : n193 = 2104)] at X193
          clear l193 y193 z193
          obtain ⟨rfl, N194, eq194⟩ := hQ193
          have nf195 := Fr.app nf190 N194
          obtain ⟨cl196, Ar196, S196, H196⟩ := id c183_1
          have hin196 : ¬ ((0 : Int32) < 0 ∨ cl196.slots.size ≤ ((0 : Int32)).toNatClampNeg) := own_inb S196 (by decide) (by decide)
          obtain ⟨T197, h197, X197, e197, W197, st197⟩ := stI X193 hx hZ eq194 Ar196 (j := (0 : Int32)) hin196 (g := (mkF m 116 #[.val (.int p0), .val (.int p1), .val (.int p2), .val (.int p3), .val (.int p4), .val (.int p5), .val (.int ((p0 &&& (2147483647 : Int32)) % (6 : Int32))), .val (.ref b1), .val (.ref r183), .unset] [(.int (p1 ^^^ (1 : Int32))), (.int (0 : Int32)), (.ref r183)])) rfl rfl (hb hby at_116)
          have f198 := f184.wr W197
          have f199 := f185.wr W197
          have f200 := f186.other W197 (Or.inl ne_b1_r183)
          have f201 := f187.other W197 (Or.inl ne_b1_r183)
          have f202 := f188.other W197 ne_bx10_r183
          have k204 := k189.wr W197 (Or.inr sz_r183)
          have nf205 := Fr.snoc X197 nf195 gn_r183
          have f206 := c183_1.set W197
          have pre207 : ∀ t, Steps p.tables e below (T197.setTop (mkF m 117 #[.val (.int p0), .val (.int p1), .val (.int p2), .val (.int p3), .val (.int p4), .val (.int p5), .val (.int ((p0 &&& (2147483647 : Int32)) % (6 : Int32))), .val (.ref b1), .val (.ref r183), .unset] [])) t → Steps p.tables e below (s₁.setTop (entryFrame m #[(.int p0), (.int p1), (.int p2), (.int p3), (.int p4), (.int p5)] maxLocals)) t := by
            intro t kt
            refine pre191 t ?_
            show Steps p.tables e below (T181.setTop (mkF m 93 #[.val (.int p0), .val (.int p1), .val (.int p2), .val (.int p3), .val (.int p4), .val (.int p5), .val (.int ((p0 &&& (2147483647 : Int32)) % (6 : Int32))), .val (.ref b1), .val (.ref r183), .unset] [(.int p3), (.int p2), (.int p1), (.int ((p0 &&& (2147483647 : Int32)) % (6 : Int32))), (.ref r183)])) _
            refine XS.iload X181.here hx rfl (hb hby at_93) rfl ?_
            show Steps p.tables e below (T181.setTop (mkF m 95 #[.val (.int p0), .val (.int p1), .val (.int p2), .val (.int p3), .val (.int p4), .val (.int p5), .val (.int ((p0 &&& (2147483647 : Int32)) % (6 : Int32))), .val (.ref b1), .val (.ref r183), .unset] [(.int p4), (.int p3), (.int p2), (.int p1), (.int ((p0 &&& (2147483647 : Int32)) % (6 : Int32))), (.ref r183)])) _
            refine XS.iload X181.here hx rfl (hb hby at_95) rfl ?_
            show Steps p.tables e below (T181.setTop (mkF m 97 #[.val (.int p0), .val (.int p1), .val (.int p2), .val (.int p3), .val (.int p4), .val (.int p5), .val (.int ((p0 &&& (2147483647 : Int32)) % (6 : Int32))), .val (.ref b1), .val (.ref r183), .unset] [(.int p5), (.int p4), (.int p3), (.int p2), (.int p1), (.int ((p0 &&& (2147483647 : Int32)) % (6 : Int32))), (.ref r183)])) _
            refine st193 _ ?_
            show Steps p.tables e below (T193.setTop (mkF m 100 #[.val (.int p0), .val (.int p1), .val (.int p2), .val (.int p3), .val (.int p4), .val (.int p5), .val (.int ((p0 &&& (2147483647 : Int32)) % (6 : Int32))), .val (.ref b1), .val (.ref r183), .unset] [(.int (1 : Int32))])) _
            refine XS.ifYes X193.here hx rfl (pc0 := 100) (pc' := 105) rfl (hb hby at_100) rfl ((if0 _ _).trans (feq (by decide : ¬ ((1 : Int32) = (0 : Int32)))).2) (by decide) (by decide) ?_
            show Steps p.tables e below (T193.setTop (mkF m 105 #[.val (.int p0), .val (.int p1), .val (.int p2), .val (.int p3), .val (.int p4), .val (.int p5), .val (.int ((p0 &&& (2147483647 : Int32)) % (6 : Int32))), .val (.ref b1), .val (.ref r183), .unset] [])) _
            refine XS.iload X193.here hx rfl (hb hby at_105) rfl ?_
            show Steps p.tables e below (T193.setTop (mkF m 107 #[.val (.int p0), .val (.int p1), .val (.int p2), .val (.int p3), .val (.int p4), .val (.int p5), .val (.int ((p0 &&& (2147483647 : Int32)) % (6 : Int32))), .val (.ref b1), .val (.ref r183), .unset] [(.int ((p0 &&& (2147483647 : Int32)) % (6 : Int32)))])) _
            refine XS.ifNo X193.here hx rfl (hb hby at_107) rfl ((if0 _ _).trans (tlt hc15).2.2.2) ?_
            show Steps p.tables e below (T193.setTop (mkF m 110 #[.val (.int p0), .val (.int p1), .val (.int p2), .val (.int p3), .val (.int p4), .val (.int p5), .val (.int ((p0 &&& (2147483647 : Int32)) % (6 : Int32))), .val (.ref b1), .val (.ref r183), .unset] [])) _
            refine XS.aload X193.here hx rfl (hb hby at_110) rfl rfl ?_
            show Steps p.tables e below (T193.setTop (mkF m 112 #[.val (.int p0), .val (.int p1), .val (.int p2), .val (.int p3), .val (.int p4), .val (.int p5), .val (.int ((p0 &&& (2147483647 : Int32)) % (6 : Int32))), .val (.ref b1), .val (.ref r183), .unset] [(.ref r183)])) _
            refine XS.iconst X193.here hx rfl (hb hby at_112) ?_
            show Steps p.tables e below (T193.setTop (mkF m 113 #[.val (.int p0), .val (.int p1), .val (.int p2), .val (.int p3), .val (.int p4), .val (.int p5), .val (.int ((p0 &&& (2147483647 : Int32)) % (6 : Int32))), .val (.ref b1), .val (.ref r183), .unset] [(.int (0 : Int32)), (.ref r183)])) _
            refine XS.iloadN X193.here hx rfl (hb hby at_113) rfl ?_
            show Steps p.tables e below (T193.setTop (mkF m 114 #[.val (.int p0), .val (.int p1), .val (.int p2), .val (.int p3), .val (.int p4), .val (.int p5), .val (.int ((p0 &&& (2147483647 : Int32)) % (6 : Int32))), .val (.ref b1), .val (.ref r183), .unset] [(.int p1), (.int (0 : Int32)), (.ref r183)])) _
            refine XS.iconst X193.here hx rfl (hb hby at_114) ?_
            show Steps p.tables e below (T193.setTop (mkF m 115 #[.val (.int p0), .val (.int p1), .val (.int p2), .val (.int p3), .val (.int p4), .val (.int p5), .val (.int ((p0 &&& (2147483647 : Int32)) % (6 : Int32))), .val (.ref b1), .val (.ref r183), .unset] [(.int (1 : Int32)), (.int p1), (.int (0 : Int32)), (.ref r183)])) _
            refine XS.ixor X193.here hx rfl (hb hby at_115) rfl ?_
            show Steps p.tables e below (T193.setTop (mkF m 116 #[.val (.int p0), .val (.int p1), .val (.int p2), .val (.int p3), .val (.int p4), .val (.int p5), .val (.int ((p0 &&& (2147483647 : Int32)) % (6 : Int32))), .val (.ref b1), .val (.ref r183), .unset] [(.int (p1 ^^^ (1 : Int32))), (.int (0 : Int32)), (.ref r183)])) _
            refine st197 _ ?_
            exact kt
          obtain ⟨cl208, Ar208, S208, H208⟩ := id f206
          have hin208 : ¬ ((((p0 &&& (2147483647 : Int32)) % (6 : Int32)) - (1 : Int32)) < 0 ∨ cl208.slots.size ≤ ((((p0 &&& (2147483647 : Int32)) % (6 : Int32)) - (1 : Int32))).toNatClampNeg) := own_inb S208 (by rw [(own_kN 2 (by decide) hc35 (own_le 2 (by decide) hc45))]; decide) (by rw [(own_kN 2 (by decide) hc35 (own_le 2 (by decide) hc45))]; decide)
          have hat208 : cl208.slots[((((p0 &&& (2147483647 : Int32)) % (6 : Int32)) - (1 : Int32))).toNatClampNeg]? = some (.int ((own_upd (own_upd (own_upd (own_upd (fun _ => 0) 0 p1) 1 p2) 2 p3) ((0 : Int32)).toNatClampNeg (p1 ^^^ (1 : Int32))) ((((p0 &&& (2147483647 : Int32)) % (6 : Int32)) - (1 : Int32))).toNatClampNeg)) := H208 _ (by rw [(own_kN 2 (by decide) hc35 (own_le 2 (by decide) hc45))]; decide)
          obtain ⟨cl209, Ar209, S209, H209⟩ := id f206
          have hin209 : ¬ ((((p0 &&& (2147483647 : Int32)) % (6 : Int32)) - (1 : Int32)) < 0 ∨ cl209.slots.size ≤ ((((p0 &&& (2147483647 : Int32)) % (6 : Int32)) - (1 : Int32))).toNatClampNeg) := own_inb S209 (by rw [(own_kN 2 (by decide) hc35 (own_le 2 (by decide) hc45))]; decide) (by rw [(own_kN 2 (by decide) hc35 (own_le 2 (by decide) hc45))]; decide)
          obtain ⟨T210, h210, X210, e210, W210, st210⟩ := stI X197 hx hZ e197 Ar209 (j := (((p0 &&& (2147483647 : Int32)) % (6 : Int32)) - (1 : Int32))) hin209 (g := (mkF m 132 #[.val (.int p0), .val (.int p1), .val (.int p2), .val (.int p3), .val (.int p4), .val (.int p5), .val (.int ((p0 &&& (2147483647 : Int32)) % (6 : Int32))), .val (.ref b1), .val (.ref r183), .unset] [(.int (((own_upd (own_upd (own_upd (own_upd (fun _ => 0) 0 p1) 1 p2) 2 p3) ((0 : Int32)).toNatClampNeg (p1 ^^^ (1 : Int32))) ((((p0 &&& (2147483647 : Int32)) % (6 : Int32)) - (1 : Int32))).toNatClampNeg) ^^^ (2 : Int32))), (.int (((p0 &&& (2147483647 : Int32)) % (6 : Int32)) - (1 : Int32))), (.ref r183)])) rfl rfl (hb hby at_132)
          have f211 := f198.wr W210
          have f212 := f199.wr W210
          have f213 := f200.other W210 (Or.inl ne_b1_r183)
          have f214 := f201.other W210 (Or.inl ne_b1_r183)
          have f215 := f202.other W210 ne_bx10_r183
          have k217 := k204.wr W210 (Or.inr sz_r183)
          have nf218 := Fr.snoc X210 nf205 gn_r183
          have f219 := f206.set W210
          have pre220 : ∀ t, Steps p.tables e below (T210.setTop (mkF m 133 #[.val (.int p0), .val (.int p1), .val (.int p2), .val (.int p3), .val (.int p4), .val (.int p5), .val (.int ((p0 &&& (2147483647 : Int32)) % (6 : Int32))), .val (.ref b1), .val (.ref r183), .unset] [])) t → Steps p.tables e below (s₁.setTop (entryFrame m #[(.int p0), (.int p1), (.int p2), (.int p3), (.int p4), (.int p5)] maxLocals)) t := by
            intro t kt
            refine pre207 t ?_
            show Steps p.tables e below (T197.setTop (mkF m 117 #[.val (.int p0), .val (.int p1), .val (.int p2), .val (.int p3), .val (.int p4), .val (.int p5), .val (.int ((p0 &&& (2147483647 : Int32)) % (6 : Int32))), .val (.ref b1), .val (.ref r183), .unset] [])) _
            refine XS.aload X197.here hx rfl (hb hby at_117) rfl rfl ?_
            show Steps p.tables e below (T197.setTop (mkF m 119 #[.val (.int p0), .val (.int p1), .val (.int p2), .val (.int p3), .val (.int p4), .val (.int p5), .val (.int ((p0 &&& (2147483647 : Int32)) % (6 : Int32))), .val (.ref b1), .val (.ref r183), .unset] [(.ref r183)])) _
            refine XS.iload X197.here hx rfl (hb hby at_119) rfl ?_
            show Steps p.tables e below (T197.setTop (mkF m 121 #[.val (.int p0), .val (.int p1), .val (.int p2), .val (.int p3), .val (.int p4), .val (.int p5), .val (.int ((p0 &&& (2147483647 : Int32)) % (6 : Int32))), .val (.ref b1), .val (.ref r183), .unset] [(.int ((p0 &&& (2147483647 : Int32)) % (6 : Int32))), (.ref r183)])) _
            refine XS.iconst X197.here hx rfl (hb hby at_121) ?_
            show Steps p.tables e below (T197.setTop (mkF m 122 #[.val (.int p0), .val (.int p1), .val (.int p2), .val (.int p3), .val (.int p4), .val (.int p5), .val (.int ((p0 &&& (2147483647 : Int32)) % (6 : Int32))), .val (.ref b1), .val (.ref r183), .unset] [(.int (1 : Int32)), (.int ((p0 &&& (2147483647 : Int32)) % (6 : Int32))), (.ref r183)])) _
            refine XS.isub X197.here hx rfl (hb hby at_122) rfl ?_
            show Steps p.tables e below (T197.setTop (mkF m 123 #[.val (.int p0), .val (.int p1), .val (.int p2), .val (.int p3), .val (.int p4), .val (.int p5), .val (.int ((p0 &&& (2147483647 : Int32)) % (6 : Int32))), .val (.ref b1), .val (.ref r183), .unset] [(.int (((p0 &&& (2147483647 : Int32)) % (6 : Int32)) - (1 : Int32))), (.ref r183)])) _
            refine XS.aload X197.here hx rfl (hb hby at_123) rfl rfl ?_
            show Steps p.tables e below (T197.setTop (mkF m 125 #[.val (.int p0), .val (.int p1), .val (.int p2), .val (.int p3), .val (.int p4), .val (.int p5), .val (.int ((p0 &&& (2147483647 : Int32)) % (6 : Int32))), .val (.ref b1), .val (.ref r183), .unset] [(.ref r183), (.int (((p0 &&& (2147483647 : Int32)) % (6 : Int32)) - (1 : Int32))), (.ref r183)])) _
            refine XS.iload X197.here hx rfl (hb hby at_125) rfl ?_
            show Steps p.tables e below (T197.setTop (mkF m 127 #[.val (.int p0), .val (.int p1), .val (.int p2), .val (.int p3), .val (.int p4), .val (.int p5), .val (.int ((p0 &&& (2147483647 : Int32)) % (6 : Int32))), .val (.ref b1), .val (.ref r183), .unset] [(.int ((p0 &&& (2147483647 : Int32)) % (6 : Int32))), (.ref r183), (.int (((p0 &&& (2147483647 : Int32)) % (6 : Int32)) - (1 : Int32))), (.ref r183)])) _
            refine XS.iconst X197.here hx rfl (hb hby at_127) ?_
            show Steps p.tables e below (T197.setTop (mkF m 128 #[.val (.int p0), .val (.int p1), .val (.int p2), .val (.int p3), .val (.int p4), .val (.int p5), .val (.int ((p0 &&& (2147483647 : Int32)) % (6 : Int32))), .val (.ref b1), .val (.ref r183), .unset] [(.int (1 : Int32)), (.int ((p0 &&& (2147483647 : Int32)) % (6 : Int32))), (.ref r183), (.int (((p0 &&& (2147483647 : Int32)) % (6 : Int32)) - (1 : Int32))), (.ref r183)])) _
            refine XS.isub X197.here hx rfl (hb hby at_128) rfl ?_
            show Steps p.tables e below (T197.setTop (mkF m 129 #[.val (.int p0), .val (.int p1), .val (.int p2), .val (.int p3), .val (.int p4), .val (.int p5), .val (.int ((p0 &&& (2147483647 : Int32)) % (6 : Int32))), .val (.ref b1), .val (.ref r183), .unset] [(.int (((p0 &&& (2147483647 : Int32)) % (6 : Int32)) - (1 : Int32))), (.ref r183), (.int (((p0 &&& (2147483647 : Int32)) % (6 : Int32)) - (1 : Int32))), (.ref r183)])) _
            refine X197.iaload hx (j := (((p0 &&& (2147483647 : Int32)) % (6 : Int32)) - (1 : Int32))) (v := (.int ((own_upd (own_upd (own_upd (own_upd (fun _ => 0) 0 p1) 1 p2) 2 p3) ((0 : Int32)).toNatClampNeg (p1 ^^^ (1 : Int32))) ((((p0 &&& (2147483647 : Int32)) % (6 : Int32)) - (1 : Int32))).toNatClampNeg))) (by rw [e197]; exact Ar208.1) (State.isArrayOf_alike hZ.alike Ar208.2.1) Ar208.2.2 hin208 hat208 (g := (mkF m 129 #[.val (.int p0), .val (.int p1), .val (.int p2), .val (.int p3), .val (.int p4), .val (.int p5), .val (.int ((p0 &&& (2147483647 : Int32)) % (6 : Int32))), .val (.ref b1), .val (.ref r183), .unset] [(.int (((p0 &&& (2147483647 : Int32)) % (6 : Int32)) - (1 : Int32))), (.ref r183), (.int (((p0 &&& (2147483647 : Int32)) % (6 : Int32)) - (1 : Int32))), (.ref r183)])) rfl rfl (hb hby at_129) _ ?_
            show Steps p.tables e below (T197.setTop (mkF m 130 #[.val (.int p0), .val (.int p1), .val (.int p2), .val (.int p3), .val (.int p4), .val (.int p5), .val (.int ((p0 &&& (2147483647 : Int32)) % (6 : Int32))), .val (.ref b1), .val (.ref r183), .unset] [(.int ((own_upd (own_upd (own_upd (own_upd (fun _ => 0) 0 p1) 1 p2) 2 p3) ((0 : Int32)).toNatClampNeg (p1 ^^^ (1 : Int32))) ((((p0 &&& (2147483647 : Int32)) % (6 : Int32)) - (1 : Int32))).toNatClampNeg)), (.int (((p0 &&& (2147483647 : Int32)) % (6 : Int32)) - (1 : Int32))), (.ref r183)])) _
            refine XS.iconst X197.here hx rfl (hb hby at_130) ?_
            show Steps p.tables e below (T197.setTop (mkF m 131 #[.val (.int p0), .val (.int p1), .val (.int p2), .val (.int p3), .val (.int p4), .val (.int p5), .val (.int ((p0 &&& (2147483647 : Int32)) % (6 : Int32))), .val (.ref b1), .val (.ref r183), .unset] [(.int (2 : Int32)), (.int ((own_upd (own_upd (own_upd (own_upd (fun _ => 0) 0 p1) 1 p2) 2 p3) ((0 : Int32)).toNatClampNeg (p1 ^^^ (1 : Int32))) ((((p0 &&& (2147483647 : Int32)) % (6 : Int32)) - (1 : Int32))).toNatClampNeg)), (.int (((p0 &&& (2147483647 : Int32)) % (6 : Int32)) - (1 : Int32))), (.ref r183)])) _
            refine XS.ixor X197.here hx rfl (hb hby at_131) rfl ?_
            show Steps p.tables e below (T197.setTop (mkF m 132 #[.val (.int p0), .val (.int p1), .val (.int p2), .val (.int p3), .val (.int p4), .val (.int p5), .val (.int ((p0 &&& (2147483647 : Int32)) % (6 : Int32))), .val (.ref b1), .val (.ref r183), .unset] [(.int (((own_upd (own_upd (own_upd (own_upd (fun _ => 0) 0 p1) 1 p2) 2 p3) ((0 : Int32)).toNatClampNeg (p1 ^^^ (1 : Int32))) ((((p0 &&& (2147483647 : Int32)) % (6 : Int32)) - (1 : Int32))).toNatClampNeg) ^^^ (2 : Int32))), (.int (((p0 &&& (2147483647 : Int32)) % (6 : Int32)) - (1 : Int32))), (.ref r183)])) _
            refine st210 _ ?_
            exact kt
          have zs221 : n0 ≤ h210.size := Nat.le_trans Z0 k217.1
          obtain ⟨cq223, kq223, q223a, q223b, q223c⟩ := isOf hZ e210 f211
          obtain ⟨_, _, ⟨T222, L222, k222, n222⟩, -, X222, ⟨Lc222, hQ222, l222, y222, z222⟩, st222⟩ := X210.virtualBack hx (y := (⟨"com/example/interleaving/interleaving/store/StateGraph", "initialStates", "()[I"⟩ : MethodName)) (z := (⟨"com/example/interleaving/interleaving/store/StateGraph", "initialStates", "()[I"⟩ : MethodName)) hown (mvT hZ (hw _ (List.mem_of_getElem? (i := 19) rfl))) (mvT hZ (hw _ (List.mem_of_getElem? (i := 20) rfl))) (notFace_of_selects (args := #[]) (mvT hZ (hw _ (List.mem_of_getElem? (i := 22) rfl)))) (mvT hZ (hw _ (List.mem_of_getElem? (i := 22) rfl))) (mvT hZ (hw _ (List.mem_of_getElem? (i := 21) rfl))) (by decide) (backOf (W := 0) (own_rm_ist l Z a0 hw [] b1 bx10 3 16 (own_upd (own_upd (own_upd (fun _ => 0) 0 p1) 1 p2) 2 p3) h210 n0 zs221 f213 f214 f215 (by decide) (by decide) (by decide)) hZ (hw _ (List.mem_of_getElem? (i := 23) rfl)) (hw _ (List.mem_of_getElem? (i := 3) rfl)) (by decide) (by decide)) q223a q223c (g := (mkF m 135 #[.val (.int p0), .val (.int p1), .val (.int p2), .val (.int p3), .val (.int p4), .val (.int p5), .val (.int ((p0 &&& (2147483647 : Int32)) % (6 : Int32))), .val (.ref b1), .val (.ref r183), .unset] [(.ref b1)])) rfl (by rw [hml]; rfl) (Steps.refl _) (argsL := []) (rest := []) (lenOf own_pd4 rfl) rfl (by show 2 * 0 + _ ≤ _; exact Nat.le_of_eq rfl) (hb hby at_135) (fun _ _ => ⟨rfl, e210, (by decide : 5 + 1 ≤ _), (by decide : 2104 + 32 ≤ _)⟩)
          dsimp only [Pt.U, Pt.locs, Pt.cells, Pt.slots] at X222 l222 y222 z222 st222 hQ222
          rw [l222, (y222 : k222 = 6), (z222 : n222 = 2136)] at X222
          clear l222 y222 z222
          obtain ⟨r224, rfl, N224, K224, c224_0, c224_1⟩ := hQ222
          have sz_r224 : h0.size ≤ r224 := Nat.le_trans k217.1 c224_0
          have gn_r224 : n0 ≤ r224 := Nat.le_trans Z0 sz_r224
          have ne_b1_r224 : b1 ≠ r224 := Nat.ne_of_lt (Nat.lt_of_lt_of_le f214.lt c224_0)
          have ne_bx10_r224 : bx10 ≠ r224 := Nat.ne_of_lt (Nat.lt_of_lt_of_le f215.lt c224_0)
          have ne_r183_r224 : r183 ≠ r224 := Nat.ne_of_lt (Nat.lt_of_lt_of_le f219.lt c224_0)
          have f225 := f211.keep K224
          have f226 := f212.keep K224
          have f227 := f213.keep K224 nin0
          have f228 := f214.keep K224 nin0
          have f229 := f215.keep K224 nin0
          have f230 := f219.keep K224 nin0
          have k231 := k217.trans K224 all0
          have nf232 := Fr.app nf218 N224
          have zs233 : n0 ≤ T222.heap.size := Nat.le_trans Z0 k231.1
          obtain ⟨_, _, ⟨T234, L234, k234, n234⟩, -, X234, ⟨Lc234, hQ234, l234, y234, z234⟩, st234⟩ := Jvm.LawKit.callS X222 hx (y := (⟨"com/example/interleaving/interleaving/store/StateGraphInitialStatesPinLaw", "matches", "([IIIIIII)Z"⟩ : MethodName)) hown (mvT hZ (hw _ (List.mem_of_getElem? (i := 38) rfl))) (mvT hZ (hw _ (List.mem_of_getElem? (i := 39) rfl))) (mvT hZ (hw _ (List.mem_of_getElem? (i := 40) rfl))) (mvT hZ (hw _ (List.mem_of_getElem? (i := 41) rfl))) (by decide) (backOf (W := 0) (own_rm_mt l Z a0 hw [] r224 ((p0 &&& (2147483647 : Int32)) % (6 : Int32)) p1 p2 p3 p4 p5 3 (own_upd (own_upd (own_upd (fun _ => 0) 0 p1) 1 p2) 2 p3) T222.heap n0 zs233 c224_1 (own_kN 2 (by decide) hc35 (own_le 2 (by decide) hc45)) (by decide) (fun j hj => by rcases j with _ | _ | _ | j <;> first | rfl | omega)) hZ (hw _ (List.mem_of_getElem? (i := 41) rfl)) (hw _ (List.mem_of_getElem? (i := 40) rfl)) (by decide) (by decide)) (g := (mkF m 151 #[.val (.int p0), .val (.int p1), .val (.int p2), .val (.int p3), .val (.int p4), .val (.int p5), .val (.int ((p0 &&& (2147483647 : Int32)) % (6 : Int32))), .val (.ref b1), .val (.ref r183), .val (.ref r224)] [(.int p5), (.int p4), (.int p3), (.int p2), (.int p1), (.int ((p0 &&& (2147483647 : Int32)) % (6 : Int32))), (.ref r224)])) rfl (by rw [hml]; rfl) (argsL := [(.ref r224), (.int ((p0 &&& (2147483647 : Int32)) % (6 : Int32))), (.int p1), (.int p2), (.int p3), (.int p4), (.int p5)]) (rest := []) (lenOf own_pd5 rfl) rfl (by show 2 * 0 + _ ≤ _; exact Nat.le_of_eq rfl) (hb hby at_151) (fun _ _ => ⟨rfl, rfl, (by decide : 6 + 0 ≤ _), (by decide : 2136 + 0 ≤ _)⟩)
          dsimp only [Pt.U, Pt.locs, Pt.cells, Pt.slots] at X234 l234 y234 z234 st234 hQ234
          rw [l234, (y234 : k234 = 6), (z234 : n234 = 2136)] at X234
          clear l234 y234 z234
          obtain ⟨rfl, N235, eq235⟩ := hQ234
          have nf236 := Fr.app nf232 N235
          have pre237 : ∀ t, Steps p.tables e below (T234.setTop (mkF m 154 #[.val (.int p0), .val (.int p1), .val (.int p2), .val (.int p3), .val (.int p4), .val (.int p5), .val (.int ((p0 &&& (2147483647 : Int32)) % (6 : Int32))), .val (.ref b1), .val (.ref r183), .val (.ref r224)] [(.int (1 : Int32))])) t → Steps p.tables e below (s₁.setTop (entryFrame m #[(.int p0), (.int p1), (.int p2), (.int p3), (.int p4), (.int p5)] maxLocals)) t := by
            intro t kt
            refine pre220 t ?_
            show Steps p.tables e below (T210.setTop (mkF m 133 #[.val (.int p0), .val (.int p1), .val (.int p2), .val (.int p3), .val (.int p4), .val (.int p5), .val (.int ((p0 &&& (2147483647 : Int32)) % (6 : Int32))), .val (.ref b1), .val (.ref r183), .unset] [])) _
            refine XS.aload X210.here hx rfl (hb hby at_133) rfl rfl ?_
            show Steps p.tables e below (T210.setTop (mkF m 135 #[.val (.int p0), .val (.int p1), .val (.int p2), .val (.int p3), .val (.int p4), .val (.int p5), .val (.int ((p0 &&& (2147483647 : Int32)) % (6 : Int32))), .val (.ref b1), .val (.ref r183), .unset] [(.ref b1)])) _
            refine st222.trans ?_
            show Steps p.tables e below (T222.setTop (mkF m 138 #[.val (.int p0), .val (.int p1), .val (.int p2), .val (.int p3), .val (.int p4), .val (.int p5), .val (.int ((p0 &&& (2147483647 : Int32)) % (6 : Int32))), .val (.ref b1), .val (.ref r183), .unset] [(.ref r224)])) _
            refine XS.astore X222.here hx rfl (hb hby at_138) rfl rfl (l' := #[.val (.int p0), .val (.int p1), .val (.int p2), .val (.int p3), .val (.int p4), .val (.int p5), .val (.int ((p0 &&& (2147483647 : Int32)) % (6 : Int32))), .val (.ref b1), .val (.ref r183), .val (.ref r224)]) rfl ?_
            show Steps p.tables e below (T222.setTop (mkF m 140 #[.val (.int p0), .val (.int p1), .val (.int p2), .val (.int p3), .val (.int p4), .val (.int p5), .val (.int ((p0 &&& (2147483647 : Int32)) % (6 : Int32))), .val (.ref b1), .val (.ref r183), .val (.ref r224)] [])) _
            refine XS.aload X222.here hx rfl (hb hby at_140) rfl rfl ?_
            show Steps p.tables e below (T222.setTop (mkF m 142 #[.val (.int p0), .val (.int p1), .val (.int p2), .val (.int p3), .val (.int p4), .val (.int p5), .val (.int ((p0 &&& (2147483647 : Int32)) % (6 : Int32))), .val (.ref b1), .val (.ref r183), .val (.ref r224)] [(.ref r224)])) _
            refine XS.iload X222.here hx rfl (hb hby at_142) rfl ?_
            show Steps p.tables e below (T222.setTop (mkF m 144 #[.val (.int p0), .val (.int p1), .val (.int p2), .val (.int p3), .val (.int p4), .val (.int p5), .val (.int ((p0 &&& (2147483647 : Int32)) % (6 : Int32))), .val (.ref b1), .val (.ref r183), .val (.ref r224)] [(.int ((p0 &&& (2147483647 : Int32)) % (6 : Int32))), (.ref r224)])) _
            refine XS.iloadN X222.here hx rfl (hb hby at_144) rfl ?_
            show Steps p.tables e below (T222.setTop (mkF m 145 #[.val (.int p0), .val (.int p1), .val (.int p2), .val (.int p3), .val (.int p4), .val (.int p5), .val (.int ((p0 &&& (2147483647 : Int32)) % (6 : Int32))), .val (.ref b1), .val (.ref r183), .val (.ref r224)] [(.int p1), (.int ((p0 &&& (2147483647 : Int32)) % (6 : Int32))), (.ref r224)])) _
            refine XS.iloadN X222.here hx rfl (hb hby at_145) rfl ?_
            show Steps p.tables e below (T222.setTop (mkF m 146 #[.val (.int p0), .val (.int p1), .val (.int p2), .val (.int p3), .val (.int p4), .val (.int p5), .val (.int ((p0 &&& (2147483647 : Int32)) % (6 : Int32))), .val (.ref b1), .val (.ref r183), .val (.ref r224)] [(.int p2), (.int p1), (.int ((p0 &&& (2147483647 : Int32)) % (6 : Int32))), (.ref r224)])) _
            refine XS.iloadN X222.here hx rfl (hb hby at_146) rfl ?_
            show Steps p.tables e below (T222.setTop (mkF m 147 #[.val (.int p0), .val (.int p1), .val (.int p2), .val (.int p3), .val (.int p4), .val (.int p5), .val (.int ((p0 &&& (2147483647 : Int32)) % (6 : Int32))), .val (.ref b1), .val (.ref r183), .val (.ref r224)] [(.int p3), (.int p2), (.int p1), (.int ((p0 &&& (2147483647 : Int32)) % (6 : Int32))), (.ref r224)])) _
            refine XS.iload X222.here hx rfl (hb hby at_147) rfl ?_
            show Steps p.tables e below (T222.setTop (mkF m 149 #[.val (.int p0), .val (.int p1), .val (.int p2), .val (.int p3), .val (.int p4), .val (.int p5), .val (.int ((p0 &&& (2147483647 : Int32)) % (6 : Int32))), .val (.ref b1), .val (.ref r183), .val (.ref r224)] [(.int p4), (.int p3), (.int p2), (.int p1), (.int ((p0 &&& (2147483647 : Int32)) % (6 : Int32))), (.ref r224)])) _
            refine XS.iload X222.here hx rfl (hb hby at_149) rfl ?_
            show Steps p.tables e below (T222.setTop (mkF m 151 #[.val (.int p0), .val (.int p1), .val (.int p2), .val (.int p3), .val (.int p4), .val (.int p5), .val (.int ((p0 &&& (2147483647 : Int32)) % (6 : Int32))), .val (.ref b1), .val (.ref r183), .val (.ref r224)] [(.int p5), (.int p4), (.int p3), (.int p2), (.int p1), (.int ((p0 &&& (2147483647 : Int32)) % (6 : Int32))), (.ref r224)])) _
            refine st234 _ ?_
            exact kt
          obtain ⟨fs, hr, hrun, hended, hW, hsame⟩ := X234.leave (v := some (.int (1 : Int32))) (fun h => by rw [Bd.returns] at h; cases h)
          refine ⟨_, _, pre237 _ ?_, hrun, hended, _, _, rfl, ?_, ⟨_, rfl⟩, hW, hsame.mono (by decide) (by decide)⟩
          · show Steps p.tables e below (T234.setTop (mkF m 154 #[.val (.int p0), .val (.int p1), .val (.int p2), .val (.int p3), .val (.int p4), .val (.int p5), .val (.int ((p0 &&& (2147483647 : Int32)) % (6 : Int32))), .val (.ref b1), .val (.ref r183), .val (.ref r224)] [(.int (1 : Int32))])) _
            exact retN X234 hx (t := .boolean) Bd.returns (by simp) (hb hby at_154) hr
          · show own_Q_law Z p0 p1 p2 p3 p4 p5 h0 n0 (some (.int (1 : Int32))) T234.heap _
            rw [eq235]
            exact ⟨rfl, nf236⟩
      · have zs238 : n0 ≤ T27.heap.size := Nat.le_trans Z0 k32.1
        obtain ⟨cq240, kq240, q240a, q240b, q240c⟩ := isOf hZ rfl f30
        obtain ⟨_, _, ⟨T239, L239, k239, n239⟩, -, X239, ⟨Lc239, hQ239, l239, y239, z239⟩, st239⟩ := X27.virtualBack hx (y := (⟨"com/example/interleaving/interleaving/store/StateGraph", "initialStates", "()[I"⟩ : MethodName)) (z := (⟨"com/example/interleaving/interleaving/store/StateGraph", "initialStates", "()[I"⟩ : MethodName)) hown (mvT hZ (hw _ (List.mem_of_getElem? (i := 19) rfl))) (mvT hZ (hw _ (List.mem_of_getElem? (i := 20) rfl))) (notFace_of_selects (args := #[]) (mvT hZ (hw _ (List.mem_of_getElem? (i := 22) rfl)))) (mvT hZ (hw _ (List.mem_of_getElem? (i := 22) rfl))) (mvT hZ (hw _ (List.mem_of_getElem? (i := 21) rfl))) (by decide) (backOf (W := 0) (own_rm_ist l Z a0 hw [] b1 bx10 2 16 (own_upd (own_upd (fun _ => 0) 0 p1) 1 p2) T27.heap n0 zs238 c29_0 c29_1 c29_2 (by decide) (by decide) (by decide)) hZ (hw _ (List.mem_of_getElem? (i := 23) rfl)) (hw _ (List.mem_of_getElem? (i := 3) rfl)) (by decide) (by decide)) q240a q240c (g := (mkF m 81 #[.val (.int p0), .val (.int p1), .val (.int p2), .val (.int p3), .val (.int p4), .val (.int p5), .val (.int ((p0 &&& (2147483647 : Int32)) % (6 : Int32))), .val (.ref b1), .unset, .unset] [(.ref b1)])) rfl (by rw [hml]; rfl) (Steps.refl _) (argsL := []) (rest := []) (lenOf own_pd4 rfl) rfl (by show 2 * 0 + _ ≤ _; exact Nat.le_of_eq rfl) (hb hby at_81) (fun _ _ => ⟨rfl, rfl, (by decide : 4 + 1 ≤ _), (by decide : 2072 + 32 ≤ _)⟩)
        dsimp only [Pt.U, Pt.locs, Pt.cells, Pt.slots] at X239 l239 y239 z239 st239 hQ239
        rw [l239, (y239 : k239 = 5), (z239 : n239 = 2104)] at X239
        clear l239 y239 z239
        obtain ⟨r241, rfl, N241, K241, c241_0, c241_1⟩ := hQ239
        have sz_r241 : h0.size ≤ r241 := Nat.le_trans k32.1 c241_0
        have gn_r241 : n0 ≤ r241 := Nat.le_trans Z0 sz_r241
        have ne_b1_r241 : b1 ≠ r241 := Nat.ne_of_lt (Nat.lt_of_lt_of_le c29_1.lt c241_0)
        have ne_bx10_r241 : bx10 ≠ r241 := Nat.ne_of_lt (Nat.lt_of_lt_of_le c29_2.lt c241_0)
        have f242 := f30.keep K241
        have f243 := f31.keep K241
        have f244 := c29_0.keep K241 nin0
        have f245 := c29_1.keep K241 nin0
        have f246 := c29_2.keep K241 nin0
        have k247 := k32.trans K241 all0
        have nf248 := Fr.app nf33 N241
        have pre249 : ∀ t, Steps p.tables e below (T239.setTop (mkF m 90 #[.val (.int p0), .val (.int p1), .val (.int p2), .val (.int p3), .val (.int p4), .val (.int p5), .val (.int ((p0 &&& (2147483647 : Int32)) % (6 : Int32))), .val (.ref b1), .val (.ref r241), .unset] [(.int ((p0 &&& (2147483647 : Int32)) % (6 : Int32))), (.ref r241)])) t → Steps p.tables e below (s₁.setTop (entryFrame m #[(.int p0), (.int p1), (.int p2), (.int p3), (.int p4), (.int p5)] maxLocals)) t := by
          intro t kt
          refine pre34 t ?_
          show Steps p.tables e below (T27.setTop (mkF m 44 #[.val (.int p0), .val (.int p1), .val (.int p2), .val (.int p3), .val (.int p4), .val (.int p5), .val (.int ((p0 &&& (2147483647 : Int32)) % (6 : Int32))), .val (.ref b1), .unset, .unset] [(.int (2 : Int32)), (.int ((p0 &&& (2147483647 : Int32)) % (6 : Int32)))])) _
          refine XS.icmpYes X27.here hx rfl (pc0 := 44) (pc' := 53) rfl (hb hby at_44) rfl (flt hc35).2.2.2 (by decide) (by decide) ?_
          show Steps p.tables e below (T27.setTop (mkF m 53 #[.val (.int p0), .val (.int p1), .val (.int p2), .val (.int p3), .val (.int p4), .val (.int p5), .val (.int ((p0 &&& (2147483647 : Int32)) % (6 : Int32))), .val (.ref b1), .unset, .unset] [])) _
          refine XS.iload X27.here hx rfl (hb hby at_53) rfl ?_
          show Steps p.tables e below (T27.setTop (mkF m 55 #[.val (.int p0), .val (.int p1), .val (.int p2), .val (.int p3), .val (.int p4), .val (.int p5), .val (.int ((p0 &&& (2147483647 : Int32)) % (6 : Int32))), .val (.ref b1), .unset, .unset] [(.int ((p0 &&& (2147483647 : Int32)) % (6 : Int32)))])) _
          refine XS.iconst X27.here hx rfl (hb hby at_55) ?_
          show Steps p.tables e below (T27.setTop (mkF m 56 #[.val (.int p0), .val (.int p1), .val (.int p2), .val (.int p3), .val (.int p4), .val (.int p5), .val (.int ((p0 &&& (2147483647 : Int32)) % (6 : Int32))), .val (.ref b1), .unset, .unset] [(.int (3 : Int32)), (.int ((p0 &&& (2147483647 : Int32)) % (6 : Int32)))])) _
          refine XS.icmpYes X27.here hx rfl (pc0 := 56) (pc' := 66) rfl (hb hby at_56) rfl (flt (own_no (2 : Int32) (3 : Int32) hc35 (by decide))).2.2.2 (by decide) (by decide) ?_
          show Steps p.tables e below (T27.setTop (mkF m 66 #[.val (.int p0), .val (.int p1), .val (.int p2), .val (.int p3), .val (.int p4), .val (.int p5), .val (.int ((p0 &&& (2147483647 : Int32)) % (6 : Int32))), .val (.ref b1), .unset, .unset] [])) _
          refine XS.iload X27.here hx rfl (hb hby at_66) rfl ?_
          show Steps p.tables e below (T27.setTop (mkF m 68 #[.val (.int p0), .val (.int p1), .val (.int p2), .val (.int p3), .val (.int p4), .val (.int p5), .val (.int ((p0 &&& (2147483647 : Int32)) % (6 : Int32))), .val (.ref b1), .unset, .unset] [(.int ((p0 &&& (2147483647 : Int32)) % (6 : Int32)))])) _
          refine XS.iconst X27.here hx rfl (hb hby at_68) ?_
          show Steps p.tables e below (T27.setTop (mkF m 69 #[.val (.int p0), .val (.int p1), .val (.int p2), .val (.int p3), .val (.int p4), .val (.int p5), .val (.int ((p0 &&& (2147483647 : Int32)) % (6 : Int32))), .val (.ref b1), .unset, .unset] [(.int (4 : Int32)), (.int ((p0 &&& (2147483647 : Int32)) % (6 : Int32)))])) _
          refine XS.icmpYes X27.here hx rfl (pc0 := 69) (pc' := 79) rfl (hb hby at_69) rfl (flt (own_no (3 : Int32) (4 : Int32) (own_no (2 : Int32) (3 : Int32) hc35 (by decide)) (by decide))).2.2.2 (by decide) (by decide) ?_
          show Steps p.tables e below (T27.setTop (mkF m 79 #[.val (.int p0), .val (.int p1), .val (.int p2), .val (.int p3), .val (.int p4), .val (.int p5), .val (.int ((p0 &&& (2147483647 : Int32)) % (6 : Int32))), .val (.ref b1), .unset, .unset] [])) _
          refine XS.aload X27.here hx rfl (hb hby at_79) rfl rfl ?_
          show Steps p.tables e below (T27.setTop (mkF m 81 #[.val (.int p0), .val (.int p1), .val (.int p2), .val (.int p3), .val (.int p4), .val (.int p5), .val (.int ((p0 &&& (2147483647 : Int32)) % (6 : Int32))), .val (.ref b1), .unset, .unset] [(.ref b1)])) _
          refine st239.trans ?_
          show Steps p.tables e below (T239.setTop (mkF m 84 #[.val (.int p0), .val (.int p1), .val (.int p2), .val (.int p3), .val (.int p4), .val (.int p5), .val (.int ((p0 &&& (2147483647 : Int32)) % (6 : Int32))), .val (.ref b1), .unset, .unset] [(.ref r241)])) _
          refine XS.astore X239.here hx rfl (hb hby at_84) rfl rfl (l' := #[.val (.int p0), .val (.int p1), .val (.int p2), .val (.int p3), .val (.int p4), .val (.int p5), .val (.int ((p0 &&& (2147483647 : Int32)) % (6 : Int32))), .val (.ref b1), .val (.ref r241), .unset]) rfl ?_
          show Steps p.tables e below (T239.setTop (mkF m 86 #[.val (.int p0), .val (.int p1), .val (.int p2), .val (.int p3), .val (.int p4), .val (.int p5), .val (.int ((p0 &&& (2147483647 : Int32)) % (6 : Int32))), .val (.ref b1), .val (.ref r241), .unset] [])) _
          refine XS.aload X239.here hx rfl (hb hby at_86) rfl rfl ?_
          show Steps p.tables e below (T239.setTop (mkF m 88 #[.val (.int p0), .val (.int p1), .val (.int p2), .val (.int p3), .val (.int p4), .val (.int p5), .val (.int ((p0 &&& (2147483647 : Int32)) % (6 : Int32))), .val (.ref b1), .val (.ref r241), .unset] [(.ref r241)])) _
          refine XS.iload X239.here hx rfl (hb hby at_88) rfl ?_
          exact kt
        have zs250 : n0 ≤ T239.heap.size := Nat.le_trans Z0 k247.1
        obtain ⟨_, _, ⟨T251, L251, k251, n251⟩, -, X251, ⟨Lc251, hQ251, l251, y251, z251⟩, st251⟩ := Jvm.LawKit.callS X239 hx (y := (⟨"com/example/interleaving/interleaving/store/StateGraphInitialStatesPinLaw", "matches", "([IIIIIII)Z"⟩ : MethodName)) hown (mvT hZ (hw _ (List.mem_of_getElem? (i := 38) rfl))) (mvT hZ (hw _ (List.mem_of_getElem? (i := 39) rfl))) (mvT hZ (hw _ (List.mem_of_getElem? (i := 40) rfl))) (mvT hZ (hw _ (List.mem_of_getElem? (i := 41) rfl))) (by decide) (backOf (W := 0) (own_rm_mt l Z a0 hw [] r241 ((p0 &&& (2147483647 : Int32)) % (6 : Int32)) p1 p2 p3 p4 p5 2 (own_upd (own_upd (fun _ => 0) 0 p1) 1 p2) T239.heap n0 zs250 c241_1 (own_kN 1 (by decide) hc25 (own_le 1 (by decide) hc35)) (by decide) (fun j hj => by rcases j with _ | _ | j <;> first | rfl | omega)) hZ (hw _ (List.mem_of_getElem? (i := 41) rfl)) (hw _ (List.mem_of_getElem? (i := 40) rfl)) (by decide) (by decide)) (g := (mkF m 97 #[.val (.int p0), .val (.int p1), .val (.int p2), .val (.int p3), .val (.int p4), .val (.int p5), .val (.int ((p0 &&& (2147483647 : Int32)) % (6 : Int32))), .val (.ref b1), .val (.ref r241), .unset] [(.int p5), (.int p4), (.int p3), (.int p2), (.int p1), (.int ((p0 &&& (2147483647 : Int32)) % (6 : Int32))), (.ref r241)])) rfl (by rw [hml]; rfl) (argsL := [(.ref r241), (.int ((p0 &&& (2147483647 : Int32)) % (6 : Int32))), (.int p1), (.int p2), (.int p3), (.int p4), (.int p5)]) (rest := []) (lenOf own_pd5 rfl) rfl (by show 2 * 0 + _ ≤ _; exact Nat.le_of_eq rfl) (hb hby at_97) (fun _ _ => ⟨rfl, rfl, (by decide : 5 + 0 ≤ _), (by decide : 2104 + 0 ≤ _)⟩)
        dsimp only [Pt.U, Pt.locs, Pt.cells, Pt.slots] at X251 l251 y251 z251 st251 hQ251
        rw [l251, (y251 : k251 = 5), (z251 : n251 = 2104)] at X251
        clear l251 y251 z251
        obtain ⟨rfl, N252, eq252⟩ := hQ251
        have nf253 := Fr.app nf248 N252
        have pre254 : ∀ t, Steps p.tables e below (T251.setTop (mkF m 114 #[.val (.int p0), .val (.int p1), .val (.int p2), .val (.int p3), .val (.int p4), .val (.int p5), .val (.int ((p0 &&& (2147483647 : Int32)) % (6 : Int32))), .val (.ref b1), .val (.ref r241), .unset] [(.int p1), (.int (0 : Int32)), (.ref r241)])) t → Steps p.tables e below (s₁.setTop (entryFrame m #[(.int p0), (.int p1), (.int p2), (.int p3), (.int p4), (.int p5)] maxLocals)) t := by
          intro t kt
          refine pre249 t ?_
          show Steps p.tables e below (T239.setTop (mkF m 90 #[.val (.int p0), .val (.int p1), .val (.int p2), .val (.int p3), .val (.int p4), .val (.int p5), .val (.int ((p0 &&& (2147483647 : Int32)) % (6 : Int32))), .val (.ref b1), .val (.ref r241), .unset] [(.int ((p0 &&& (2147483647 : Int32)) % (6 : Int32))), (.ref r241)])) _
          refine XS.iloadN X239.here hx rfl (hb hby at_90) rfl ?_
          show Steps p.tables e below (T239.setTop (mkF m 91 #[.val (.int p0), .val (.int p1), .val (.int p2), .val (.int p3), .val (.int p4), .val (.int p5), .val (.int ((p0 &&& (2147483647 : Int32)) % (6 : Int32))), .val (.ref b1), .val (.ref r241), .unset] [(.int p1), (.int ((p0 &&& (2147483647 : Int32)) % (6 : Int32))), (.ref r241)])) _
          refine XS.iloadN X239.here hx rfl (hb hby at_91) rfl ?_
          show Steps p.tables e below (T239.setTop (mkF m 92 #[.val (.int p0), .val (.int p1), .val (.int p2), .val (.int p3), .val (.int p4), .val (.int p5), .val (.int ((p0 &&& (2147483647 : Int32)) % (6 : Int32))), .val (.ref b1), .val (.ref r241), .unset] [(.int p2), (.int p1), (.int ((p0 &&& (2147483647 : Int32)) % (6 : Int32))), (.ref r241)])) _
          refine XS.iloadN X239.here hx rfl (hb hby at_92) rfl ?_
          show Steps p.tables e below (T239.setTop (mkF m 93 #[.val (.int p0), .val (.int p1), .val (.int p2), .val (.int p3), .val (.int p4), .val (.int p5), .val (.int ((p0 &&& (2147483647 : Int32)) % (6 : Int32))), .val (.ref b1), .val (.ref r241), .unset] [(.int p3), (.int p2), (.int p1), (.int ((p0 &&& (2147483647 : Int32)) % (6 : Int32))), (.ref r241)])) _
          refine XS.iload X239.here hx rfl (hb hby at_93) rfl ?_
          show Steps p.tables e below (T239.setTop (mkF m 95 #[.val (.int p0), .val (.int p1), .val (.int p2), .val (.int p3), .val (.int p4), .val (.int p5), .val (.int ((p0 &&& (2147483647 : Int32)) % (6 : Int32))), .val (.ref b1), .val (.ref r241), .unset] [(.int p4), (.int p3), (.int p2), (.int p1), (.int ((p0 &&& (2147483647 : Int32)) % (6 : Int32))), (.ref r241)])) _
          refine XS.iload X239.here hx rfl (hb hby at_95) rfl ?_
          show Steps p.tables e below (T239.setTop (mkF m 97 #[.val (.int p0), .val (.int p1), .val (.int p2), .val (.int p3), .val (.int p4), .val (.int p5), .val (.int ((p0 &&& (2147483647 : Int32)) % (6 : Int32))), .val (.ref b1), .val (.ref r241), .unset] [(.int p5), (.int p4), (.int p3), (.int p2), (.int p1), (.int ((p0 &&& (2147483647 : Int32)) % (6 : Int32))), (.ref r241)])) _
          refine st251 _ ?_
          show Steps p.tables e below (T251.setTop (mkF m 100 #[.val (.int p0), .val (.int p1), .val (.int p2), .val (.int p3), .val (.int p4), .val (.int p5), .val (.int ((p0 &&& (2147483647 : Int32)) % (6 : Int32))), .val (.ref b1), .val (.ref r241), .unset] [(.int (1 : Int32))])) _
          refine XS.ifYes X251.here hx rfl (pc0 := 100) (pc' := 105) rfl (hb hby at_100) rfl ((if0 _ _).trans (feq (by decide : ¬ ((1 : Int32) = (0 : Int32)))).2) (by decide) (by decide) ?_
          show Steps p.tables e below (T251.setTop (mkF m 105 #[.val (.int p0), .val (.int p1), .val (.int p2), .val (.int p3), .val (.int p4), .val (.int p5), .val (.int ((p0 &&& (2147483647 : Int32)) % (6 : Int32))), .val (.ref b1), .val (.ref r241), .unset] [])) _
          refine XS.iload X251.here hx rfl (hb hby at_105) rfl ?_
          show Steps p.tables e below (T251.setTop (mkF m 107 #[.val (.int p0), .val (.int p1), .val (.int p2), .val (.int p3), .val (.int p4), .val (.int p5), .val (.int ((p0 &&& (2147483647 : Int32)) % (6 : Int32))), .val (.ref b1), .val (.ref r241), .unset] [(.int ((p0 &&& (2147483647 : Int32)) % (6 : Int32)))])) _
          refine XS.ifNo X251.here hx rfl (hb hby at_107) rfl ((if0 _ _).trans (tlt hc15).2.2.2) ?_
          show Steps p.tables e below (T251.setTop (mkF m 110 #[.val (.int p0), .val (.int p1), .val (.int p2), .val (.int p3), .val (.int p4), .val (.int p5), .val (.int ((p0 &&& (2147483647 : Int32)) % (6 : Int32))), .val (.ref b1), .val (.ref r241), .unset] [])) _
          refine XS.aload X251.here hx rfl (hb hby at_110) rfl rfl ?_
          show Steps p.tables e below (T251.setTop (mkF m 112 #[.val (.int p0), .val (.int p1), .val (.int p2), .val (.int p3), .val (.int p4), .val (.int p5), .val (.int ((p0 &&& (2147483647 : Int32)) % (6 : Int32))), .val (.ref b1), .val (.ref r241), .unset] [(.ref r241)])) _
          refine XS.iconst X251.here hx rfl (hb hby at_112) ?_
          show Steps p.tables e below (T251.setTop (mkF m 113 #[.val (.int p0), .val (.int p1), .val (.int p2), .val (.int p3), .val (.int p4), .val (.int p5), .val (.int ((p0 &&& (2147483647 : Int32)) % (6 : Int32))), .val (.ref b1), .val (.ref r241), .unset] [(.int (0 : Int32)), (.ref r241)])) _
          refine XS.iloadN X251.here hx rfl (hb hby at_113) rfl ?_
          exact kt
        obtain ⟨cl255, Ar255, S255, H255⟩ := id c241_1
        have hin255 : ¬ ((0 : Int32) < 0 ∨ cl255.slots.size ≤ ((0 : Int32)).toNatClampNeg) := own_inb S255 (by decide) (by decide)
        obtain ⟨T256, h256, X256, e256, W256, st256⟩ := stI X251 hx hZ eq252 Ar255 (j := (0 : Int32)) hin255 (g := (mkF m 116 #[.val (.int p0), .val (.int p1), .val (.int p2), .val (.int p3), .val (.int p4), .val (.int p5), .val (.int ((p0 &&& (2147483647 : Int32)) % (6 : Int32))), .val (.ref b1), .val (.ref r241), .unset] [(.int (p1 ^^^ (1 : Int32))), (.int (0 : Int32)), (.ref r241)])) rfl rfl (hb hby at_116)
        have f257 := f242.wr W256
        have f258 := f243.wr W256
        have f259 := f244.other W256 (Or.inl ne_b1_r241)
        have f260 := f245.other W256 (Or.inl ne_b1_r241)
        have f261 := f246.other W256 ne_bx10_r241
        have k263 := k247.wr W256 (Or.inr sz_r241)
        have nf264 := Fr.snoc X256 nf253 gn_r241
        have f265 := c241_1.set W256
        obtain ⟨cl266, Ar266, S266, H266⟩ := id f265
        have hin266 : ¬ ((((p0 &&& (2147483647 : Int32)) % (6 : Int32)) - (1 : Int32)) < 0 ∨ cl266.slots.size ≤ ((((p0 &&& (2147483647 : Int32)) % (6 : Int32)) - (1 : Int32))).toNatClampNeg) := own_inb S266 (by rw [(own_kN 1 (by decide) hc25 (own_le 1 (by decide) hc35))]; decide) (by rw [(own_kN 1 (by decide) hc25 (own_le 1 (by decide) hc35))]; decide)
        have hat266 : cl266.slots[((((p0 &&& (2147483647 : Int32)) % (6 : Int32)) - (1 : Int32))).toNatClampNeg]? = some (.int ((own_upd (own_upd (own_upd (fun _ => 0) 0 p1) 1 p2) ((0 : Int32)).toNatClampNeg (p1 ^^^ (1 : Int32))) ((((p0 &&& (2147483647 : Int32)) % (6 : Int32)) - (1 : Int32))).toNatClampNeg)) := H266 _ (by rw [(own_kN 1 (by decide) hc25 (own_le 1 (by decide) hc35))]; decide)
        have pre267 : ∀ t, Steps p.tables e below (T256.setTop (mkF m 130 #[.val (.int p0), .val (.int p1), .val (.int p2), .val (.int p3), .val (.int p4), .val (.int p5), .val (.int ((p0 &&& (2147483647 : Int32)) % (6 : Int32))), .val (.ref b1), .val (.ref r241), .unset] [(.int ((own_upd (own_upd (own_upd (fun _ => 0) 0 p1) 1 p2) ((0 : Int32)).toNatClampNeg (p1 ^^^ (1 : Int32))) ((((p0 &&& (2147483647 : Int32)) % (6 : Int32)) - (1 : Int32))).toNatClampNeg)), (.int (((p0 &&& (2147483647 : Int32)) % (6 : Int32)) - (1 : Int32))), (.ref r241)])) t → Steps p.tables e below (s₁.setTop (entryFrame m #[(.int p0), (.int p1), (.int p2), (.int p3), (.int p4), (.int p5)] maxLocals)) t := by
          intro t kt
          refine pre254 t ?_
          show Steps p.tables e below (T251.setTop (mkF m 114 #[.val (.int p0), .val (.int p1), .val (.int p2), .val (.int p3), .val (.int p4), .val (.int p5), .val (.int ((p0 &&& (2147483647 : Int32)) % (6 : Int32))), .val (.ref b1), .val (.ref r241), .unset] [(.int p1), (.int (0 : Int32)), (.ref r241)])) _
          refine XS.iconst X251.here hx rfl (hb hby at_114) ?_
          show Steps p.tables e below (T251.setTop (mkF m 115 #[.val (.int p0), .val (.int p1), .val (.int p2), .val (.int p3), .val (.int p4), .val (.int p5), .val (.int ((p0 &&& (2147483647 : Int32)) % (6 : Int32))), .val (.ref b1), .val (.ref r241), .unset] [(.int (1 : Int32)), (.int p1), (.int (0 : Int32)), (.ref r241)])) _
          refine XS.ixor X251.here hx rfl (hb hby at_115) rfl ?_
          show Steps p.tables e below (T251.setTop (mkF m 116 #[.val (.int p0), .val (.int p1), .val (.int p2), .val (.int p3), .val (.int p4), .val (.int p5), .val (.int ((p0 &&& (2147483647 : Int32)) % (6 : Int32))), .val (.ref b1), .val (.ref r241), .unset] [(.int (p1 ^^^ (1 : Int32))), (.int (0 : Int32)), (.ref r241)])) _
          refine st256 _ ?_
          show Steps p.tables e below (T256.setTop (mkF m 117 #[.val (.int p0), .val (.int p1), .val (.int p2), .val (.int p3), .val (.int p4), .val (.int p5), .val (.int ((p0 &&& (2147483647 : Int32)) % (6 : Int32))), .val (.ref b1), .val (.ref r241), .unset] [])) _
          refine XS.aload X256.here hx rfl (hb hby at_117) rfl rfl ?_
          show Steps p.tables e below (T256.setTop (mkF m 119 #[.val (.int p0), .val (.int p1), .val (.int p2), .val (.int p3), .val (.int p4), .val (.int p5), .val (.int ((p0 &&& (2147483647 : Int32)) % (6 : Int32))), .val (.ref b1), .val (.ref r241), .unset] [(.ref r241)])) _
          refine XS.iload X256.here hx rfl (hb hby at_119) rfl ?_
          show Steps p.tables e below (T256.setTop (mkF m 121 #[.val (.int p0), .val (.int p1), .val (.int p2), .val (.int p3), .val (.int p4), .val (.int p5), .val (.int ((p0 &&& (2147483647 : Int32)) % (6 : Int32))), .val (.ref b1), .val (.ref r241), .unset] [(.int ((p0 &&& (2147483647 : Int32)) % (6 : Int32))), (.ref r241)])) _
          refine XS.iconst X256.here hx rfl (hb hby at_121) ?_
          show Steps p.tables e below (T256.setTop (mkF m 122 #[.val (.int p0), .val (.int p1), .val (.int p2), .val (.int p3), .val (.int p4), .val (.int p5), .val (.int ((p0 &&& (2147483647 : Int32)) % (6 : Int32))), .val (.ref b1), .val (.ref r241), .unset] [(.int (1 : Int32)), (.int ((p0 &&& (2147483647 : Int32)) % (6 : Int32))), (.ref r241)])) _
          refine XS.isub X256.here hx rfl (hb hby at_122) rfl ?_
          show Steps p.tables e below (T256.setTop (mkF m 123 #[.val (.int p0), .val (.int p1), .val (.int p2), .val (.int p3), .val (.int p4), .val (.int p5), .val (.int ((p0 &&& (2147483647 : Int32)) % (6 : Int32))), .val (.ref b1), .val (.ref r241), .unset] [(.int (((p0 &&& (2147483647 : Int32)) % (6 : Int32)) - (1 : Int32))), (.ref r241)])) _
          refine XS.aload X256.here hx rfl (hb hby at_123) rfl rfl ?_
          show Steps p.tables e below (T256.setTop (mkF m 125 #[.val (.int p0), .val (.int p1), .val (.int p2), .val (.int p3), .val (.int p4), .val (.int p5), .val (.int ((p0 &&& (2147483647 : Int32)) % (6 : Int32))), .val (.ref b1), .val (.ref r241), .unset] [(.ref r241), (.int (((p0 &&& (2147483647 : Int32)) % (6 : Int32)) - (1 : Int32))), (.ref r241)])) _
          refine XS.iload X256.here hx rfl (hb hby at_125) rfl ?_
          show Steps p.tables e below (T256.setTop (mkF m 127 #[.val (.int p0), .val (.int p1), .val (.int p2), .val (.int p3), .val (.int p4), .val (.int p5), .val (.int ((p0 &&& (2147483647 : Int32)) % (6 : Int32))), .val (.ref b1), .val (.ref r241), .unset] [(.int ((p0 &&& (2147483647 : Int32)) % (6 : Int32))), (.ref r241), (.int (((p0 &&& (2147483647 : Int32)) % (6 : Int32)) - (1 : Int32))), (.ref r241)])) _
          refine XS.iconst X256.here hx rfl (hb hby at_127) ?_
          show Steps p.tables e below (T256.setTop (mkF m 128 #[.val (.int p0), .val (.int p1), .val (.int p2), .val (.int p3), .val (.int p4), .val (.int p5), .val (.int ((p0 &&& (2147483647 : Int32)) % (6 : Int32))), .val (.ref b1), .val (.ref r241), .unset] [(.int (1 : Int32)), (.int ((p0 &&& (2147483647 : Int32)) % (6 : Int32))), (.ref r241), (.int (((p0 &&& (2147483647 : Int32)) % (6 : Int32)) - (1 : Int32))), (.ref r241)])) _
          refine XS.isub X256.here hx rfl (hb hby at_128) rfl ?_
          show Steps p.tables e below (T256.setTop (mkF m 129 #[.val (.int p0), .val (.int p1), .val (.int p2), .val (.int p3), .val (.int p4), .val (.int p5), .val (.int ((p0 &&& (2147483647 : Int32)) % (6 : Int32))), .val (.ref b1), .val (.ref r241), .unset] [(.int (((p0 &&& (2147483647 : Int32)) % (6 : Int32)) - (1 : Int32))), (.ref r241), (.int (((p0 &&& (2147483647 : Int32)) % (6 : Int32)) - (1 : Int32))), (.ref r241)])) _
          refine X256.iaload hx (j := (((p0 &&& (2147483647 : Int32)) % (6 : Int32)) - (1 : Int32))) (v := (.int ((own_upd (own_upd (own_upd (fun _ => 0) 0 p1) 1 p2) ((0 : Int32)).toNatClampNeg (p1 ^^^ (1 : Int32))) ((((p0 &&& (2147483647 : Int32)) % (6 : Int32)) - (1 : Int32))).toNatClampNeg))) (by rw [e256]; exact Ar266.1) (State.isArrayOf_alike hZ.alike Ar266.2.1) Ar266.2.2 hin266 hat266 (g := (mkF m 129 #[.val (.int p0), .val (.int p1), .val (.int p2), .val (.int p3), .val (.int p4), .val (.int p5), .val (.int ((p0 &&& (2147483647 : Int32)) % (6 : Int32))), .val (.ref b1), .val (.ref r241), .unset] [(.int (((p0 &&& (2147483647 : Int32)) % (6 : Int32)) - (1 : Int32))), (.ref r241), (.int (((p0 &&& (2147483647 : Int32)) % (6 : Int32)) - (1 : Int32))), (.ref r241)])) rfl rfl (hb hby at_129) _ ?_
          exact kt
        obtain ⟨cl268, Ar268, S268, H268⟩ := id f265
        have hin268 : ¬ ((((p0 &&& (2147483647 : Int32)) % (6 : Int32)) - (1 : Int32)) < 0 ∨ cl268.slots.size ≤ ((((p0 &&& (2147483647 : Int32)) % (6 : Int32)) - (1 : Int32))).toNatClampNeg) := own_inb S268 (by rw [(own_kN 1 (by decide) hc25 (own_le 1 (by decide) hc35))]; decide) (by rw [(own_kN 1 (by decide) hc25 (own_le 1 (by decide) hc35))]; decide)
        obtain ⟨T269, h269, X269, e269, W269, st269⟩ := stI X256 hx hZ e256 Ar268 (j := (((p0 &&& (2147483647 : Int32)) % (6 : Int32)) - (1 : Int32))) hin268 (g := (mkF m 132 #[.val (.int p0), .val (.int p1), .val (.int p2), .val (.int p3), .val (.int p4), .val (.int p5), .val (.int ((p0 &&& (2147483647 : Int32)) % (6 : Int32))), .val (.ref b1), .val (.ref r241), .unset] [(.int (((own_upd (own_upd (own_upd (fun _ => 0) 0 p1) 1 p2) ((0 : Int32)).toNatClampNeg (p1 ^^^ (1 : Int32))) ((((p0 &&& (2147483647 : Int32)) % (6 : Int32)) - (1 : Int32))).toNatClampNeg) ^^^ (2 : Int32))), (.int (((p0 &&& (2147483647 : Int32)) % (6 : Int32)) - (1 : Int32))), (.ref r241)])) rfl rfl (hb hby at_132)
        have f270 := f257.wr W269
        have f271 := f258.wr W269
        have f272 := f259.other W269 (Or.inl ne_b1_r241)
        have f273 := f260.other W269 (Or.inl ne_b1_r241)
        have f274 := f261.other W269 ne_bx10_r241
        have k276 := k263.wr W269 (Or.inr sz_r241)
        have nf277 := Fr.snoc X269 nf264 gn_r241
        have f278 := f265.set W269
        have zs279 : n0 ≤ h269.size := Nat.le_trans Z0 k276.1
        obtain ⟨cq281, kq281, q281a, q281b, q281c⟩ := isOf hZ e269 f270
        obtain ⟨_, _, ⟨T280, L280, k280, n280⟩, -, X280, ⟨Lc280, hQ280, l280, y280, z280⟩, st280⟩ := X269.virtualBack hx (y := (⟨"com/example/interleaving/interleaving/store/StateGraph", "initialStates", "()[I"⟩ : MethodName)) (z := (⟨"com/example/interleaving/interleaving/store/StateGraph", "initialStates", "()[I"⟩ : MethodName)) hown (mvT hZ (hw _ (List.mem_of_getElem? (i := 19) rfl))) (mvT hZ (hw _ (List.mem_of_getElem? (i := 20) rfl))) (notFace_of_selects (args := #[]) (mvT hZ (hw _ (List.mem_of_getElem? (i := 22) rfl)))) (mvT hZ (hw _ (List.mem_of_getElem? (i := 22) rfl))) (mvT hZ (hw _ (List.mem_of_getElem? (i := 21) rfl))) (by decide) (backOf (W := 0) (own_rm_ist l Z a0 hw [] b1 bx10 2 16 (own_upd (own_upd (fun _ => 0) 0 p1) 1 p2) h269 n0 zs279 f272 f273 f274 (by decide) (by decide) (by decide)) hZ (hw _ (List.mem_of_getElem? (i := 23) rfl)) (hw _ (List.mem_of_getElem? (i := 3) rfl)) (by decide) (by decide)) q281a q281c (g := (mkF m 135 #[.val (.int p0), .val (.int p1), .val (.int p2), .val (.int p3), .val (.int p4), .val (.int p5), .val (.int ((p0 &&& (2147483647 : Int32)) % (6 : Int32))), .val (.ref b1), .val (.ref r241), .unset] [(.ref b1)])) rfl (by rw [hml]; rfl) (Steps.refl _) (argsL := []) (rest := []) (lenOf own_pd4 rfl) rfl (by show 2 * 0 + _ ≤ _; exact Nat.le_of_eq rfl) (hb hby at_135) (fun _ _ => ⟨rfl, e269, (by decide : 5 + 1 ≤ _), (by decide : 2104 + 32 ≤ _)⟩)
        dsimp only [Pt.U, Pt.locs, Pt.cells, Pt.slots] at X280 l280 y280 z280 st280 hQ280
        rw [l280, (y280 : k280 = 6), (z280 : n280 = 2136)] at X280
        clear l280 y280 z280
        obtain ⟨r282, rfl, N282, K282, c282_0, c282_1⟩ := hQ280
        have sz_r282 : h0.size ≤ r282 := Nat.le_trans k276.1 c282_0
        have gn_r282 : n0 ≤ r282 := Nat.le_trans Z0 sz_r282
        have ne_b1_r282 : b1 ≠ r282 := Nat.ne_of_lt (Nat.lt_of_lt_of_le f273.lt c282_0)
        have ne_bx10_r282 : bx10 ≠ r282 := Nat.ne_of_lt (Nat.lt_of_lt_of_le f274.lt c282_0)
        have ne_r241_r282 : r241 ≠ r282 := Nat.ne_of_lt (Nat.lt_of_lt_of_le f278.lt c282_0)
        have f283 := f270.keep K282
        have f284 := f271.keep K282
        have f285 := f272.keep K282 nin0
        have f286 := f273.keep K282 nin0
        have f287 := f274.keep K282 nin0
        have f288 := f278.keep K282 nin0
        have k289 := k276.trans K282 all0
        have nf290 := Fr.app nf277 N282
        have pre291 : ∀ t, Steps p.tables e below (T280.setTop (mkF m 149 #[.val (.int p0), .val (.int p1), .val (.int p2), .val (.int p3), .val (.int p4), .val (.int p5), .val (.int ((p0 &&& (2147483647 : Int32)) % (6 : Int32))), .val (.ref b1), .val (.ref r241), .val (.ref r282)] [(.int p4), (.int p3), (.int p2), (.int p1), (.int ((p0 &&& (2147483647 : Int32)) % (6 : Int32))), (.ref r282)])) t → Steps p.tables e below (s₁.setTop (entryFrame m #[(.int p0), (.int p1), (.int p2), (.int p3), (.int p4), (.int p5)] maxLocals)) t := by
          intro t kt
          refine pre267 t ?_
          show Steps p.tables e below (T256.setTop (mkF m 130 #[.val (.int p0), .val (.int p1), .val (.int p2), .val (.int p3), .val (.int p4), .val (.int p5), .val (.int ((p0 &&& (2147483647 : Int32)) % (6 : Int32))), .val (.ref b1), .val (.ref r241), .unset] [(.int ((own_upd (own_upd (own_upd (fun _ => 0) 0 p1) 1 p2) ((0 : Int32)).toNatClampNeg (p1 ^^^ (1 : Int32))) ((((p0 &&& (2147483647 : Int32)) % (6 : Int32)) - (1 : Int32))).toNatClampNeg)), (.int (((p0 &&& (2147483647 : Int32)) % (6 : Int32)) - (1 : Int32))), (.ref r241)])) _
          refine XS.iconst X256.here hx rfl (hb hby at_130) ?_
          show Steps p.tables e below (T256.setTop (mkF m 131 #[.val (.int p0), .val (.int p1), .val (.int p2), .val (.int p3), .val (.int p4), .val (.int p5), .val (.int ((p0 &&& (2147483647 : Int32)) % (6 : Int32))), .val (.ref b1), .val (.ref r241), .unset] [(.int (2 : Int32)), (.int ((own_upd (own_upd (own_upd (fun _ => 0) 0 p1) 1 p2) ((0 : Int32)).toNatClampNeg (p1 ^^^ (1 : Int32))) ((((p0 &&& (2147483647 : Int32)) % (6 : Int32)) - (1 : Int32))).toNatClampNeg)), (.int (((p0 &&& (2147483647 : Int32)) % (6 : Int32)) - (1 : Int32))), (.ref r241)])) _
          refine XS.ixor X256.here hx rfl (hb hby at_131) rfl ?_
          show Steps p.tables e below (T256.setTop (mkF m 132 #[.val (.int p0), .val (.int p1), .val (.int p2), .val (.int p3), .val (.int p4), .val (.int p5), .val (.int ((p0 &&& (2147483647 : Int32)) % (6 : Int32))), .val (.ref b1), .val (.ref r241), .unset] [(.int (((own_upd (own_upd (own_upd (fun _ => 0) 0 p1) 1 p2) ((0 : Int32)).toNatClampNeg (p1 ^^^ (1 : Int32))) ((((p0 &&& (2147483647 : Int32)) % (6 : Int32)) - (1 : Int32))).toNatClampNeg) ^^^ (2 : Int32))), (.int (((p0 &&& (2147483647 : Int32)) % (6 : Int32)) - (1 : Int32))), (.ref r241)])) _
          refine st269 _ ?_
          show Steps p.tables e below (T269.setTop (mkF m 133 #[.val (.int p0), .val (.int p1), .val (.int p2), .val (.int p3), .val (.int p4), .val (.int p5), .val (.int ((p0 &&& (2147483647 : Int32)) % (6 : Int32))), .val (.ref b1), .val (.ref r241), .unset] [])) _
          refine XS.aload X269.here hx rfl (hb hby at_133) rfl rfl ?_
          show Steps p.tables e below (T269.setTop (mkF m 135 #[.val (.int p0), .val (.int p1), .val (.int p2), .val (.int p3), .val (.int p4), .val (.int p5), .val (.int ((p0 &&& (2147483647 : Int32)) % (6 : Int32))), .val (.ref b1), .val (.ref r241), .unset] [(.ref b1)])) _
          refine st280.trans ?_
          show Steps p.tables e below (T280.setTop (mkF m 138 #[.val (.int p0), .val (.int p1), .val (.int p2), .val (.int p3), .val (.int p4), .val (.int p5), .val (.int ((p0 &&& (2147483647 : Int32)) % (6 : Int32))), .val (.ref b1), .val (.ref r241), .unset] [(.ref r282)])) _
          refine XS.astore X280.here hx rfl (hb hby at_138) rfl rfl (l' := #[.val (.int p0), .val (.int p1), .val (.int p2), .val (.int p3), .val (.int p4), .val (.int p5), .val (.int ((p0 &&& (2147483647 : Int32)) % (6 : Int32))), .val (.ref b1), .val (.ref r241), .val (.ref r282)]) rfl ?_
          show Steps p.tables e below (T280.setTop (mkF m 140 #[.val (.int p0), .val (.int p1), .val (.int p2), .val (.int p3), .val (.int p4), .val (.int p5), .val (.int ((p0 &&& (2147483647 : Int32)) % (6 : Int32))), .val (.ref b1), .val (.ref r241), .val (.ref r282)] [])) _
          refine XS.aload X280.here hx rfl (hb hby at_140) rfl rfl ?_
          show Steps p.tables e below (T280.setTop (mkF m 142 #[.val (.int p0), .val (.int p1), .val (.int p2), .val (.int p3), .val (.int p4), .val (.int p5), .val (.int ((p0 &&& (2147483647 : Int32)) % (6 : Int32))), .val (.ref b1), .val (.ref r241), .val (.ref r282)] [(.ref r282)])) _
          refine XS.iload X280.here hx rfl (hb hby at_142) rfl ?_
          show Steps p.tables e below (T280.setTop (mkF m 144 #[.val (.int p0), .val (.int p1), .val (.int p2), .val (.int p3), .val (.int p4), .val (.int p5), .val (.int ((p0 &&& (2147483647 : Int32)) % (6 : Int32))), .val (.ref b1), .val (.ref r241), .val (.ref r282)] [(.int ((p0 &&& (2147483647 : Int32)) % (6 : Int32))), (.ref r282)])) _
          refine XS.iloadN X280.here hx rfl (hb hby at_144) rfl ?_
          show Steps p.tables e below (T280.setTop (mkF m 145 #[.val (.int p0), .val (.int p1), .val (.int p2), .val (.int p3), .val (.int p4), .val (.int p5), .val (.int ((p0 &&& (2147483647 : Int32)) % (6 : Int32))), .val (.ref b1), .val (.ref r241), .val (.ref r282)] [(.int p1), (.int ((p0 &&& (2147483647 : Int32)) % (6 : Int32))), (.ref r282)])) _
          refine XS.iloadN X280.here hx rfl (hb hby at_145) rfl ?_
          show Steps p.tables e below (T280.setTop (mkF m 146 #[.val (.int p0), .val (.int p1), .val (.int p2), .val (.int p3), .val (.int p4), .val (.int p5), .val (.int ((p0 &&& (2147483647 : Int32)) % (6 : Int32))), .val (.ref b1), .val (.ref r241), .val (.ref r282)] [(.int p2), (.int p1), (.int ((p0 &&& (2147483647 : Int32)) % (6 : Int32))), (.ref r282)])) _
          refine XS.iloadN X280.here hx rfl (hb hby at_146) rfl ?_
          show Steps p.tables e below (T280.setTop (mkF m 147 #[.val (.int p0), .val (.int p1), .val (.int p2), .val (.int p3), .val (.int p4), .val (.int p5), .val (.int ((p0 &&& (2147483647 : Int32)) % (6 : Int32))), .val (.ref b1), .val (.ref r241), .val (.ref r282)] [(.int p3), (.int p2), (.int p1), (.int ((p0 &&& (2147483647 : Int32)) % (6 : Int32))), (.ref r282)])) _
          refine XS.iload X280.here hx rfl (hb hby at_147) rfl ?_
          exact kt
        have zs292 : n0 ≤ T280.heap.size := Nat.le_trans Z0 k289.1
        obtain ⟨_, _, ⟨T293, L293, k293, n293⟩, -, X293, ⟨Lc293, hQ293, l293, y293, z293⟩, st293⟩ := Jvm.LawKit.callS X280 hx (y := (⟨"com/example/interleaving/interleaving/store/StateGraphInitialStatesPinLaw", "matches", "([IIIIIII)Z"⟩ : MethodName)) hown (mvT hZ (hw _ (List.mem_of_getElem? (i := 38) rfl))) (mvT hZ (hw _ (List.mem_of_getElem? (i := 39) rfl))) (mvT hZ (hw _ (List.mem_of_getElem? (i := 40) rfl))) (mvT hZ (hw _ (List.mem_of_getElem? (i := 41) rfl))) (by decide) (backOf (W := 0) (own_rm_mt l Z a0 hw [] r282 ((p0 &&& (2147483647 : Int32)) % (6 : Int32)) p1 p2 p3 p4 p5 2 (own_upd (own_upd (fun _ => 0) 0 p1) 1 p2) T280.heap n0 zs292 c282_1 (own_kN 1 (by decide) hc25 (own_le 1 (by decide) hc35)) (by decide) (fun j hj => by rcases j with _ | _ | j <;> first | rfl | omega)) hZ (hw _ (List.mem_of_getElem? (i := 41) rfl)) (hw _ (List.mem_of_getElem? (i := 40) rfl)) (by decide) (by decide)) (g := (mkF m 151 #[.val (.int p0), .val (.int p1), .val (.int p2), .val (.int p3), .val (.int p4), .val (.int p5), .val (.int ((p0 &&& (2147483647 : Int32)) % (6 : Int32))), .val (.ref b1), .val (.ref r241), .val (.ref r282)] [(.int p5), (.int p4), (.int p3), (.int p2), (.int p1), (.int ((p0 &&& (2147483647 : Int32)) % (6 : Int32))), (.ref r282)])) rfl (by rw [hml]; rfl) (argsL := [(.ref r282), (.int ((p0 &&& (2147483647 : Int32)) % (6 : Int32))), (.int p1), (.int p2), (.int p3), (.int p4), (.int p5)]) (rest := []) (lenOf own_pd5 rfl) rfl (by show 2 * 0 + _ ≤ _; exact Nat.le_of_eq rfl) (hb hby at_151) (fun _ _ => ⟨rfl, rfl, (by decide : 6 + 0 ≤ _), (by decide : 2136 + 0 ≤ _)⟩)
        dsimp only [Pt.U, Pt.locs, Pt.cells, Pt.slots] at X293 l293 y293 z293 st293 hQ293
        rw [l293, (y293 : k293 = 6), (z293 : n293 = 2136)] at X293
        clear l293 y293 z293
        obtain ⟨rfl, N294, eq294⟩ := hQ293
        have nf295 := Fr.app nf290 N294
        have pre296 : ∀ t, Steps p.tables e below (T293.setTop (mkF m 154 #[.val (.int p0), .val (.int p1), .val (.int p2), .val (.int p3), .val (.int p4), .val (.int p5), .val (.int ((p0 &&& (2147483647 : Int32)) % (6 : Int32))), .val (.ref b1), .val (.ref r241), .val (.ref r282)] [(.int (1 : Int32))])) t → Steps p.tables e below (s₁.setTop (entryFrame m #[(.int p0), (.int p1), (.int p2), (.int p3), (.int p4), (.int p5)] maxLocals)) t := by
          intro t kt
          refine pre291 t ?_
          show Steps p.tables e below (T280.setTop (mkF m 149 #[.val (.int p0), .val (.int p1), .val (.int p2), .val (.int p3), .val (.int p4), .val (.int p5), .val (.int ((p0 &&& (2147483647 : Int32)) % (6 : Int32))), .val (.ref b1), .val (.ref r241), .val (.ref r282)] [(.int p4), (.int p3), (.int p2), (.int p1), (.int ((p0 &&& (2147483647 : Int32)) % (6 : Int32))), (.ref r282)])) _
          refine XS.iload X280.here hx rfl (hb hby at_149) rfl ?_
          show Steps p.tables e below (T280.setTop (mkF m 151 #[.val (.int p0), .val (.int p1), .val (.int p2), .val (.int p3), .val (.int p4), .val (.int p5), .val (.int ((p0 &&& (2147483647 : Int32)) % (6 : Int32))), .val (.ref b1), .val (.ref r241), .val (.ref r282)] [(.int p5), (.int p4), (.int p3), (.int p2), (.int p1), (.int ((p0 &&& (2147483647 : Int32)) % (6 : Int32))), (.ref r282)])) _
          refine st293 _ ?_
          exact kt
        obtain ⟨fs, hr, hrun, hended, hW, hsame⟩ := X293.leave (v := some (.int (1 : Int32))) (fun h => by rw [Bd.returns] at h; cases h)
        refine ⟨_, _, pre296 _ ?_, hrun, hended, _, _, rfl, ?_, ⟨_, rfl⟩, hW, hsame.mono (by decide) (by decide)⟩
        · show Steps p.tables e below (T293.setTop (mkF m 154 #[.val (.int p0), .val (.int p1), .val (.int p2), .val (.int p3), .val (.int p4), .val (.int p5), .val (.int ((p0 &&& (2147483647 : Int32)) % (6 : Int32))), .val (.ref b1), .val (.ref r241), .val (.ref r282)] [(.int (1 : Int32))])) _
          exact retN X293 hx (t := .boolean) Bd.returns (by simp) (hb hby at_154) hr
        · show own_Q_law Z p0 p1 p2 p3 p4 p5 h0 n0 (some (.int (1 : Int32))) T293.heap _
          rw [eq294]
          exact ⟨rfl, nf295⟩
    · have zs297 : n0 ≤ T17.heap.size := Nat.le_trans Z0 k22.1
      obtain ⟨cq299, kq299, q299a, q299b, q299c⟩ := isOf hZ rfl f20
      obtain ⟨_, _, ⟨T298, L298, k298, n298⟩, -, X298, ⟨Lc298, hQ298, l298, y298, z298⟩, st298⟩ := X17.virtualBack hx (y := (⟨"com/example/interleaving/interleaving/store/StateGraph", "initialStates", "()[I"⟩ : MethodName)) (z := (⟨"com/example/interleaving/interleaving/store/StateGraph", "initialStates", "()[I"⟩ : MethodName)) hown (mvT hZ (hw _ (List.mem_of_getElem? (i := 19) rfl))) (mvT hZ (hw _ (List.mem_of_getElem? (i := 20) rfl))) (notFace_of_selects (args := #[]) (mvT hZ (hw _ (List.mem_of_getElem? (i := 22) rfl)))) (mvT hZ (hw _ (List.mem_of_getElem? (i := 22) rfl))) (mvT hZ (hw _ (List.mem_of_getElem? (i := 21) rfl))) (by decide) (backOf (W := 0) (own_rm_ist l Z a0 hw [] b1 bx10 1 16 (own_upd (fun _ => 0) 0 p1) T17.heap n0 zs297 c19_0 c19_1 c19_2 (by decide) (by decide) (by decide)) hZ (hw _ (List.mem_of_getElem? (i := 23) rfl)) (hw _ (List.mem_of_getElem? (i := 3) rfl)) (by decide) (by decide)) q299a q299c (g := (mkF m 81 #[.val (.int p0), .val (.int p1), .val (.int p2), .val (.int p3), .val (.int p4), .val (.int p5), .val (.int ((p0 &&& (2147483647 : Int32)) % (6 : Int32))), .val (.ref b1), .unset, .unset] [(.ref b1)])) rfl (by rw [hml]; rfl) (Steps.refl _) (argsL := []) (rest := []) (lenOf own_pd4 rfl) rfl (by show 2 * 0 + _ ≤ _; exact Nat.le_of_eq rfl) (hb hby at_81) (fun _ _ => ⟨rfl, rfl, (by decide : 4 + 1 ≤ _), (by decide : 2072 + 32 ≤ _)⟩)
      dsimp only [Pt.U, Pt.locs, Pt.cells, Pt.slots] at X298 l298 y298 z298 st298 hQ298
      rw [l298, (y298 : k298 = 5), (z298 : n298 = 2104)] at X298
      clear l298 y298 z298
      obtain ⟨r300, rfl, N300, K300, c300_0, c300_1⟩ := hQ298
      have sz_r300 : h0.size ≤ r300 := Nat.le_trans k22.1 c300_0
      have gn_r300 : n0 ≤ r300 := Nat.le_trans Z0 sz_r300
      have ne_b1_r300 : b1 ≠ r300 := Nat.ne_of_lt (Nat.lt_of_lt_of_le c19_1.lt c300_0)
      have ne_bx10_r300 : bx10 ≠ r300 := Nat.ne_of_lt (Nat.lt_of_lt_of_le c19_2.lt c300_0)
      have f301 := f20.keep K300
      have f302 := f21.keep K300
      have f303 := c19_0.keep K300 nin0
      have f304 := c19_1.keep K300 nin0
      have f305 := c19_2.keep K300 nin0
      have k306 := k22.trans K300 all0
      have nf307 := Fr.app nf23 N300
      have pre308 : ∀ t, Steps p.tables e below (T298.setTop (mkF m 84 #[.val (.int p0), .val (.int p1), .val (.int p2), .val (.int p3), .val (.int p4), .val (.int p5), .val (.int ((p0 &&& (2147483647 : Int32)) % (6 : Int32))), .val (.ref b1), .unset, .unset] [(.ref r300)])) t → Steps p.tables e below (s₁.setTop (entryFrame m #[(.int p0), (.int p1), (.int p2), (.int p3), (.int p4), (.int p5)] maxLocals)) t := by
        intro t kt
        refine pre24 t ?_
        show Steps p.tables e below (T17.setTop (mkF m 32 #[.val (.int p0), .val (.int p1), .val (.int p2), .val (.int p3), .val (.int p4), .val (.int p5), .val (.int ((p0 &&& (2147483647 : Int32)) % (6 : Int32))), .val (.ref b1), .unset, .unset] [(.int (1 : Int32)), (.int ((p0 &&& (2147483647 : Int32)) % (6 : Int32)))])) _
        refine XS.icmpYes X17.here hx rfl (pc0 := 32) (pc' := 41) rfl (hb hby at_32) rfl (flt hc25).2.2.2 (by decide) (by decide) ?_
        show Steps p.tables e below (T17.setTop (mkF m 41 #[.val (.int p0), .val (.int p1), .val (.int p2), .val (.int p3), .val (.int p4), .val (.int p5), .val (.int ((p0 &&& (2147483647 : Int32)) % (6 : Int32))), .val (.ref b1), .unset, .unset] [])) _
        refine XS.iload X17.here hx rfl (hb hby at_41) rfl ?_
        show Steps p.tables e below (T17.setTop (mkF m 43 #[.val (.int p0), .val (.int p1), .val (.int p2), .val (.int p3), .val (.int p4), .val (.int p5), .val (.int ((p0 &&& (2147483647 : Int32)) % (6 : Int32))), .val (.ref b1), .unset, .unset] [(.int ((p0 &&& (2147483647 : Int32)) % (6 : Int32)))])) _
        refine XS.iconst X17.here hx rfl (hb hby at_43) ?_
        show Steps p.tables e below (T17.setTop (mkF m 44 #[.val (.int p0), .val (.int p1), .val (.int p2), .val (.int p3), .val (.int p4), .val (.int p5), .val (.int ((p0 &&& (2147483647 : Int32)) % (6 : Int32))), .val (.ref b1), .unset, .unset] [(.int (2 : Int32)), (.int ((p0 &&& (2147483647 : Int32)) % (6 : Int32)))])) _
        refine XS.icmpYes X17.here hx rfl (pc0 := 44) (pc' := 53) rfl (hb hby at_44) rfl (flt (own_no (1 : Int32) (2 : Int32) hc25 (by decide))).2.2.2 (by decide) (by decide) ?_
        show Steps p.tables e below (T17.setTop (mkF m 53 #[.val (.int p0), .val (.int p1), .val (.int p2), .val (.int p3), .val (.int p4), .val (.int p5), .val (.int ((p0 &&& (2147483647 : Int32)) % (6 : Int32))), .val (.ref b1), .unset, .unset] [])) _
        refine XS.iload X17.here hx rfl (hb hby at_53) rfl ?_
        show Steps p.tables e below (T17.setTop (mkF m 55 #[.val (.int p0), .val (.int p1), .val (.int p2), .val (.int p3), .val (.int p4), .val (.int p5), .val (.int ((p0 &&& (2147483647 : Int32)) % (6 : Int32))), .val (.ref b1), .unset, .unset] [(.int ((p0 &&& (2147483647 : Int32)) % (6 : Int32)))])) _
        refine XS.iconst X17.here hx rfl (hb hby at_55) ?_
        show Steps p.tables e below (T17.setTop (mkF m 56 #[.val (.int p0), .val (.int p1), .val (.int p2), .val (.int p3), .val (.int p4), .val (.int p5), .val (.int ((p0 &&& (2147483647 : Int32)) % (6 : Int32))), .val (.ref b1), .unset, .unset] [(.int (3 : Int32)), (.int ((p0 &&& (2147483647 : Int32)) % (6 : Int32)))])) _
        refine XS.icmpYes X17.here hx rfl (pc0 := 56) (pc' := 66) rfl (hb hby at_56) rfl (flt (own_no (2 : Int32) (3 : Int32) (own_no (1 : Int32) (2 : Int32) hc25 (by decide)) (by decide))).2.2.2 (by decide) (by decide) ?_
        show Steps p.tables e below (T17.setTop (mkF m 66 #[.val (.int p0), .val (.int p1), .val (.int p2), .val (.int p3), .val (.int p4), .val (.int p5), .val (.int ((p0 &&& (2147483647 : Int32)) % (6 : Int32))), .val (.ref b1), .unset, .unset] [])) _
        refine XS.iload X17.here hx rfl (hb hby at_66) rfl ?_
        show Steps p.tables e below (T17.setTop (mkF m 68 #[.val (.int p0), .val (.int p1), .val (.int p2), .val (.int p3), .val (.int p4), .val (.int p5), .val (.int ((p0 &&& (2147483647 : Int32)) % (6 : Int32))), .val (.ref b1), .unset, .unset] [(.int ((p0 &&& (2147483647 : Int32)) % (6 : Int32)))])) _
        refine XS.iconst X17.here hx rfl (hb hby at_68) ?_
        show Steps p.tables e below (T17.setTop (mkF m 69 #[.val (.int p0), .val (.int p1), .val (.int p2), .val (.int p3), .val (.int p4), .val (.int p5), .val (.int ((p0 &&& (2147483647 : Int32)) % (6 : Int32))), .val (.ref b1), .unset, .unset] [(.int (4 : Int32)), (.int ((p0 &&& (2147483647 : Int32)) % (6 : Int32)))])) _
        refine XS.icmpYes X17.here hx rfl (pc0 := 69) (pc' := 79) rfl (hb hby at_69) rfl (flt (own_no (3 : Int32) (4 : Int32) (own_no (2 : Int32) (3 : Int32) (own_no (1 : Int32) (2 : Int32) hc25 (by decide)) (by decide)) (by decide))).2.2.2 (by decide) (by decide) ?_
        show Steps p.tables e below (T17.setTop (mkF m 79 #[.val (.int p0), .val (.int p1), .val (.int p2), .val (.int p3), .val (.int p4), .val (.int p5), .val (.int ((p0 &&& (2147483647 : Int32)) % (6 : Int32))), .val (.ref b1), .unset, .unset] [])) _
        refine XS.aload X17.here hx rfl (hb hby at_79) rfl rfl ?_
        show Steps p.tables e below (T17.setTop (mkF m 81 #[.val (.int p0), .val (.int p1), .val (.int p2), .val (.int p3), .val (.int p4), .val (.int p5), .val (.int ((p0 &&& (2147483647 : Int32)) % (6 : Int32))), .val (.ref b1), .unset, .unset] [(.ref b1)])) _
        refine st298.trans ?_
        exact kt
      have zs309 : n0 ≤ T298.heap.size := Nat.le_trans Z0 k306.1
      obtain ⟨_, _, ⟨T310, L310, k310, n310⟩, -, X310, ⟨Lc310, hQ310, l310, y310, z310⟩, st310⟩ := Jvm.LawKit.callS X298 hx (y := (⟨"com/example/interleaving/interleaving/store/StateGraphInitialStatesPinLaw", "matches", "([IIIIIII)Z"⟩ : MethodName)) hown (mvT hZ (hw _ (List.mem_of_getElem? (i := 38) rfl))) (mvT hZ (hw _ (List.mem_of_getElem? (i := 39) rfl))) (mvT hZ (hw _ (List.mem_of_getElem? (i := 40) rfl))) (mvT hZ (hw _ (List.mem_of_getElem? (i := 41) rfl))) (by decide) (backOf (W := 0) (own_rm_mt l Z a0 hw [] r300 ((p0 &&& (2147483647 : Int32)) % (6 : Int32)) p1 p2 p3 p4 p5 1 (own_upd (fun _ => 0) 0 p1) T298.heap n0 zs309 c300_1 (own_kN 0 (by decide) hc15 (own_le 0 (by decide) hc25)) (by decide) (fun j hj => by rcases j with _ | j <;> first | rfl | omega)) hZ (hw _ (List.mem_of_getElem? (i := 41) rfl)) (hw _ (List.mem_of_getElem? (i := 40) rfl)) (by decide) (by decide)) (g := (mkF m 97 #[.val (.int p0), .val (.int p1), .val (.int p2), .val (.int p3), .val (.int p4), .val (.int p5), .val (.int ((p0 &&& (2147483647 : Int32)) % (6 : Int32))), .val (.ref b1), .val (.ref r300), .unset] [(.int p5), (.int p4), (.int p3), (.int p2), (.int p1), (.int ((p0 &&& (2147483647 : Int32)) % (6 : Int32))), (.ref r300)])) rfl (by rw [hml]; rfl) (argsL := [(.ref r300), (.int ((p0 &&& (2147483647 : Int32)) % (6 : Int32))), (.int p1), (.int p2), (.int p3), (.int p4), (.int p5)]) (rest := []) (lenOf own_pd5 rfl) rfl (by show 2 * 0 + _ ≤ _; exact Nat.le_of_eq rfl) (hb hby at_97) (fun _ _ => ⟨rfl, rfl, (by decide : 5 + 0 ≤ _), (by decide : 2104 + 0 ≤ _)⟩)
      dsimp only [Pt.U, Pt.locs, Pt.cells, Pt.slots] at X310 l310 y310 z310 st310 hQ310
      rw [l310, (y310 : k310 = 5), (z310 : n310 = 2104)] at X310
      clear l310 y310 z310
      obtain ⟨rfl, N311, eq311⟩ := hQ310
      have nf312 := Fr.app nf307 N311
      have pre313 : ∀ t, Steps p.tables e below (T310.setTop (mkF m 110 #[.val (.int p0), .val (.int p1), .val (.int p2), .val (.int p3), .val (.int p4), .val (.int p5), .val (.int ((p0 &&& (2147483647 : Int32)) % (6 : Int32))), .val (.ref b1), .val (.ref r300), .unset] [])) t → Steps p.tables e below (s₁.setTop (entryFrame m #[(.int p0), (.int p1), (.int p2), (.int p3), (.int p4), (.int p5)] maxLocals)) t := by
        intro t kt
        refine pre308 t ?_
        show Steps p.tables e below (T298.setTop (mkF m 84 #[.val (.int p0), .val (.int p1), .val (.int p2), .val (.int p3), .val (.int p4), .val (.int p5), .val (.int ((p0 &&& (2147483647 : Int32)) % (6 : Int32))), .val (.ref b1), .unset, .unset] [(.ref r300)])) _
        refine XS.astore X298.here hx rfl (hb hby at_84) rfl rfl (l' := #[.val (.int p0), .val (.int p1), .val (.int p2), .val (.int p3), .val (.int p4), .val (.int p5), .val (.int ((p0 &&& (2147483647 : Int32)) % (6 : Int32))), .val (.ref b1), .val (.ref r300), .unset]) rfl ?_
        show Steps p.tables e below (T298.setTop (mkF m 86 #[.val (.int p0), .val (.int p1), .val (.int p2), .val (.int p3), .val (.int p4), .val (.int p5), .val (.int ((p0 &&& (2147483647 : Int32)) % (6 : Int32))), .val (.ref b1), .val (.ref r300), .unset] [])) _
        refine XS.aload X298.here hx rfl (hb hby at_86) rfl rfl ?_
        show Steps p.tables e below (T298.setTop (mkF m 88 #[.val (.int p0), .val (.int p1), .val (.int p2), .val (.int p3), .val (.int p4), .val (.int p5), .val (.int ((p0 &&& (2147483647 : Int32)) % (6 : Int32))), .val (.ref b1), .val (.ref r300), .unset] [(.ref r300)])) _
        refine XS.iload X298.here hx rfl (hb hby at_88) rfl ?_
        show Steps p.tables e below (T298.setTop (mkF m 90 #[.val (.int p0), .val (.int p1), .val (.int p2), .val (.int p3), .val (.int p4), .val (.int p5), .val (.int ((p0 &&& (2147483647 : Int32)) % (6 : Int32))), .val (.ref b1), .val (.ref r300), .unset] [(.int ((p0 &&& (2147483647 : Int32)) % (6 : Int32))), (.ref r300)])) _
        refine XS.iloadN X298.here hx rfl (hb hby at_90) rfl ?_
        show Steps p.tables e below (T298.setTop (mkF m 91 #[.val (.int p0), .val (.int p1), .val (.int p2), .val (.int p3), .val (.int p4), .val (.int p5), .val (.int ((p0 &&& (2147483647 : Int32)) % (6 : Int32))), .val (.ref b1), .val (.ref r300), .unset] [(.int p1), (.int ((p0 &&& (2147483647 : Int32)) % (6 : Int32))), (.ref r300)])) _
        refine XS.iloadN X298.here hx rfl (hb hby at_91) rfl ?_
        show Steps p.tables e below (T298.setTop (mkF m 92 #[.val (.int p0), .val (.int p1), .val (.int p2), .val (.int p3), .val (.int p4), .val (.int p5), .val (.int ((p0 &&& (2147483647 : Int32)) % (6 : Int32))), .val (.ref b1), .val (.ref r300), .unset] [(.int p2), (.int p1), (.int ((p0 &&& (2147483647 : Int32)) % (6 : Int32))), (.ref r300)])) _
        refine XS.iloadN X298.here hx rfl (hb hby at_92) rfl ?_
        show Steps p.tables e below (T298.setTop (mkF m 93 #[.val (.int p0), .val (.int p1), .val (.int p2), .val (.int p3), .val (.int p4), .val (.int p5), .val (.int ((p0 &&& (2147483647 : Int32)) % (6 : Int32))), .val (.ref b1), .val (.ref r300), .unset] [(.int p3), (.int p2), (.int p1), (.int ((p0 &&& (2147483647 : Int32)) % (6 : Int32))), (.ref r300)])) _
        refine XS.iload X298.here hx rfl (hb hby at_93) rfl ?_
        show Steps p.tables e below (T298.setTop (mkF m 95 #[.val (.int p0), .val (.int p1), .val (.int p2), .val (.int p3), .val (.int p4), .val (.int p5), .val (.int ((p0 &&& (2147483647 : Int32)) % (6 : Int32))), .val (.ref b1), .val (.ref r300), .unset] [(.int p4), (.int p3), (.int p2), (.int p1), (.int ((p0 &&& (2147483647 : Int32)) % (6 : Int32))), (.ref r300)])) _
        refine XS.iload X298.here hx rfl (hb hby at_95) rfl ?_
        show Steps p.tables e below (T298.setTop (mkF m 97 #[.val (.int p0), .val (.int p1), .val (.int p2), .val (.int p3), .val (.int p4), .val (.int p5), .val (.int ((p0 &&& (2147483647 : Int32)) % (6 : Int32))), .val (.ref b1), .val (.ref r300), .unset] [(.int p5), (.int p4), (.int p3), (.int p2), (.int p1), (.int ((p0 &&& (2147483647 : Int32)) % (6 : Int32))), (.ref r300)])) _
        refine st310 _ ?_
        show Steps p.tables e below (T310.setTop (mkF m 100 #[.val (.int p0), .val (.int p1), .val (.int p2), .val (.int p3), .val (.int p4), .val (.int p5), .val (.int ((p0 &&& (2147483647 : Int32)) % (6 : Int32))), .val (.ref b1), .val (.ref r300), .unset] [(.int (1 : Int32))])) _
        refine XS.ifYes X310.here hx rfl (pc0 := 100) (pc' := 105) rfl (hb hby at_100) rfl ((if0 _ _).trans (feq (by decide : ¬ ((1 : Int32) = (0 : Int32)))).2) (by decide) (by decide) ?_
        show Steps p.tables e below (T310.setTop (mkF m 105 #[.val (.int p0), .val (.int p1), .val (.int p2), .val (.int p3), .val (.int p4), .val (.int p5), .val (.int ((p0 &&& (2147483647 : Int32)) % (6 : Int32))), .val (.ref b1), .val (.ref r300), .unset] [])) _
        refine XS.iload X310.here hx rfl (hb hby at_105) rfl ?_
        show Steps p.tables e below (T310.setTop (mkF m 107 #[.val (.int p0), .val (.int p1), .val (.int p2), .val (.int p3), .val (.int p4), .val (.int p5), .val (.int ((p0 &&& (2147483647 : Int32)) % (6 : Int32))), .val (.ref b1), .val (.ref r300), .unset] [(.int ((p0 &&& (2147483647 : Int32)) % (6 : Int32)))])) _
        refine XS.ifNo X310.here hx rfl (hb hby at_107) rfl ((if0 _ _).trans (tlt hc15).2.2.2) ?_
        exact kt
      obtain ⟨cl314, Ar314, S314, H314⟩ := id c300_1
      have hin314 : ¬ ((0 : Int32) < 0 ∨ cl314.slots.size ≤ ((0 : Int32)).toNatClampNeg) := own_inb S314 (by decide) (by decide)
      obtain ⟨T315, h315, X315, e315, W315, st315⟩ := stI X310 hx hZ eq311 Ar314 (j := (0 : Int32)) hin314 (g := (mkF m 116 #[.val (.int p0), .val (.int p1), .val (.int p2), .val (.int p3), .val (.int p4), .val (.int p5), .val (.int ((p0 &&& (2147483647 : Int32)) % (6 : Int32))), .val (.ref b1), .val (.ref r300), .unset] [(.int (p1 ^^^ (1 : Int32))), (.int (0 : Int32)), (.ref r300)])) rfl rfl (hb hby at_116)
      have f316 := f301.wr W315
      have f317 := f302.wr W315
      have f318 := f303.other W315 (Or.inl ne_b1_r300)
      have f319 := f304.other W315 (Or.inl ne_b1_r300)
      have f320 := f305.other W315 ne_bx10_r300
      have k322 := k306.wr W315 (Or.inr sz_r300)
      have nf323 := Fr.snoc X315 nf312 gn_r300
      have f324 := c300_1.set W315
      have pre325 : ∀ t, Steps p.tables e below (T315.setTop (mkF m 127 #[.val (.int p0), .val (.int p1), .val (.int p2), .val (.int p3), .val (.int p4), .val (.int p5), .val (.int ((p0 &&& (2147483647 : Int32)) % (6 : Int32))), .val (.ref b1), .val (.ref r300), .unset] [(.int ((p0 &&& (2147483647 : Int32)) % (6 : Int32))), (.ref r300), (.int (((p0 &&& (2147483647 : Int32)) % (6 : Int32)) - (1 : Int32))), (.ref r300)])) t → Steps p.tables e below (s₁.setTop (entryFrame m #[(.int p0), (.int p1), (.int p2), (.int p3), (.int p4), (.int p5)] maxLocals)) t := by
        intro t kt
        refine pre313 t ?_
        show Steps p.tables e below (T310.setTop (mkF m 110 #[.val (.int p0), .val (.int p1), .val (.int p2), .val (.int p3), .val (.int p4), .val (.int p5), .val (.int ((p0 &&& (2147483647 : Int32)) % (6 : Int32))), .val (.ref b1), .val (.ref r300), .unset] [])) _
        refine XS.aload X310.here hx rfl (hb hby at_110) rfl rfl ?_
        show Steps p.tables e below (T310.setTop (mkF m 112 #[.val (.int p0), .val (.int p1), .val (.int p2), .val (.int p3), .val (.int p4), .val (.int p5), .val (.int ((p0 &&& (2147483647 : Int32)) % (6 : Int32))), .val (.ref b1), .val (.ref r300), .unset] [(.ref r300)])) _
        refine XS.iconst X310.here hx rfl (hb hby at_112) ?_
        show Steps p.tables e below (T310.setTop (mkF m 113 #[.val (.int p0), .val (.int p1), .val (.int p2), .val (.int p3), .val (.int p4), .val (.int p5), .val (.int ((p0 &&& (2147483647 : Int32)) % (6 : Int32))), .val (.ref b1), .val (.ref r300), .unset] [(.int (0 : Int32)), (.ref r300)])) _
        refine XS.iloadN X310.here hx rfl (hb hby at_113) rfl ?_
        show Steps p.tables e below (T310.setTop (mkF m 114 #[.val (.int p0), .val (.int p1), .val (.int p2), .val (.int p3), .val (.int p4), .val (.int p5), .val (.int ((p0 &&& (2147483647 : Int32)) % (6 : Int32))), .val (.ref b1), .val (.ref r300), .unset] [(.int p1), (.int (0 : Int32)), (.ref r300)])) _
        refine XS.iconst X310.here hx rfl (hb hby at_114) ?_
        show Steps p.tables e below (T310.setTop (mkF m 115 #[.val (.int p0), .val (.int p1), .val (.int p2), .val (.int p3), .val (.int p4), .val (.int p5), .val (.int ((p0 &&& (2147483647 : Int32)) % (6 : Int32))), .val (.ref b1), .val (.ref r300), .unset] [(.int (1 : Int32)), (.int p1), (.int (0 : Int32)), (.ref r300)])) _
        refine XS.ixor X310.here hx rfl (hb hby at_115) rfl ?_
        show Steps p.tables e below (T310.setTop (mkF m 116 #[.val (.int p0), .val (.int p1), .val (.int p2), .val (.int p3), .val (.int p4), .val (.int p5), .val (.int ((p0 &&& (2147483647 : Int32)) % (6 : Int32))), .val (.ref b1), .val (.ref r300), .unset] [(.int (p1 ^^^ (1 : Int32))), (.int (0 : Int32)), (.ref r300)])) _
        refine st315 _ ?_
        show Steps p.tables e below (T315.setTop (mkF m 117 #[.val (.int p0), .val (.int p1), .val (.int p2), .val (.int p3), .val (.int p4), .val (.int p5), .val (.int ((p0 &&& (2147483647 : Int32)) % (6 : Int32))), .val (.ref b1), .val (.ref r300), .unset] [])) _
        refine XS.aload X315.here hx rfl (hb hby at_117) rfl rfl ?_
        show Steps p.tables e below (T315.setTop (mkF m 119 #[.val (.int p0), .val (.int p1), .val (.int p2), .val (.int p3), .val (.int p4), .val (.int p5), .val (.int ((p0 &&& (2147483647 : Int32)) % (6 : Int32))), .val (.ref b1), .val (.ref r300), .unset] [(.ref r300)])) _
        refine XS.iload X315.here hx rfl (hb hby at_119) rfl ?_
        show Steps p.tables e below (T315.setTop (mkF m 121 #[.val (.int p0), .val (.int p1), .val (.int p2), .val (.int p3), .val (.int p4), .val (.int p5), .val (.int ((p0 &&& (2147483647 : Int32)) % (6 : Int32))), .val (.ref b1), .val (.ref r300), .unset] [(.int ((p0 &&& (2147483647 : Int32)) % (6 : Int32))), (.ref r300)])) _
        refine XS.iconst X315.here hx rfl (hb hby at_121) ?_
        show Steps p.tables e below (T315.setTop (mkF m 122 #[.val (.int p0), .val (.int p1), .val (.int p2), .val (.int p3), .val (.int p4), .val (.int p5), .val (.int ((p0 &&& (2147483647 : Int32)) % (6 : Int32))), .val (.ref b1), .val (.ref r300), .unset] [(.int (1 : Int32)), (.int ((p0 &&& (2147483647 : Int32)) % (6 : Int32))), (.ref r300)])) _
        refine XS.isub X315.here hx rfl (hb hby at_122) rfl ?_
        show Steps p.tables e below (T315.setTop (mkF m 123 #[.val (.int p0), .val (.int p1), .val (.int p2), .val (.int p3), .val (.int p4), .val (.int p5), .val (.int ((p0 &&& (2147483647 : Int32)) % (6 : Int32))), .val (.ref b1), .val (.ref r300), .unset] [(.int (((p0 &&& (2147483647 : Int32)) % (6 : Int32)) - (1 : Int32))), (.ref r300)])) _
        refine XS.aload X315.here hx rfl (hb hby at_123) rfl rfl ?_
        show Steps p.tables e below (T315.setTop (mkF m 125 #[.val (.int p0), .val (.int p1), .val (.int p2), .val (.int p3), .val (.int p4), .val (.int p5), .val (.int ((p0 &&& (2147483647 : Int32)) % (6 : Int32))), .val (.ref b1), .val (.ref r300), .unset] [(.ref r300), (.int (((p0 &&& (2147483647 : Int32)) % (6 : Int32)) - (1 : Int32))), (.ref r300)])) _
        refine XS.iload X315.here hx rfl (hb hby at_125) rfl ?_
        exact kt
      obtain ⟨cl326, Ar326, S326, H326⟩ := id f324
      have hin326 : ¬ ((((p0 &&& (2147483647 : Int32)) % (6 : Int32)) - (1 : Int32)) < 0 ∨ cl326.slots.size ≤ ((((p0 &&& (2147483647 : Int32)) % (6 : Int32)) - (1 : Int32))).toNatClampNeg) := own_inb S326 (by rw [(own_kN 0 (by decide) hc15 (own_le 0 (by decide) hc25))]; decide) (by rw [(own_kN 0 (by decide) hc15 (own_le 0 (by decide) hc25))]; decide)
      have hat326 : cl326.slots[((((p0 &&& (2147483647 : Int32)) % (6 : Int32)) - (1 : Int32))).toNatClampNeg]? = some (.int ((own_upd (own_upd (fun _ => 0) 0 p1) ((0 : Int32)).toNatClampNeg (p1 ^^^ (1 : Int32))) ((((p0 &&& (2147483647 : Int32)) % (6 : Int32)) - (1 : Int32))).toNatClampNeg)) := H326 _ (by rw [(own_kN 0 (by decide) hc15 (own_le 0 (by decide) hc25))]; decide)
      obtain ⟨cl327, Ar327, S327, H327⟩ := id f324
      have hin327 : ¬ ((((p0 &&& (2147483647 : Int32)) % (6 : Int32)) - (1 : Int32)) < 0 ∨ cl327.slots.size ≤ ((((p0 &&& (2147483647 : Int32)) % (6 : Int32)) - (1 : Int32))).toNatClampNeg) := own_inb S327 (by rw [(own_kN 0 (by decide) hc15 (own_le 0 (by decide) hc25))]; decide) (by rw [(own_kN 0 (by decide) hc15 (own_le 0 (by decide) hc25))]; decide)
      obtain ⟨T328, h328, X328, e328, W328, st328⟩ := stI X315 hx hZ e315 Ar327 (j := (((p0 &&& (2147483647 : Int32)) % (6 : Int32)) - (1 : Int32))) hin327 (g := (mkF m 132 #[.val (.int p0), .val (.int p1), .val (.int p2), .val (.int p3), .val (.int p4), .val (.int p5), .val (.int ((p0 &&& (2147483647 : Int32)) % (6 : Int32))), .val (.ref b1), .val (.ref r300), .unset] [(.int (((own_upd (own_upd (fun _ => 0) 0 p1) ((0 : Int32)).toNatClampNeg (p1 ^^^ (1 : Int32))) ((((p0 &&& (2147483647 : Int32)) % (6 : Int32)) - (1 : Int32))).toNatClampNeg) ^^^ (2 : Int32))), (.int (((p0 &&& (2147483647 : Int32)) % (6 : Int32)) - (1 : Int32))), (.ref r300)])) rfl rfl (hb hby at_132)
      have f329 := f316.wr W328
      have f330 := f317.wr W328
      have f331 := f318.other W328 (Or.inl ne_b1_r300)
      have f332 := f319.other W328 (Or.inl ne_b1_r300)
      have f333 := f320.other W328 ne_bx10_r300
      have k335 := k322.wr W328 (Or.inr sz_r300)
      have nf336 := Fr.snoc X328 nf323 gn_r300
      have f337 := f324.set W328
      have zs338 : n0 ≤ h328.size := Nat.le_trans Z0 k335.1
      obtain ⟨cq340, kq340, q340a, q340b, q340c⟩ := isOf hZ e328 f329
      obtain ⟨_, _, ⟨T339, L339, k339, n339⟩, -, X339, ⟨Lc339, hQ339, l339, y339, z339⟩, st339⟩ := X328.virtualBack hx (y := (⟨"com/example/interleaving/interleaving/store/StateGraph", "initialStates", "()[I"⟩ : MethodName)) (z := (⟨"com/example/interleaving/interleaving/store/StateGraph", "initialStates", "()[I"⟩ : MethodName)) hown (mvT hZ (hw _ (List.mem_of_getElem? (i := 19) rfl))) (mvT hZ (hw _ (List.mem_of_getElem? (i := 20) rfl))) (notFace_of_selects (args := #[]) (mvT hZ (hw _ (List.mem_of_getElem? (i := 22) rfl)))) (mvT hZ (hw _ (List.mem_of_getElem? (i := 22) rfl))) (mvT hZ (hw _ (List.mem_of_getElem? (i := 21) rfl))) (by decide) (backOf (W := 0) (own_rm_ist l Z a0 hw [] b1 bx10 1 16 (own_upd (fun _ => 0) 0 p1) h328 n0 zs338 f331 f332 f333 (by decide) (by decide) (by decide)) hZ (hw _ (List.mem_of_getElem? (i := 23) rfl)) (hw _ (List.mem_of_getElem? (i := 3) rfl)) (by decide) (by decide)) q340a q340c (g := (mkF m 135 #[.val (.int p0), .val (.int p1), .val (.int p2), .val (.int p3), .val (.int p4), .val (.int p5), .val (.int ((p0 &&& (2147483647 : Int32)) % (6 : Int32))), .val (.ref b1), .val (.ref r300), .unset] [(.ref b1)])) rfl (by rw [hml]; rfl) (Steps.refl _) (argsL := []) (rest := []) (lenOf own_pd4 rfl) rfl (by show 2 * 0 + _ ≤ _; exact Nat.le_of_eq rfl) (hb hby at_135) (fun _ _ => ⟨rfl, e328, (by decide : 5 + 1 ≤ _), (by decide : 2104 + 32 ≤ _)⟩)
      dsimp only [Pt.U, Pt.locs, Pt.cells, Pt.slots] at X339 l339 y339 z339 st339 hQ339
      rw [l339, (y339 : k339 = 6), (z339 : n339 = 2136)] at X339
      clear l339 y339 z339
      obtain ⟨r341, rfl, N341, K341, c341_0, c341_1⟩ := hQ339
      have sz_r341 : h0.size ≤ r341 := Nat.le_trans k335.1 c341_0
      have gn_r341 : n0 ≤ r341 := Nat.le_trans Z0 sz_r341
      have ne_b1_r341 : b1 ≠ r341 := Nat.ne_of_lt (Nat.lt_of_lt_of_le f332.lt c341_0)
      have ne_bx10_r341 : bx10 ≠ r341 := Nat.ne_of_lt (Nat.lt_of_lt_of_le f333.lt c341_0)
      have ne_r300_r341 : r300 ≠ r341 := Nat.ne_of_lt (Nat.lt_of_lt_of_le f337.lt c341_0)
      have f342 := f329.keep K341
      have f343 := f330.keep K341
      have f344 := f331.keep K341 nin0
      have f345 := f332.keep K341 nin0
      have f346 := f333.keep K341 nin0
      have f347 := f337.keep K341 nin0
      have k348 := k335.trans K341 all0
      have nf349 := Fr.app nf336 N341
      have pre350 : ∀ t, Steps p.tables e below (T339.setTop (mkF m 145 #[.val (.int p0), .val (.int p1), .val (.int p2), .val (.int p3), .val (.int p4), .val (.int p5), .val (.int ((p0 &&& (2147483647 : Int32)) % (6 : Int32))), .val (.ref b1), .val (.ref r300), .val (.ref r341)] [(.int p1), (.int ((p0 &&& (2147483647 : Int32)) % (6 : Int32))), (.ref r341)])) t → Steps p.tables e below (s₁.setTop (entryFrame m #[(.int p0), (.int p1), (.int p2), (.int p3), (.int p4), (.int p5)] maxLocals)) t := by
        intro t kt
        refine pre325 t ?_
        show Steps p.tables e below (T315.setTop (mkF m 127 #[.val (.int p0), .val (.int p1), .val (.int p2), .val (.int p3), .val (.int p4), .val (.int p5), .val (.int ((p0 &&& (2147483647 : Int32)) % (6 : Int32))), .val (.ref b1), .val (.ref r300), .unset] [(.int ((p0 &&& (2147483647 : Int32)) % (6 : Int32))), (.ref r300), (.int (((p0 &&& (2147483647 : Int32)) % (6 : Int32)) - (1 : Int32))), (.ref r300)])) _
        refine XS.iconst X315.here hx rfl (hb hby at_127) ?_
        show Steps p.tables e below (T315.setTop (mkF m 128 #[.val (.int p0), .val (.int p1), .val (.int p2), .val (.int p3), .val (.int p4), .val (.int p5), .val (.int ((p0 &&& (2147483647 : Int32)) % (6 : Int32))), .val (.ref b1), .val (.ref r300), .unset] [(.int (1 : Int32)), (.int ((p0 &&& (2147483647 : Int32)) % (6 : Int32))), (.ref r300), (.int (((p0 &&& (2147483647 : Int32)) % (6 : Int32)) - (1 : Int32))), (.ref r300)])) _
        refine XS.isub X315.here hx rfl (hb hby at_128) rfl ?_
        show Steps p.tables e below (T315.setTop (mkF m 129 #[.val (.int p0), .val (.int p1), .val (.int p2), .val (.int p3), .val (.int p4), .val (.int p5), .val (.int ((p0 &&& (2147483647 : Int32)) % (6 : Int32))), .val (.ref b1), .val (.ref r300), .unset] [(.int (((p0 &&& (2147483647 : Int32)) % (6 : Int32)) - (1 : Int32))), (.ref r300), (.int (((p0 &&& (2147483647 : Int32)) % (6 : Int32)) - (1 : Int32))), (.ref r300)])) _
        refine X315.iaload hx (j := (((p0 &&& (2147483647 : Int32)) % (6 : Int32)) - (1 : Int32))) (v := (.int ((own_upd (own_upd (fun _ => 0) 0 p1) ((0 : Int32)).toNatClampNeg (p1 ^^^ (1 : Int32))) ((((p0 &&& (2147483647 : Int32)) % (6 : Int32)) - (1 : Int32))).toNatClampNeg))) (by rw [e315]; exact Ar326.1) (State.isArrayOf_alike hZ.alike Ar326.2.1) Ar326.2.2 hin326 hat326 (g := (mkF m 129 #[.val (.int p0), .val (.int p1), .val (.int p2), .val (.int p3), .val (.int p4), .val (.int p5), .val (.int ((p0 &&& (2147483647 : Int32)) % (6 : Int32))), .val (.ref b1), .val (.ref r300), .unset] [(.int (((p0 &&& (2147483647 : Int32)) % (6 : Int32)) - (1 : Int32))), (.ref r300), (.int (((p0 &&& (2147483647 : Int32)) % (6 : Int32)) - (1 : Int32))), (.ref r300)])) rfl rfl (hb hby at_129) _ ?_
        show Steps p.tables e below (T315.setTop (mkF m 130 #[.val (.int p0), .val (.int p1), .val (.int p2), .val (.int p3), .val (.int p4), .val (.int p5), .val (.int ((p0 &&& (2147483647 : Int32)) % (6 : Int32))), .val (.ref b1), .val (.ref r300), .unset] [(.int ((own_upd (own_upd (fun _ => 0) 0 p1) ((0 : Int32)).toNatClampNeg (p1 ^^^ (1 : Int32))) ((((p0 &&& (2147483647 : Int32)) % (6 : Int32)) - (1 : Int32))).toNatClampNeg)), (.int (((p0 &&& (2147483647 : Int32)) % (6 : Int32)) - (1 : Int32))), (.ref r300)])) _
        refine XS.iconst X315.here hx rfl (hb hby at_130) ?_
        show Steps p.tables e below (T315.setTop (mkF m 131 #[.val (.int p0), .val (.int p1), .val (.int p2), .val (.int p3), .val (.int p4), .val (.int p5), .val (.int ((p0 &&& (2147483647 : Int32)) % (6 : Int32))), .val (.ref b1), .val (.ref r300), .unset] [(.int (2 : Int32)), (.int ((own_upd (own_upd (fun _ => 0) 0 p1) ((0 : Int32)).toNatClampNeg (p1 ^^^ (1 : Int32))) ((((p0 &&& (2147483647 : Int32)) % (6 : Int32)) - (1 : Int32))).toNatClampNeg)), (.int (((p0 &&& (2147483647 : Int32)) % (6 : Int32)) - (1 : Int32))), (.ref r300)])) _
        refine XS.ixor X315.here hx rfl (hb hby at_131) rfl ?_
        show Steps p.tables e below (T315.setTop (mkF m 132 #[.val (.int p0), .val (.int p1), .val (.int p2), .val (.int p3), .val (.int p4), .val (.int p5), .val (.int ((p0 &&& (2147483647 : Int32)) % (6 : Int32))), .val (.ref b1), .val (.ref r300), .unset] [(.int (((own_upd (own_upd (fun _ => 0) 0 p1) ((0 : Int32)).toNatClampNeg (p1 ^^^ (1 : Int32))) ((((p0 &&& (2147483647 : Int32)) % (6 : Int32)) - (1 : Int32))).toNatClampNeg) ^^^ (2 : Int32))), (.int (((p0 &&& (2147483647 : Int32)) % (6 : Int32)) - (1 : Int32))), (.ref r300)])) _
        refine st328 _ ?_
        show Steps p.tables e below (T328.setTop (mkF m 133 #[.val (.int p0), .val (.int p1), .val (.int p2), .val (.int p3), .val (.int p4), .val (.int p5), .val (.int ((p0 &&& (2147483647 : Int32)) % (6 : Int32))), .val (.ref b1), .val (.ref r300), .unset] [])) _
        refine XS.aload X328.here hx rfl (hb hby at_133) rfl rfl ?_
        show Steps p.tables e below (T328.setTop (mkF m 135 #[.val (.int p0), .val (.int p1), .val (.int p2), .val (.int p3), .val (.int p4), .val (.int p5), .val (.int ((p0 &&& (2147483647 : Int32)) % (6 : Int32))), .val (.ref b1), .val (.ref r300), .unset] [(.ref b1)])) _
        refine st339.trans ?_
        show Steps p.tables e below (T339.setTop (mkF m 138 #[.val (.int p0), .val (.int p1), .val (.int p2), .val (.int p3), .val (.int p4), .val (.int p5), .val (.int ((p0 &&& (2147483647 : Int32)) % (6 : Int32))), .val (.ref b1), .val (.ref r300), .unset] [(.ref r341)])) _
        refine XS.astore X339.here hx rfl (hb hby at_138) rfl rfl (l' := #[.val (.int p0), .val (.int p1), .val (.int p2), .val (.int p3), .val (.int p4), .val (.int p5), .val (.int ((p0 &&& (2147483647 : Int32)) % (6 : Int32))), .val (.ref b1), .val (.ref r300), .val (.ref r341)]) rfl ?_
        show Steps p.tables e below (T339.setTop (mkF m 140 #[.val (.int p0), .val (.int p1), .val (.int p2), .val (.int p3), .val (.int p4), .val (.int p5), .val (.int ((p0 &&& (2147483647 : Int32)) % (6 : Int32))), .val (.ref b1), .val (.ref r300), .val (.ref r341)] [])) _
        refine XS.aload X339.here hx rfl (hb hby at_140) rfl rfl ?_
        show Steps p.tables e below (T339.setTop (mkF m 142 #[.val (.int p0), .val (.int p1), .val (.int p2), .val (.int p3), .val (.int p4), .val (.int p5), .val (.int ((p0 &&& (2147483647 : Int32)) % (6 : Int32))), .val (.ref b1), .val (.ref r300), .val (.ref r341)] [(.ref r341)])) _
        refine XS.iload X339.here hx rfl (hb hby at_142) rfl ?_
        show Steps p.tables e below (T339.setTop (mkF m 144 #[.val (.int p0), .val (.int p1), .val (.int p2), .val (.int p3), .val (.int p4), .val (.int p5), .val (.int ((p0 &&& (2147483647 : Int32)) % (6 : Int32))), .val (.ref b1), .val (.ref r300), .val (.ref r341)] [(.int ((p0 &&& (2147483647 : Int32)) % (6 : Int32))), (.ref r341)])) _
        refine XS.iloadN X339.here hx rfl (hb hby at_144) rfl ?_
        exact kt
      have zs351 : n0 ≤ T339.heap.size := Nat.le_trans Z0 k348.1
      obtain ⟨_, _, ⟨T352, L352, k352, n352⟩, -, X352, ⟨Lc352, hQ352, l352, y352, z352⟩, st352⟩ := Jvm.LawKit.callS X339 hx (y := (⟨"com/example/interleaving/interleaving/store/StateGraphInitialStatesPinLaw", "matches", "([IIIIIII)Z"⟩ : MethodName)) hown (mvT hZ (hw _ (List.mem_of_getElem? (i := 38) rfl))) (mvT hZ (hw _ (List.mem_of_getElem? (i := 39) rfl))) (mvT hZ (hw _ (List.mem_of_getElem? (i := 40) rfl))) (mvT hZ (hw _ (List.mem_of_getElem? (i := 41) rfl))) (by decide) (backOf (W := 0) (own_rm_mt l Z a0 hw [] r341 ((p0 &&& (2147483647 : Int32)) % (6 : Int32)) p1 p2 p3 p4 p5 1 (own_upd (fun _ => 0) 0 p1) T339.heap n0 zs351 c341_1 (own_kN 0 (by decide) hc15 (own_le 0 (by decide) hc25)) (by decide) (fun j hj => by rcases j with _ | j <;> first | rfl | omega)) hZ (hw _ (List.mem_of_getElem? (i := 41) rfl)) (hw _ (List.mem_of_getElem? (i := 40) rfl)) (by decide) (by decide)) (g := (mkF m 151 #[.val (.int p0), .val (.int p1), .val (.int p2), .val (.int p3), .val (.int p4), .val (.int p5), .val (.int ((p0 &&& (2147483647 : Int32)) % (6 : Int32))), .val (.ref b1), .val (.ref r300), .val (.ref r341)] [(.int p5), (.int p4), (.int p3), (.int p2), (.int p1), (.int ((p0 &&& (2147483647 : Int32)) % (6 : Int32))), (.ref r341)])) rfl (by rw [hml]; rfl) (argsL := [(.ref r341), (.int ((p0 &&& (2147483647 : Int32)) % (6 : Int32))), (.int p1), (.int p2), (.int p3), (.int p4), (.int p5)]) (rest := []) (lenOf own_pd5 rfl) rfl (by show 2 * 0 + _ ≤ _; exact Nat.le_of_eq rfl) (hb hby at_151) (fun _ _ => ⟨rfl, rfl, (by decide : 6 + 0 ≤ _), (by decide : 2136 + 0 ≤ _)⟩)
      dsimp only [Pt.U, Pt.locs, Pt.cells, Pt.slots] at X352 l352 y352 z352 st352 hQ352
      rw [l352, (y352 : k352 = 6), (z352 : n352 = 2136)] at X352
      clear l352 y352 z352
      obtain ⟨rfl, N353, eq353⟩ := hQ352
      have nf354 := Fr.app nf349 N353
      have pre355 : ∀ t, Steps p.tables e below (T352.setTop (mkF m 154 #[.val (.int p0), .val (.int p1), .val (.int p2), .val (.int p3), .val (.int p4), .val (.int p5), .val (.int ((p0 &&& (2147483647 : Int32)) % (6 : Int32))), .val (.ref b1), .val (.ref r300), .val (.ref r341)] [(.int (1 : Int32))])) t → Steps p.tables e below (s₁.setTop (entryFrame m #[(.int p0), (.int p1), (.int p2), (.int p3), (.int p4), (.int p5)] maxLocals)) t := by
        intro t kt
        refine pre350 t ?_
        show Steps p.tables e below (T339.setTop (mkF m 145 #[.val (.int p0), .val (.int p1), .val (.int p2), .val (.int p3), .val (.int p4), .val (.int p5), .val (.int ((p0 &&& (2147483647 : Int32)) % (6 : Int32))), .val (.ref b1), .val (.ref r300), .val (.ref r341)] [(.int p1), (.int ((p0 &&& (2147483647 : Int32)) % (6 : Int32))), (.ref r341)])) _
        refine XS.iloadN X339.here hx rfl (hb hby at_145) rfl ?_
        show Steps p.tables e below (T339.setTop (mkF m 146 #[.val (.int p0), .val (.int p1), .val (.int p2), .val (.int p3), .val (.int p4), .val (.int p5), .val (.int ((p0 &&& (2147483647 : Int32)) % (6 : Int32))), .val (.ref b1), .val (.ref r300), .val (.ref r341)] [(.int p2), (.int p1), (.int ((p0 &&& (2147483647 : Int32)) % (6 : Int32))), (.ref r341)])) _
        refine XS.iloadN X339.here hx rfl (hb hby at_146) rfl ?_
        show Steps p.tables e below (T339.setTop (mkF m 147 #[.val (.int p0), .val (.int p1), .val (.int p2), .val (.int p3), .val (.int p4), .val (.int p5), .val (.int ((p0 &&& (2147483647 : Int32)) % (6 : Int32))), .val (.ref b1), .val (.ref r300), .val (.ref r341)] [(.int p3), (.int p2), (.int p1), (.int ((p0 &&& (2147483647 : Int32)) % (6 : Int32))), (.ref r341)])) _
        refine XS.iload X339.here hx rfl (hb hby at_147) rfl ?_
        show Steps p.tables e below (T339.setTop (mkF m 149 #[.val (.int p0), .val (.int p1), .val (.int p2), .val (.int p3), .val (.int p4), .val (.int p5), .val (.int ((p0 &&& (2147483647 : Int32)) % (6 : Int32))), .val (.ref b1), .val (.ref r300), .val (.ref r341)] [(.int p4), (.int p3), (.int p2), (.int p1), (.int ((p0 &&& (2147483647 : Int32)) % (6 : Int32))), (.ref r341)])) _
        refine XS.iload X339.here hx rfl (hb hby at_149) rfl ?_
        show Steps p.tables e below (T339.setTop (mkF m 151 #[.val (.int p0), .val (.int p1), .val (.int p2), .val (.int p3), .val (.int p4), .val (.int p5), .val (.int ((p0 &&& (2147483647 : Int32)) % (6 : Int32))), .val (.ref b1), .val (.ref r300), .val (.ref r341)] [(.int p5), (.int p4), (.int p3), (.int p2), (.int p1), (.int ((p0 &&& (2147483647 : Int32)) % (6 : Int32))), (.ref r341)])) _
        refine st352 _ ?_
        exact kt
      obtain ⟨fs, hr, hrun, hended, hW, hsame⟩ := X352.leave (v := some (.int (1 : Int32))) (fun h => by rw [Bd.returns] at h; cases h)
      refine ⟨_, _, pre355 _ ?_, hrun, hended, _, _, rfl, ?_, ⟨_, rfl⟩, hW, hsame.mono (by decide) (by decide)⟩
      · show Steps p.tables e below (T352.setTop (mkF m 154 #[.val (.int p0), .val (.int p1), .val (.int p2), .val (.int p3), .val (.int p4), .val (.int p5), .val (.int ((p0 &&& (2147483647 : Int32)) % (6 : Int32))), .val (.ref b1), .val (.ref r300), .val (.ref r341)] [(.int (1 : Int32))])) _
        exact retN X352 hx (t := .boolean) Bd.returns (by simp) (hb hby at_154) hr
      · show own_Q_law Z p0 p1 p2 p3 p4 p5 h0 n0 (some (.int (1 : Int32))) T352.heap _
        rw [eq353]
        exact ⟨rfl, nf354⟩
  · have pre356 : ∀ t, Steps p.tables e below (T9.setTop (mkF m 69 #[.val (.int p0), .val (.int p1), .val (.int p2), .val (.int p3), .val (.int p4), .val (.int p5), .val (.int ((p0 &&& (2147483647 : Int32)) % (6 : Int32))), .val (.ref b1), .unset, .unset] [(.int (4 : Int32)), (.int ((p0 &&& (2147483647 : Int32)) % (6 : Int32)))])) t → Steps p.tables e below (s₁.setTop (entryFrame m #[(.int p0), (.int p1), (.int p2), (.int p3), (.int p4), (.int p5)] maxLocals)) t := by
      intro t kt
      refine pre14 t ?_
      show Steps p.tables e below (T9.setTop (mkF m 20 #[.val (.int p0), .val (.int p1), .val (.int p2), .val (.int p3), .val (.int p4), .val (.int p5), .val (.int ((p0 &&& (2147483647 : Int32)) % (6 : Int32))), .val (.ref b1), .unset, .unset] [(.int ((p0 &&& (2147483647 : Int32)) % (6 : Int32)))])) _
      refine XS.ifYes X9.here hx rfl (pc0 := 20) (pc' := 29) rfl (hb hby at_20) rfl ((if0 _ _).trans (flt hc15).2.2.2) (by decide) (by decide) ?_
      show Steps p.tables e below (T9.setTop (mkF m 29 #[.val (.int p0), .val (.int p1), .val (.int p2), .val (.int p3), .val (.int p4), .val (.int p5), .val (.int ((p0 &&& (2147483647 : Int32)) % (6 : Int32))), .val (.ref b1), .unset, .unset] [])) _
      refine XS.iload X9.here hx rfl (hb hby at_29) rfl ?_
      show Steps p.tables e below (T9.setTop (mkF m 31 #[.val (.int p0), .val (.int p1), .val (.int p2), .val (.int p3), .val (.int p4), .val (.int p5), .val (.int ((p0 &&& (2147483647 : Int32)) % (6 : Int32))), .val (.ref b1), .unset, .unset] [(.int ((p0 &&& (2147483647 : Int32)) % (6 : Int32)))])) _
      refine XS.iconst X9.here hx rfl (hb hby at_31) ?_
      show Steps p.tables e below (T9.setTop (mkF m 32 #[.val (.int p0), .val (.int p1), .val (.int p2), .val (.int p3), .val (.int p4), .val (.int p5), .val (.int ((p0 &&& (2147483647 : Int32)) % (6 : Int32))), .val (.ref b1), .unset, .unset] [(.int (1 : Int32)), (.int ((p0 &&& (2147483647 : Int32)) % (6 : Int32)))])) _
      refine XS.icmpYes X9.here hx rfl (pc0 := 32) (pc' := 41) rfl (hb hby at_32) rfl (flt (own_no (0 : Int32) (1 : Int32) hc15 (by decide))).2.2.2 (by decide) (by decide) ?_
      show Steps p.tables e below (T9.setTop (mkF m 41 #[.val (.int p0), .val (.int p1), .val (.int p2), .val (.int p3), .val (.int p4), .val (.int p5), .val (.int ((p0 &&& (2147483647 : Int32)) % (6 : Int32))), .val (.ref b1), .unset, .unset] [])) _
      refine XS.iload X9.here hx rfl (hb hby at_41) rfl ?_
      show Steps p.tables e below (T9.setTop (mkF m 43 #[.val (.int p0), .val (.int p1), .val (.int p2), .val (.int p3), .val (.int p4), .val (.int p5), .val (.int ((p0 &&& (2147483647 : Int32)) % (6 : Int32))), .val (.ref b1), .unset, .unset] [(.int ((p0 &&& (2147483647 : Int32)) % (6 : Int32)))])) _
      refine XS.iconst X9.here hx rfl (hb hby at_43) ?_
      show Steps p.tables e below (T9.setTop (mkF m 44 #[.val (.int p0), .val (.int p1), .val (.int p2), .val (.int p3), .val (.int p4), .val (.int p5), .val (.int ((p0 &&& (2147483647 : Int32)) % (6 : Int32))), .val (.ref b1), .unset, .unset] [(.int (2 : Int32)), (.int ((p0 &&& (2147483647 : Int32)) % (6 : Int32)))])) _
      refine XS.icmpYes X9.here hx rfl (pc0 := 44) (pc' := 53) rfl (hb hby at_44) rfl (flt (own_no (1 : Int32) (2 : Int32) (own_no (0 : Int32) (1 : Int32) hc15 (by decide)) (by decide))).2.2.2 (by decide) (by decide) ?_
      show Steps p.tables e below (T9.setTop (mkF m 53 #[.val (.int p0), .val (.int p1), .val (.int p2), .val (.int p3), .val (.int p4), .val (.int p5), .val (.int ((p0 &&& (2147483647 : Int32)) % (6 : Int32))), .val (.ref b1), .unset, .unset] [])) _
      refine XS.iload X9.here hx rfl (hb hby at_53) rfl ?_
      show Steps p.tables e below (T9.setTop (mkF m 55 #[.val (.int p0), .val (.int p1), .val (.int p2), .val (.int p3), .val (.int p4), .val (.int p5), .val (.int ((p0 &&& (2147483647 : Int32)) % (6 : Int32))), .val (.ref b1), .unset, .unset] [(.int ((p0 &&& (2147483647 : Int32)) % (6 : Int32)))])) _
      refine XS.iconst X9.here hx rfl (hb hby at_55) ?_
      show Steps p.tables e below (T9.setTop (mkF m 56 #[.val (.int p0), .val (.int p1), .val (.int p2), .val (.int p3), .val (.int p4), .val (.int p5), .val (.int ((p0 &&& (2147483647 : Int32)) % (6 : Int32))), .val (.ref b1), .unset, .unset] [(.int (3 : Int32)), (.int ((p0 &&& (2147483647 : Int32)) % (6 : Int32)))])) _
      refine XS.icmpYes X9.here hx rfl (pc0 := 56) (pc' := 66) rfl (hb hby at_56) rfl (flt (own_no (2 : Int32) (3 : Int32) (own_no (1 : Int32) (2 : Int32) (own_no (0 : Int32) (1 : Int32) hc15 (by decide)) (by decide)) (by decide))).2.2.2 (by decide) (by decide) ?_
      show Steps p.tables e below (T9.setTop (mkF m 66 #[.val (.int p0), .val (.int p1), .val (.int p2), .val (.int p3), .val (.int p4), .val (.int p5), .val (.int ((p0 &&& (2147483647 : Int32)) % (6 : Int32))), .val (.ref b1), .unset, .unset] [])) _
      refine XS.iload X9.here hx rfl (hb hby at_66) rfl ?_
      show Steps p.tables e below (T9.setTop (mkF m 68 #[.val (.int p0), .val (.int p1), .val (.int p2), .val (.int p3), .val (.int p4), .val (.int p5), .val (.int ((p0 &&& (2147483647 : Int32)) % (6 : Int32))), .val (.ref b1), .unset, .unset] [(.int ((p0 &&& (2147483647 : Int32)) % (6 : Int32)))])) _
      refine XS.iconst X9.here hx rfl (hb hby at_68) ?_
      exact kt
    have zs357 : n0 ≤ T9.heap.size := Nat.le_trans Z0 k12.1
    obtain ⟨cq359, kq359, q359a, q359b, q359c⟩ := isOf hZ rfl f11
    obtain ⟨_, _, ⟨T358, L358, k358, n358⟩, -, X358, ⟨Lc358, hQ358, l358, y358, z358⟩, st358⟩ := X9.virtualBack hx (y := (⟨"com/example/interleaving/interleaving/store/StateGraph", "initialStates", "()[I"⟩ : MethodName)) (z := (⟨"com/example/interleaving/interleaving/store/StateGraph", "initialStates", "()[I"⟩ : MethodName)) hown (mvT hZ (hw _ (List.mem_of_getElem? (i := 19) rfl))) (mvT hZ (hw _ (List.mem_of_getElem? (i := 20) rfl))) (notFace_of_selects (args := #[]) (mvT hZ (hw _ (List.mem_of_getElem? (i := 22) rfl)))) (mvT hZ (hw _ (List.mem_of_getElem? (i := 22) rfl))) (mvT hZ (hw _ (List.mem_of_getElem? (i := 21) rfl))) (by decide) (backOf (W := 0) (own_rm_ist l Z a0 hw [] b1 bx10 0 16 (fun _ => 0) T9.heap n0 zs357 c10_1 c10_2 c10_3 (by decide) (by decide) (by decide)) hZ (hw _ (List.mem_of_getElem? (i := 23) rfl)) (hw _ (List.mem_of_getElem? (i := 3) rfl)) (by decide) (by decide)) q359a q359c (g := (mkF m 81 #[.val (.int p0), .val (.int p1), .val (.int p2), .val (.int p3), .val (.int p4), .val (.int p5), .val (.int ((p0 &&& (2147483647 : Int32)) % (6 : Int32))), .val (.ref b1), .unset, .unset] [(.ref b1)])) rfl (by rw [hml]; rfl) (Steps.refl _) (argsL := []) (rest := []) (lenOf own_pd4 rfl) rfl (by show 2 * 0 + _ ≤ _; exact Nat.le_of_eq rfl) (hb hby at_81) (fun _ _ => ⟨rfl, rfl, (by decide : 4 + 1 ≤ _), (by decide : 2072 + 32 ≤ _)⟩)
    dsimp only [Pt.U, Pt.locs, Pt.cells, Pt.slots] at X358 l358 y358 z358 st358 hQ358
    rw [l358, (y358 : k358 = 5), (z358 : n358 = 2104)] at X358
    clear l358 y358 z358
    obtain ⟨r360, rfl, N360, K360, c360_0, c360_1⟩ := hQ358
    have sz_r360 : h0.size ≤ r360 := Nat.le_trans k12.1 c360_0
    have gn_r360 : n0 ≤ r360 := Nat.le_trans Z0 sz_r360
    have ne_b1_r360 : b1 ≠ r360 := Nat.ne_of_lt (Nat.lt_of_lt_of_le c10_2.lt c360_0)
    have ne_bx10_r360 : bx10 ≠ r360 := Nat.ne_of_lt (Nat.lt_of_lt_of_le c10_4.lt c360_0)
    have f361 := f11.keep K360
    have f362 := c10_1.keep K360 nin0
    have f363 := c10_2.keep K360 nin0
    have f364 := c10_3.keep K360 nin0
    have f365 := c10_4.keep K360
    have k366 := k12.trans K360 all0
    have nf367 := Fr.app nf13 N360
    have zs368 : n0 ≤ T358.heap.size := Nat.le_trans Z0 k366.1
    obtain ⟨_, _, ⟨T369, L369, k369, n369⟩, -, X369, ⟨Lc369, hQ369, l369, y369, z369⟩, st369⟩ := Jvm.LawKit.callS X358 hx (y := (⟨"com/example/interleaving/interleaving/store/StateGraphInitialStatesPinLaw", "matches", "([IIIIIII)Z"⟩ : MethodName)) hown (mvT hZ (hw _ (List.mem_of_getElem? (i := 38) rfl))) (mvT hZ (hw _ (List.mem_of_getElem? (i := 39) rfl))) (mvT hZ (hw _ (List.mem_of_getElem? (i := 40) rfl))) (mvT hZ (hw _ (List.mem_of_getElem? (i := 41) rfl))) (by decide) (backOf (W := 0) (own_rm_mt l Z a0 hw [] r360 ((p0 &&& (2147483647 : Int32)) % (6 : Int32)) p1 p2 p3 p4 p5 0 (fun _ => 0) T358.heap n0 zs368 c360_1 (own_k0 (own_kr p0).1 hc15) (by decide) (fun j hj => by rcases j with j <;> first | rfl | omega)) hZ (hw _ (List.mem_of_getElem? (i := 41) rfl)) (hw _ (List.mem_of_getElem? (i := 40) rfl)) (by decide) (by decide)) (g := (mkF m 97 #[.val (.int p0), .val (.int p1), .val (.int p2), .val (.int p3), .val (.int p4), .val (.int p5), .val (.int ((p0 &&& (2147483647 : Int32)) % (6 : Int32))), .val (.ref b1), .val (.ref r360), .unset] [(.int p5), (.int p4), (.int p3), (.int p2), (.int p1), (.int ((p0 &&& (2147483647 : Int32)) % (6 : Int32))), (.ref r360)])) rfl (by rw [hml]; rfl) (argsL := [(.ref r360), (.int ((p0 &&& (2147483647 : Int32)) % (6 : Int32))), (.int p1), (.int p2), (.int p3), (.int p4), (.int p5)]) (rest := []) (lenOf own_pd5 rfl) rfl (by show 2 * 0 + _ ≤ _; exact Nat.le_of_eq rfl) (hb hby at_97) (fun _ _ => ⟨rfl, rfl, (by decide : 5 + 0 ≤ _), (by decide : 2104 + 0 ≤ _)⟩)
    dsimp only [Pt.U, Pt.locs, Pt.cells, Pt.slots] at X369 l369 y369 z369 st369 hQ369
    rw [l369, (y369 : k369 = 5), (z369 : n369 = 2104)] at X369
    clear l369 y369 z369
    obtain ⟨rfl, N370, eq370⟩ := hQ369
    have nf371 := Fr.app nf367 N370
    have pre372 : ∀ t, Steps p.tables e below (T369.setTop (mkF m 100 #[.val (.int p0), .val (.int p1), .val (.int p2), .val (.int p3), .val (.int p4), .val (.int p5), .val (.int ((p0 &&& (2147483647 : Int32)) % (6 : Int32))), .val (.ref b1), .val (.ref r360), .unset] [(.int (1 : Int32))])) t → Steps p.tables e below (s₁.setTop (entryFrame m #[(.int p0), (.int p1), (.int p2), (.int p3), (.int p4), (.int p5)] maxLocals)) t := by
      intro t kt
      refine pre356 t ?_
      show Steps p.tables e below (T9.setTop (mkF m 69 #[.val (.int p0), .val (.int p1), .val (.int p2), .val (.int p3), .val (.int p4), .val (.int p5), .val (.int ((p0 &&& (2147483647 : Int32)) % (6 : Int32))), .val (.ref b1), .unset, .unset] [(.int (4 : Int32)), (.int ((p0 &&& (2147483647 : Int32)) % (6 : Int32)))])) _
      refine XS.icmpYes X9.here hx rfl (pc0 := 69) (pc' := 79) rfl (hb hby at_69) rfl (flt (own_no (3 : Int32) (4 : Int32) (own_no (2 : Int32) (3 : Int32) (own_no (1 : Int32) (2 : Int32) (own_no (0 : Int32) (1 : Int32) hc15 (by decide)) (by decide)) (by decide)) (by decide))).2.2.2 (by decide) (by decide) ?_
      show Steps p.tables e below (T9.setTop (mkF m 79 #[.val (.int p0), .val (.int p1), .val (.int p2), .val (.int p3), .val (.int p4), .val (.int p5), .val (.int ((p0 &&& (2147483647 : Int32)) % (6 : Int32))), .val (.ref b1), .unset, .unset] [])) _
      refine XS.aload X9.here hx rfl (hb hby at_79) rfl rfl ?_
      show Steps p.tables e below (T9.setTop (mkF m 81 #[.val (.int p0), .val (.int p1), .val (.int p2), .val (.int p3), .val (.int p4), .val (.int p5), .val (.int ((p0 &&& (2147483647 : Int32)) % (6 : Int32))), .val (.ref b1), .unset, .unset] [(.ref b1)])) _
      refine st358.trans ?_
      show Steps p.tables e below (T358.setTop (mkF m 84 #[.val (.int p0), .val (.int p1), .val (.int p2), .val (.int p3), .val (.int p4), .val (.int p5), .val (.int ((p0 &&& (2147483647 : Int32)) % (6 : Int32))), .val (.ref b1), .unset, .unset] [(.ref r360)])) _
      refine XS.astore X358.here hx rfl (hb hby at_84) rfl rfl (l' := #[.val (.int p0), .val (.int p1), .val (.int p2), .val (.int p3), .val (.int p4), .val (.int p5), .val (.int ((p0 &&& (2147483647 : Int32)) % (6 : Int32))), .val (.ref b1), .val (.ref r360), .unset]) rfl ?_
      show Steps p.tables e below (T358.setTop (mkF m 86 #[.val (.int p0), .val (.int p1), .val (.int p2), .val (.int p3), .val (.int p4), .val (.int p5), .val (.int ((p0 &&& (2147483647 : Int32)) % (6 : Int32))), .val (.ref b1), .val (.ref r360), .unset] [])) _
      refine XS.aload X358.here hx rfl (hb hby at_86) rfl rfl ?_
      show Steps p.tables e below (T358.setTop (mkF m 88 #[.val (.int p0), .val (.int p1), .val (.int p2), .val (.int p3), .val (.int p4), .val (.int p5), .val (.int ((p0 &&& (2147483647 : Int32)) % (6 : Int32))), .val (.ref b1), .val (.ref r360), .unset] [(.ref r360)])) _
      refine XS.iload X358.here hx rfl (hb hby at_88) rfl ?_
      show Steps p.tables e below (T358.setTop (mkF m 90 #[.val (.int p0), .val (.int p1), .val (.int p2), .val (.int p3), .val (.int p4), .val (.int p5), .val (.int ((p0 &&& (2147483647 : Int32)) % (6 : Int32))), .val (.ref b1), .val (.ref r360), .unset] [(.int ((p0 &&& (2147483647 : Int32)) % (6 : Int32))), (.ref r360)])) _
      refine XS.iloadN X358.here hx rfl (hb hby at_90) rfl ?_
      show Steps p.tables e below (T358.setTop (mkF m 91 #[.val (.int p0), .val (.int p1), .val (.int p2), .val (.int p3), .val (.int p4), .val (.int p5), .val (.int ((p0 &&& (2147483647 : Int32)) % (6 : Int32))), .val (.ref b1), .val (.ref r360), .unset] [(.int p1), (.int ((p0 &&& (2147483647 : Int32)) % (6 : Int32))), (.ref r360)])) _
      refine XS.iloadN X358.here hx rfl (hb hby at_91) rfl ?_
      show Steps p.tables e below (T358.setTop (mkF m 92 #[.val (.int p0), .val (.int p1), .val (.int p2), .val (.int p3), .val (.int p4), .val (.int p5), .val (.int ((p0 &&& (2147483647 : Int32)) % (6 : Int32))), .val (.ref b1), .val (.ref r360), .unset] [(.int p2), (.int p1), (.int ((p0 &&& (2147483647 : Int32)) % (6 : Int32))), (.ref r360)])) _
      refine XS.iloadN X358.here hx rfl (hb hby at_92) rfl ?_
      show Steps p.tables e below (T358.setTop (mkF m 93 #[.val (.int p0), .val (.int p1), .val (.int p2), .val (.int p3), .val (.int p4), .val (.int p5), .val (.int ((p0 &&& (2147483647 : Int32)) % (6 : Int32))), .val (.ref b1), .val (.ref r360), .unset] [(.int p3), (.int p2), (.int p1), (.int ((p0 &&& (2147483647 : Int32)) % (6 : Int32))), (.ref r360)])) _
      refine XS.iload X358.here hx rfl (hb hby at_93) rfl ?_
      show Steps p.tables e below (T358.setTop (mkF m 95 #[.val (.int p0), .val (.int p1), .val (.int p2), .val (.int p3), .val (.int p4), .val (.int p5), .val (.int ((p0 &&& (2147483647 : Int32)) % (6 : Int32))), .val (.ref b1), .val (.ref r360), .unset] [(.int p4), (.int p3), (.int p2), (.int p1), (.int ((p0 &&& (2147483647 : Int32)) % (6 : Int32))), (.ref r360)])) _
      refine XS.iload X358.here hx rfl (hb hby at_95) rfl ?_
      show Steps p.tables e below (T358.setTop (mkF m 97 #[.val (.int p0), .val (.int p1), .val (.int p2), .val (.int p3), .val (.int p4), .val (.int p5), .val (.int ((p0 &&& (2147483647 : Int32)) % (6 : Int32))), .val (.ref b1), .val (.ref r360), .unset] [(.int p5), (.int p4), (.int p3), (.int p2), (.int p1), (.int ((p0 &&& (2147483647 : Int32)) % (6 : Int32))), (.ref r360)])) _
      refine st369 _ ?_
      exact kt
    have zs373 : n0 ≤ T358.heap.size := Nat.le_trans Z0 k366.1
    obtain ⟨cq375, kq375, q375a, q375b, q375c⟩ := isOf hZ eq370 f361
    obtain ⟨_, _, ⟨T374, L374, k374, n374⟩, -, X374, ⟨Lc374, hQ374, l374, y374, z374⟩, st374⟩ := X369.virtualBack hx (y := (⟨"com/example/interleaving/interleaving/store/StateGraph", "initialStates", "()[I"⟩ : MethodName)) (z := (⟨"com/example/interleaving/interleaving/store/StateGraph", "initialStates", "()[I"⟩ : MethodName)) hown (mvT hZ (hw _ (List.mem_of_getElem? (i := 19) rfl))) (mvT hZ (hw _ (List.mem_of_getElem? (i := 20) rfl))) (notFace_of_selects (args := #[]) (mvT hZ (hw _ (List.mem_of_getElem? (i := 22) rfl)))) (mvT hZ (hw _ (List.mem_of_getElem? (i := 22) rfl))) (mvT hZ (hw _ (List.mem_of_getElem? (i := 21) rfl))) (by decide) (backOf (W := 0) (own_rm_ist l Z a0 hw [] b1 bx10 0 16 (fun _ => 0) T358.heap n0 zs373 f362 f363 f364 (by decide) (by decide) (by decide)) hZ (hw _ (List.mem_of_getElem? (i := 23) rfl)) (hw _ (List.mem_of_getElem? (i := 3) rfl)) (by decide) (by decide)) q375a q375c (g := (mkF m 135 #[.val (.int p0), .val (.int p1), .val (.int p2), .val (.int p3), .val (.int p4), .val (.int p5), .val (.int ((p0 &&& (2147483647 : Int32)) % (6 : Int32))), .val (.ref b1), .val (.ref r360), .unset] [(.ref b1)])) rfl (by rw [hml]; rfl) (Steps.refl _) (argsL := []) (rest := []) (lenOf own_pd4 rfl) rfl (by show 2 * 0 + _ ≤ _; exact Nat.le_of_eq rfl) (hb hby at_135) (fun _ _ => ⟨rfl, eq370, (by decide : 5 + 1 ≤ _), (by decide : 2104 + 32 ≤ _)⟩)
    dsimp only [Pt.U, Pt.locs, Pt.cells, Pt.slots] at X374 l374 y374 z374 st374 hQ374
    rw [l374, (y374 : k374 = 6), (z374 : n374 = 2136)] at X374
    clear l374 y374 z374
    obtain ⟨r376, rfl, N376, K376, c376_0, c376_1⟩ := hQ374
    have sz_r376 : h0.size ≤ r376 := Nat.le_trans k366.1 c376_0
    have gn_r376 : n0 ≤ r376 := Nat.le_trans Z0 sz_r376
    have ne_b1_r376 : b1 ≠ r376 := Nat.ne_of_lt (Nat.lt_of_lt_of_le f363.lt c376_0)
    have ne_bx10_r376 : bx10 ≠ r376 := Nat.ne_of_lt (Nat.lt_of_lt_of_le f365.lt c376_0)
    have ne_r360_r376 : r360 ≠ r376 := Nat.ne_of_lt (Nat.lt_of_lt_of_le c360_1.lt c376_0)
    have f377 := f361.keep K376
    have f378 := f362.keep K376 nin0
    have f379 := f363.keep K376 nin0
    have f380 := f364.keep K376 nin0
    have f381 := f365.keep K376
    have f382 := c360_1.keep K376 nin0
    have k383 := k366.trans K376 all0
    have nf384 := Fr.app nf371 N376
    have pre385 : ∀ t, Steps p.tables e below (T374.setTop (mkF m 149 #[.val (.int p0), .val (.int p1), .val (.int p2), .val (.int p3), .val (.int p4), .val (.int p5), .val (.int ((p0 &&& (2147483647 : Int32)) % (6 : Int32))), .val (.ref b1), .val (.ref r360), .val (.ref r376)] [(.int p4), (.int p3), (.int p2), (.int p1), (.int ((p0 &&& (2147483647 : Int32)) % (6 : Int32))), (.ref r376)])) t → Steps p.tables e below (s₁.setTop (entryFrame m #[(.int p0), (.int p1), (.int p2), (.int p3), (.int p4), (.int p5)] maxLocals)) t := by
      intro t kt
      refine pre372 t ?_
      show Steps p.tables e below (T369.setTop (mkF m 100 #[.val (.int p0), .val (.int p1), .val (.int p2), .val (.int p3), .val (.int p4), .val (.int p5), .val (.int ((p0 &&& (2147483647 : Int32)) % (6 : Int32))), .val (.ref b1), .val (.ref r360), .unset] [(.int (1 : Int32))])) _
      refine XS.ifYes X369.here hx rfl (pc0 := 100) (pc' := 105) rfl (hb hby at_100) rfl ((if0 _ _).trans (feq (by decide : ¬ ((1 : Int32) = (0 : Int32)))).2) (by decide) (by decide) ?_
      show Steps p.tables e below (T369.setTop (mkF m 105 #[.val (.int p0), .val (.int p1), .val (.int p2), .val (.int p3), .val (.int p4), .val (.int p5), .val (.int ((p0 &&& (2147483647 : Int32)) % (6 : Int32))), .val (.ref b1), .val (.ref r360), .unset] [])) _
      refine XS.iload X369.here hx rfl (hb hby at_105) rfl ?_
      show Steps p.tables e below (T369.setTop (mkF m 107 #[.val (.int p0), .val (.int p1), .val (.int p2), .val (.int p3), .val (.int p4), .val (.int p5), .val (.int ((p0 &&& (2147483647 : Int32)) % (6 : Int32))), .val (.ref b1), .val (.ref r360), .unset] [(.int ((p0 &&& (2147483647 : Int32)) % (6 : Int32)))])) _
      refine XS.ifYes X369.here hx rfl (pc0 := 107) (pc' := 133) rfl (hb hby at_107) rfl ((if0 _ _).trans (flt hc15).2.2.2) (by decide) (by decide) ?_
      show Steps p.tables e below (T369.setTop (mkF m 133 #[.val (.int p0), .val (.int p1), .val (.int p2), .val (.int p3), .val (.int p4), .val (.int p5), .val (.int ((p0 &&& (2147483647 : Int32)) % (6 : Int32))), .val (.ref b1), .val (.ref r360), .unset] [])) _
      refine XS.aload X369.here hx rfl (hb hby at_133) rfl rfl ?_
      show Steps p.tables e below (T369.setTop (mkF m 135 #[.val (.int p0), .val (.int p1), .val (.int p2), .val (.int p3), .val (.int p4), .val (.int p5), .val (.int ((p0 &&& (2147483647 : Int32)) % (6 : Int32))), .val (.ref b1), .val (.ref r360), .unset] [(.ref b1)])) _
      refine st374.trans ?_
      show Steps p.tables e below (T374.setTop (mkF m 138 #[.val (.int p0), .val (.int p1), .val (.int p2), .val (.int p3), .val (.int p4), .val (.int p5), .val (.int ((p0 &&& (2147483647 : Int32)) % (6 : Int32))), .val (.ref b1), .val (.ref r360), .unset] [(.ref r376)])) _
      refine XS.astore X374.here hx rfl (hb hby at_138) rfl rfl (l' := #[.val (.int p0), .val (.int p1), .val (.int p2), .val (.int p3), .val (.int p4), .val (.int p5), .val (.int ((p0 &&& (2147483647 : Int32)) % (6 : Int32))), .val (.ref b1), .val (.ref r360), .val (.ref r376)]) rfl ?_
      show Steps p.tables e below (T374.setTop (mkF m 140 #[.val (.int p0), .val (.int p1), .val (.int p2), .val (.int p3), .val (.int p4), .val (.int p5), .val (.int ((p0 &&& (2147483647 : Int32)) % (6 : Int32))), .val (.ref b1), .val (.ref r360), .val (.ref r376)] [])) _
      refine XS.aload X374.here hx rfl (hb hby at_140) rfl rfl ?_
      show Steps p.tables e below (T374.setTop (mkF m 142 #[.val (.int p0), .val (.int p1), .val (.int p2), .val (.int p3), .val (.int p4), .val (.int p5), .val (.int ((p0 &&& (2147483647 : Int32)) % (6 : Int32))), .val (.ref b1), .val (.ref r360), .val (.ref r376)] [(.ref r376)])) _
      refine XS.iload X374.here hx rfl (hb hby at_142) rfl ?_
      show Steps p.tables e below (T374.setTop (mkF m 144 #[.val (.int p0), .val (.int p1), .val (.int p2), .val (.int p3), .val (.int p4), .val (.int p5), .val (.int ((p0 &&& (2147483647 : Int32)) % (6 : Int32))), .val (.ref b1), .val (.ref r360), .val (.ref r376)] [(.int ((p0 &&& (2147483647 : Int32)) % (6 : Int32))), (.ref r376)])) _
      refine XS.iloadN X374.here hx rfl (hb hby at_144) rfl ?_
      show Steps p.tables e below (T374.setTop (mkF m 145 #[.val (.int p0), .val (.int p1), .val (.int p2), .val (.int p3), .val (.int p4), .val (.int p5), .val (.int ((p0 &&& (2147483647 : Int32)) % (6 : Int32))), .val (.ref b1), .val (.ref r360), .val (.ref r376)] [(.int p1), (.int ((p0 &&& (2147483647 : Int32)) % (6 : Int32))), (.ref r376)])) _
      refine XS.iloadN X374.here hx rfl (hb hby at_145) rfl ?_
      show Steps p.tables e below (T374.setTop (mkF m 146 #[.val (.int p0), .val (.int p1), .val (.int p2), .val (.int p3), .val (.int p4), .val (.int p5), .val (.int ((p0 &&& (2147483647 : Int32)) % (6 : Int32))), .val (.ref b1), .val (.ref r360), .val (.ref r376)] [(.int p2), (.int p1), (.int ((p0 &&& (2147483647 : Int32)) % (6 : Int32))), (.ref r376)])) _
      refine XS.iloadN X374.here hx rfl (hb hby at_146) rfl ?_
      show Steps p.tables e below (T374.setTop (mkF m 147 #[.val (.int p0), .val (.int p1), .val (.int p2), .val (.int p3), .val (.int p4), .val (.int p5), .val (.int ((p0 &&& (2147483647 : Int32)) % (6 : Int32))), .val (.ref b1), .val (.ref r360), .val (.ref r376)] [(.int p3), (.int p2), (.int p1), (.int ((p0 &&& (2147483647 : Int32)) % (6 : Int32))), (.ref r376)])) _
      refine XS.iload X374.here hx rfl (hb hby at_147) rfl ?_
      exact kt
    have zs386 : n0 ≤ T374.heap.size := Nat.le_trans Z0 k383.1
    obtain ⟨_, _, ⟨T387, L387, k387, n387⟩, -, X387, ⟨Lc387, hQ387, l387, y387, z387⟩, st387⟩ := Jvm.LawKit.callS X374 hx (y := (⟨"com/example/interleaving/interleaving/store/StateGraphInitialStatesPinLaw", "matches", "([IIIIIII)Z"⟩ : MethodName)) hown (mvT hZ (hw _ (List.mem_of_getElem? (i := 38) rfl))) (mvT hZ (hw _ (List.mem_of_getElem? (i := 39) rfl))) (mvT hZ (hw _ (List.mem_of_getElem? (i := 40) rfl))) (mvT hZ (hw _ (List.mem_of_getElem? (i := 41) rfl))) (by decide) (backOf (W := 0) (own_rm_mt l Z a0 hw [] r376 ((p0 &&& (2147483647 : Int32)) % (6 : Int32)) p1 p2 p3 p4 p5 0 (fun _ => 0) T374.heap n0 zs386 c376_1 (own_k0 (own_kr p0).1 hc15) (by decide) (fun j hj => by rcases j with j <;> first | rfl | omega)) hZ (hw _ (List.mem_of_getElem? (i := 41) rfl)) (hw _ (List.mem_of_getElem? (i := 40) rfl)) (by decide) (by decide)) (g := (mkF m 151 #[.val (.int p0), .val (.int p1), .val (.int p2), .val (.int p3), .val (.int p4), .val (.int p5), .val (.int ((p0 &&& (2147483647 : Int32)) % (6 : Int32))), .val (.ref b1), .val (.ref r360), .val (.ref r376)] [(.int p5), (.int p4), (.int p3), (.int p2), (.int p1), (.int ((p0 &&& (2147483647 : Int32)) % (6 : Int32))), (.ref r376)])) rfl (by rw [hml]; rfl) (argsL := [(.ref r376), (.int ((p0 &&& (2147483647 : Int32)) % (6 : Int32))), (.int p1), (.int p2), (.int p3), (.int p4), (.int p5)]) (rest := []) (lenOf own_pd5 rfl) rfl (by show 2 * 0 + _ ≤ _; exact Nat.le_of_eq rfl) (hb hby at_151) (fun _ _ => ⟨rfl, rfl, (by decide : 6 + 0 ≤ _), (by decide : 2136 + 0 ≤ _)⟩)
    dsimp only [Pt.U, Pt.locs, Pt.cells, Pt.slots] at X387 l387 y387 z387 st387 hQ387
    rw [l387, (y387 : k387 = 6), (z387 : n387 = 2136)] at X387
    clear l387 y387 z387
    obtain ⟨rfl, N388, eq388⟩ := hQ387
    have nf389 := Fr.app nf384 N388
    have pre390 : ∀ t, Steps p.tables e below (T387.setTop (mkF m 154 #[.val (.int p0), .val (.int p1), .val (.int p2), .val (.int p3), .val (.int p4), .val (.int p5), .val (.int ((p0 &&& (2147483647 : Int32)) % (6 : Int32))), .val (.ref b1), .val (.ref r360), .val (.ref r376)] [(.int (1 : Int32))])) t → Steps p.tables e below (s₁.setTop (entryFrame m #[(.int p0), (.int p1), (.int p2), (.int p3), (.int p4), (.int p5)] maxLocals)) t := by
      intro t kt
      refine pre385 t ?_
      show Steps p.tables e below (T374.setTop (mkF m 149 #[.val (.int p0), .val (.int p1), .val (.int p2), .val (.int p3), .val (.int p4), .val (.int p5), .val (.int ((p0 &&& (2147483647 : Int32)) % (6 : Int32))), .val (.ref b1), .val (.ref r360), .val (.ref r376)] [(.int p4), (.int p3), (.int p2), (.int p1), (.int ((p0 &&& (2147483647 : Int32)) % (6 : Int32))), (.ref r376)])) _
      refine XS.iload X374.here hx rfl (hb hby at_149) rfl ?_
      show Steps p.tables e below (T374.setTop (mkF m 151 #[.val (.int p0), .val (.int p1), .val (.int p2), .val (.int p3), .val (.int p4), .val (.int p5), .val (.int ((p0 &&& (2147483647 : Int32)) % (6 : Int32))), .val (.ref b1), .val (.ref r360), .val (.ref r376)] [(.int p5), (.int p4), (.int p3), (.int p2), (.int p1), (.int ((p0 &&& (2147483647 : Int32)) % (6 : Int32))), (.ref r376)])) _
      refine st387 _ ?_
      exact kt
    obtain ⟨fs, hr, hrun, hended, hW, hsame⟩ := X387.leave (v := some (.int (1 : Int32))) (fun h => by rw [Bd.returns] at h; cases h)
    refine ⟨_, _, pre390 _ ?_, hrun, hended, _, _, rfl, ?_, ⟨_, rfl⟩, hW, hsame.mono (by decide) (by decide)⟩
    · show Steps p.tables e below (T387.setTop (mkF m 154 #[.val (.int p0), .val (.int p1), .val (.int p2), .val (.int p3), .val (.int p4), .val (.int p5), .val (.int ((p0 &&& (2147483647 : Int32)) % (6 : Int32))), .val (.ref b1), .val (.ref r360), .val (.ref r376)] [(.int (1 : Int32))])) _
      exact retN X387 hx (t := .boolean) Bd.returns (by simp) (hb hby at_154) hr
    · show own_Q_law Z p0 p1 p2 p3 p4 p5 h0 n0 (some (.int (1 : Int32))) T387.heap _
      rw [eq388]
      exact ⟨rfl, nf389⟩
set_option maxRecDepth 65536 in
set_option maxHeartbeats 40000000 in
theorem own_comes {Post : Tables → Env → Array Value → State → Outcome → State → Prop} (hpost : ∀ tb e args s v u, (limb_1_1.after args s (.returned v) u = true ∧ limb_1_2.after args s (.returned v) u = true ∧ True) → FrameEnd s (.returned v) u (Jvm.fieldLocs frame_1_writes args s ++ Jvm.arrayLocs frame_1_arrays args s ++ Jvm.staticLocs frame_1_statics s) 24 4288 → Post tb e args s (.returned v) u) :
    ArmFor flags0 classFile x code maxLocals ret World_1 tables_1 room_1 Calls_1 rest_1 Pre_1 Post := by
  intro l hfl _ _ p e ha hc hk s m args below hf hA hF happ hP
  obtain ⟨hcalls, hrest, hpre⟩ := hP
  obtain ⟨-, -, -, hnamed, -, -, -, hat⟩ := (Spec.applies_iff hf).mp happ
  obtain ⟨hg, hn⟩ := and_e (Cond.before_iff.mp (show (Jvm.Cond.and given_1 narrow_1).before args s = true from hpre))
  obtain ⟨hcount, hq0⟩ := and_e hg
  obtain ⟨hi0, hq1⟩ := and_e hq0
  obtain ⟨hi1, hq2⟩ := and_e hq1
  obtain ⟨hi2, hq3⟩ := and_e hq2
  obtain ⟨hi3, hq4⟩ := and_e hq3
  obtain ⟨hi4, hq5⟩ := and_e hq4
  have hi5 := hq5
  obtain ⟨w0, w1, w2, w3, w4, w5, rfl⟩ : ∃ w0 w1 w2 w3 w4 w5 : Value, args = #[w0, w1, w2, w3, w4, w5] := by
    have hs : args.size = 6 := by simpa [Cond.value, given_1] using hcount
    obtain ⟨L⟩ := args
    match L, hs with
    | [w0, w1, w2, w3, w4, w5], _ => exact ⟨w0, w1, w2, w3, w4, w5, rfl⟩
  have hw := fun d (hd : d ∈ tables_1) => atoms_spec (ws := Jvm.Cond.code x code maxLocals ret :: tables_1) hat d (List.mem_cons_of_mem _ hd)
  have hfit : Fit s := fun {y c} hc i hi => by
    obtain ⟨ha, rfl⟩ := Array.getElem?_eq_some_iff.mp hc
    have q := List.all_eq_true.mp ((Array.all_eq_true_iff_forall_mem.mp hF) _ (Array.getElem_mem ha)) i (List.mem_range.mpr hi)
    simpa [Array.getElem?_eq_getElem hi] using q
  obtain ⟨i0, ei0⟩ := is_v hi0
  obtain rfl : w0 = (.int i0) := Option.some.inj ei0
  obtain ⟨i1, ei1⟩ := is_v hi1
  obtain rfl : w1 = (.int i1) := Option.some.inj ei1
  obtain ⟨i2, ei2⟩ := is_v hi2
  obtain rfl : w2 = (.int i2) := Option.some.inj ei2
  obtain ⟨i3, ei3⟩ := is_v hi3
  obtain rfl : w3 = (.int i3) := Option.some.inj ei3
  obtain ⟨i4, ei4⟩ := is_v hi4
  obtain rfl : w4 = (.int i4) := Option.some.inj ei4
  obtain ⟨i5, ei5⟩ := is_v hi5
  obtain rfl : w5 = (.int i5) := Option.some.inj ei5
  obtain ⟨n, o, h1, h2, h3, _, L, rfl, ⟨rfl, N⟩, hq⟩ := own_rm_law l s _ hw tables_1 i0 i1 i2 i3 i4 i5  s.heap s.heap.size (Nat.le_refl _)  p e ha hc hk s m _ below hf ((Spec.applies_iff_loose hf).mp happ).1 ⟨rfl, State.Warmed39.refl s, rfl⟩ trivial
  refine ⟨n, _, h1, h2, h3, hpost _ _ _ _ _ _ ⟨Cond.after_iff.mpr rfl, Cond.after_iff.mpr (eq_i res_at (Term.int_eval (1)) rfl), trivial⟩ ⟨hq.1, hq.2.1, (hq.2.2.sift fun y hy => Or.inr (N y hy)).mono (by decide) (by decide)⟩⟩
theorem main_1_1 : Claimed_1_1 := own_comes fun _ _ _ _ _ _ h hF => ⟨h.1, hF⟩
theorem main_1_2 : Claimed_1_2 := own_comes fun _ _ _ _ _ _ h hF => ⟨h.2.1, hF⟩
end Jvm.Pilot.@@N@@
namespace Jvm.Pilot.@@N@@
open Jvm Jvm.ClassFile Sem Op Lib Jvm.Free Jvm.Stand Jvm.Pilot.@@N@@.Jvm.D
/-! MADE BY PROGRAM (witnessworld.py) out of the Statement's table words and the real class files: 12 classes; the members and pool entries that the words name. The judged class is class 1, her method 1. -/
namespace start1
open Jvm.ClassFile
def u (s : String) : CpInfo := .utf8 (stringToUtf16 s)
/-- a pool by its gaps: so many unusable entries, then the entry; so many at the end -/
def gap : Nat → List CpInfo → List CpInfo
  | 0, r => r
  | n + 1, r => .unusable :: gap n r
def poolList (es : List (Nat × CpInfo)) (last : Nat) : List CpInfo := es.foldr (fun e r => gap e.1 (e.2 :: r)) (gap last [])
def pool (es : List (Nat × CpInfo)) (last : Nat) : Array CpInfo := ⟨poolList es last⟩
def fileOf (pool : Array CpInfo) (this : Nat) (attrs : Array Attribute := #[]) (ms : Array MethodInfo := #[]) (fl : Nat := 33) (sup : Nat := 0) (ifs : Array Nat := #[]) (fds : Array FieldInfo := #[]) : ClassFile where
  minorVersion := 0
  majorVersion := 65
  constantPool := pool
  accessFlags := fl
  thisClass := this
  superClass := sup
  interfaces := ifs
  fields := fds
  methods := ms
  attributes := attrs
def plain (name : String) (sup : Option ClassId) : Class where
  name := name
  kind := .ordinary
  loader := none
  accessFlags := 33
  super := sup
  interfaces := #[]
  cf := none
  fields := #[]
  methods := #[]
  instanceTypes := #[]
  staticTypes := #[]
  resolved := #[]
  callSites := []
  init := .initialized
  statics := none
  mirror := none

def pool0 : Array CpInfo := pool [(5, u "<init>"), (0, u "()V"), (1, .class_ 10), (1, u "java/lang/Object")] 113

def k0c0 : Code := { maxStack := 0, maxLocals := 1, code := object_method_1_code, exceptionTable := #[], attributes := #[] }
def k0m0 : Method := { name := "<init>", desc := "()V", sig := { parameters := [], returnType := none }, accessFlags := 1, code := some k0c0 }
/-- java/lang/Object -/
def k0 : Class := { plain "java/lang/Object" none with
  accessFlags := 33
  interfaces := #[]
  cf := some (fileOf pool0 8 #[] #[{ accessFlags := 1, nameIndex := 5, descriptorIndex := 6, attributes := #[] }] 33 0 #[] #[])
  fields := #[]
  methods := #[k0m0]
  instanceTypes := #[]
  staticTypes := #[]
  resolved := Array.replicate 124 none
  statics := none }

def pool1 : Array CpInfo := pool [(2, .class_ 4), (0, .nameAndType 5 6), (0, u "java/lang/Object"), (0, u "<init>"), (0, u "()V"), (0, .integer 2147483647), (0, .class_ 9), (0, u "com/example/interleaving/interleaving/store/StateGraph"), (0, .methodref 8 3), (0, .methodref 8 12), (0, .nameAndType 13 14), (0, u "addInitial"), (0, u "(I)V"), (0, .methodref 8 16), (0, .nameAndType 17 18), (0, u "initialStates"), (0, u "()[I"), (0, .methodref 20 21), (0, .class_ 22), (0, .nameAndType 23 24), (0, u "com/example/interleaving/interleaving/store/StateGraphInitialStatesPinLaw"), (0, u "matches"), (0, u "([IIIIIII)Z"), (2, u "law"), (0, u "(IIIIII)Z")] 5

def k1m0 : Method := { name := "<init>", desc := "()V", sig := { parameters := [], returnType := none }, accessFlags := 1, code := none }
def k1c1 : Code := { maxStack := 7, maxLocals := 10, code := code, exceptionTable := #[], attributes := #[] }
def k1m1 : Method := { name := "law", desc := "(IIIIII)Z", sig := { parameters := [.int, .int, .int, .int, .int, .int], returnType := some .boolean }, accessFlags := 9, code := some k1c1 }
def k1c2 : Code := { maxStack := 2, maxLocals := 7, code := method_3_code, exceptionTable := #[], attributes := #[] }
def k1m2 : Method := { name := "matches", desc := "([IIIIIII)Z", sig := { parameters := [(.array .int), .int, .int, .int, .int, .int, .int], returnType := some .boolean }, accessFlags := 10, code := some k1c2 }
/-- com/example/interleaving/interleaving/store/StateGraphInitialStatesPinLaw -/
def k1 : Class := { plain "com/example/interleaving/interleaving/store/StateGraphInitialStatesPinLaw" (some 0) with
  accessFlags := 49
  interfaces := #[]
  cf := some (fileOf pool1 20 #[] #[{ accessFlags := 1, nameIndex := 5, descriptorIndex := 6, attributes := #[] }, { accessFlags := 9, nameIndex := 27, descriptorIndex := 28, attributes := #[] }, { accessFlags := 10, nameIndex := 23, descriptorIndex := 24, attributes := #[] }] 49 2 #[] #[])
  fields := #[]
  methods := #[k1m0, k1m1, k1m2]
  instanceTypes := #[]
  staticTypes := #[]
  resolved := Array.replicate 34 none
  statics := none }

def pool2 : Array CpInfo := pool [(1, .methodref 2 3), (0, .class_ 4), (0, .nameAndType 5 6), (0, u "java/lang/Object"), (0, u "<init>"), (0, u "()V"), (0, .fieldref 8 9), (0, .class_ 10), (0, .nameAndType 11 12), (0, u "com/example/interleaving/interleaving/store/StateGraph"), (0, u "initial"), (0, u "[I"), (0, .fieldref 8 14), (0, .nameAndType 15 12), (0, u "targets"), (0, .fieldref 8 17), (0, .nameAndType 18 12), (0, u "firsts"), (0, .fieldref 8 20), (0, .nameAndType 21 22), (0, u "open"), (0, u "I"), (0, .fieldref 8 24), (0, .nameAndType 25 22), (0, u "initialCount"), (0, .methodref 27 28), (0, .class_ 29), (0, .nameAndType 30 31), (0, u "java/util/Arrays"), (0, u "copyOf"), (0, u "([II)[I"), (2, u "closed"), (12, u "(I)V"), (2, u "stepCount"), (18, u "addInitial"), (6, u "initialStates"), (0, u "()[I")] 20

def k2c0 : Code := { maxStack := 2, maxLocals := 1, code := prog_103_method_1_code, exceptionTable := #[], attributes := #[] }
def k2m0 : Method := { name := "<init>", desc := "()V", sig := { parameters := [], returnType := none }, accessFlags := 1, code := some k2c0 }
def k2c1 : Code := { maxStack := 5, maxLocals := 2, code := prog_103_method_2_code, exceptionTable := #[], attributes := #[] }
def k2m1 : Method := { name := "addInitial", desc := "(I)V", sig := { parameters := [.int], returnType := none }, accessFlags := 1, code := some k2c1 }
def k2c2 : Code := { maxStack := 2, maxLocals := 1, code := prog_103_method_9_code, exceptionTable := #[], attributes := #[] }
def k2m2 : Method := { name := "initialStates", desc := "()[I", sig := { parameters := [], returnType := some (.array .int) }, accessFlags := 1, code := some k2c2 }
/-- com/example/interleaving/interleaving/store/StateGraph -/
def k2 : Class := { plain "com/example/interleaving/interleaving/store/StateGraph" (some 0) with
  accessFlags := 33
  interfaces := #[]
  cf := some (fileOf pool2 8 #[] #[{ accessFlags := 1, nameIndex := 5, descriptorIndex := 6, attributes := #[] }, { accessFlags := 1, nameIndex := 69, descriptorIndex := 47, attributes := #[] }, { accessFlags := 1, nameIndex := 76, descriptorIndex := 77, attributes := #[] }] 33 2 #[] #[{ accessFlags := 2, nameIndex := 11, descriptorIndex := 12, attributes := #[] }, { accessFlags := 2, nameIndex := 25, descriptorIndex := 22, attributes := #[] }, { accessFlags := 2, nameIndex := 15, descriptorIndex := 12, attributes := #[] }, { accessFlags := 2, nameIndex := 50, descriptorIndex := 22, attributes := #[] }, { accessFlags := 2, nameIndex := 18, descriptorIndex := 12, attributes := #[] }, { accessFlags := 2, nameIndex := 34, descriptorIndex := 22, attributes := #[] }, { accessFlags := 2, nameIndex := 21, descriptorIndex := 22, attributes := #[] }])
  fields := #[{ name := "initial", type := (.array .int), accessFlags := 2, slot := 0, constantValue := 0 }, { name := "initialCount", type := .int, accessFlags := 2, slot := 1, constantValue := 0 }, { name := "targets", type := (.array .int), accessFlags := 2, slot := 2, constantValue := 0 }, { name := "stepCount", type := .int, accessFlags := 2, slot := 3, constantValue := 0 }, { name := "firsts", type := (.array .int), accessFlags := 2, slot := 4, constantValue := 0 }, { name := "closed", type := .int, accessFlags := 2, slot := 5, constantValue := 0 }, { name := "open", type := .int, accessFlags := 2, slot := 6, constantValue := 0 }]
  methods := #[k2m0, k2m1, k2m2]
  instanceTypes := #[(.array .int), .int, (.array .int), .int, (.array .int), .int, .int]
  staticTypes := #[]
  resolved := Array.replicate 98 none
  statics := none }

def pool3 : Array CpInfo := pool [(2, .class_ 4), (1, u "java/lang/Object"), (0, u "<init>"), (0, u "()V"), (7, .class_ 16), (1, u "java/util/Arrays"), (57, .class_ 76), (1, u "java/util/Arrays$NaturalOrder"), (36, .class_ 115), (1, u "java/util/Arrays$LegacyMergeSort"), (1, u "Z"), (32, .methodref 151 152), (0, .class_ 153), (0, .nameAndType 154 155), (0, u "java/lang/System"), (0, u "arraycopy"), (0, u "(Ljava/lang/Object;ILjava/lang/Object;II)V"), (146, u "copyOf"), (1, .methodref 305 306), (0, .class_ 307), (0, .nameAndType 308 309), (0, u "java/lang/Math"), (0, u "min"), (0, u "(II)I"), (65, .class_ 376), (0, u "java/util/Arrays$ArrayList"), (68, u "$assertionsDisabled"), (269, u "MIN_ARRAY_SORT_GRAN"), (0, u "I"), (2, u "INSERTIONSORT_THRESHOLD"), (151, u "([II)[I"), (103, .class_ 976), (0, u "java/util/Arrays$ArrayItr")] 52

def k3m0 : Method := { name := "<init>", desc := "()V", sig := { parameters := [], returnType := none }, accessFlags := 2, code := none }
def k3c1 : Code := { maxStack := 6, maxLocals := 3, code := jdk_65_method_123_code, exceptionTable := #[], attributes := #[] }
def k3m1 : Method := { name := "copyOf", desc := "([II)[I", sig := { parameters := [(.array .int), .int], returnType := some (.array .int) }, accessFlags := 9, code := some k3c1 }
/-- java/util/Arrays -/
def k3 : Class := { plain "java/util/Arrays" (some 0) with
  accessFlags := 49
  interfaces := #[]
  cf := some (fileOf pool3 14 #[.nestMembers #[975, 375, 113, 74]] #[{ accessFlags := 2, nameIndex := 5, descriptorIndex := 6, attributes := #[] }, { accessFlags := 9, nameIndex := 302, descriptorIndex := 871, attributes := #[] }] 49 2 #[] #[{ accessFlags := 26, nameIndex := 715, descriptorIndex := 716, attributes := #[] }, { accessFlags := 26, nameIndex := 719, descriptorIndex := 716, attributes := #[] }, { accessFlags := 4120, nameIndex := 445, descriptorIndex := 117, attributes := #[] }])
  fields := #[{ name := "MIN_ARRAY_SORT_GRAN", type := .int, accessFlags := 26, slot := 0, constantValue := 0 }, { name := "INSERTIONSORT_THRESHOLD", type := .int, accessFlags := 26, slot := 1, constantValue := 0 }, { name := "$assertionsDisabled", type := .boolean, accessFlags := 4120, slot := 2, constantValue := 0 }]
  methods := #[k3m0, k3m1]
  instanceTypes := #[]
  staticTypes := #[.int, .int, .boolean]
  resolved := Array.replicate 1029 none
  statics := none }

def pool4 : Array CpInfo := pool [(1, .class_ 2), (0, u "java/lang/Math"), (1, .class_ 6), (1, u "java/lang/Object"), (0, u "<init>"), (0, u "()V"), (89, .class_ 100), (1, u "java/lang/Math$RandomNumberGeneratorHolder"), (71, u "negativeZeroFloatBits"), (0, u "J"), (2, u "negativeZeroDoubleBits"), (24, u "min"), (43, u "$assertionsDisabled"), (0, u "Z"), (88, u "(II)I"), (2, u "twoToTheDoubleScaleDown"), (0, u "D"), (4, u "twoToTheDoubleScaleUp"), (9, u "E"), (3, u "PI"), (2, u "TAU"), (2, u "DEGREES_TO_RADIANS"), (0, u "RADIANS_TO_DEGREES")] 94

def k4m0 : Method := { name := "<init>", desc := "()V", sig := { parameters := [], returnType := none }, accessFlags := 2, code := none }
def k4c1 : Code := { maxStack := 2, maxLocals := 2, code := jdk_29_method_69_code, exceptionTable := #[], attributes := #[] }
def k4m1 : Method := { name := "min", desc := "(II)I", sig := { parameters := [.int, .int], returnType := some .int }, accessFlags := 9, code := some k4c1 }
/-- java/lang/Math -/
def k4 : Class := { plain "java/lang/Math" (some 0) with
  accessFlags := 49
  interfaces := #[]
  cf := some (fileOf pool4 1 #[.nestMembers #[98]] #[{ accessFlags := 2, nameIndex := 7, descriptorIndex := 8, attributes := #[] }, { accessFlags := 9, nameIndex := 201, descriptorIndex := 335, attributes := #[] }] 49 4 #[] #[{ accessFlags := 25, nameIndex := 354, descriptorIndex := 339, attributes := #[] }, { accessFlags := 25, nameIndex := 358, descriptorIndex := 339, attributes := #[] }, { accessFlags := 25, nameIndex := 361, descriptorIndex := 339, attributes := #[] }, { accessFlags := 26, nameIndex := 364, descriptorIndex := 339, attributes := #[] }, { accessFlags := 26, nameIndex := 365, descriptorIndex := 339, attributes := #[] }, { accessFlags := 26, nameIndex := 172, descriptorIndex := 173, attributes := #[] }, { accessFlags := 26, nameIndex := 176, descriptorIndex := 173, attributes := #[] }, { accessFlags := 8, nameIndex := 344, descriptorIndex := 339, attributes := #[] }, { accessFlags := 8, nameIndex := 338, descriptorIndex := 339, attributes := #[] }, { accessFlags := 4120, nameIndex := 245, descriptorIndex := 246, attributes := #[] }])
  fields := #[{ name := "E", type := .double, accessFlags := 25, slot := 0, constantValue := 0 }, { name := "PI", type := .double, accessFlags := 25, slot := 1, constantValue := 0 }, { name := "TAU", type := .double, accessFlags := 25, slot := 2, constantValue := 0 }, { name := "DEGREES_TO_RADIANS", type := .double, accessFlags := 26, slot := 3, constantValue := 0 }, { name := "RADIANS_TO_DEGREES", type := .double, accessFlags := 26, slot := 4, constantValue := 0 }, { name := "negativeZeroFloatBits", type := .long, accessFlags := 26, slot := 5, constantValue := 0 }, { name := "negativeZeroDoubleBits", type := .long, accessFlags := 26, slot := 6, constantValue := 0 }, { name := "twoToTheDoubleScaleUp", type := .double, accessFlags := 8, slot := 7, constantValue := 0 }, { name := "twoToTheDoubleScaleDown", type := .double, accessFlags := 8, slot := 8, constantValue := 0 }, { name := "$assertionsDisabled", type := .boolean, accessFlags := 4120, slot := 9, constantValue := 0 }]
  methods := #[k4m0, k4m1]
  instanceTypes := #[]
  staticTypes := #[.double, .double, .double, .double, .double, .long, .long, .double, .double, .boolean]
  resolved := Array.replicate 460 none
  statics := none }

def pool5 : Array CpInfo := pool [(2, .class_ 4), (1, u "java/lang/Object"), (0, u "<init>"), (0, u "()V"), (1, .class_ 10), (1, u "java/lang/System"), (0, u "allowSecurityManager"), (0, u "I"), (16, u "cons"), (0, u "Ljava/io/Console;"), (77, .class_ 110), (1, u "java/lang/System$CallersHolder"), (43, u "initialErrStream"), (0, u "Ljava/io/PrintStream;"), (19, u "security"), (0, u "Ljava/lang/SecurityManager;"), (31, .class_ 209), (0, u "java/lang/System$1"), (7, u "props"), (0, u "Ljava/util/Properties;"), (2, u "lineSeparator"), (0, u "Ljava/lang/String;"), (96, .class_ 321), (1, u "java/lang/System$LoggerFinder"), (5, .class_ 328), (0, u "java/lang/System$Logger"), (67, u "err"), (2, u "out"), (91, u "notSupportedJnuEncoding"), (15, u "in"), (17, u "initialIn"), (0, u "Ljava/io/InputStream;"), (35, u "bootLayer"), (0, u "Ljava/lang/ModuleLayer;"), (99, .class_ 664), (0, u "java/lang/System$2"), (9, u "NEVER"), (2, u "MAYBE"), (49, u "arraycopy"), (0, u "(Ljava/lang/Object;ILjava/lang/Object;II)V"), (72, .class_ 802), (0, u "java/lang/System$Logger$Level")] 31

def k5m0 : Method := { name := "<init>", desc := "()V", sig := { parameters := [], returnType := none }, accessFlags := 2, code := none }
def k5m1 : Method := { name := "arraycopy", desc := "(Ljava/lang/Object;ILjava/lang/Object;II)V", sig := { parameters := [(.object "java/lang/Object"), .int, (.object "java/lang/Object"), .int, .int], returnType := none }, accessFlags := 265, code := none }
/-- java/lang/System -/
def k5 : Class := { plain "java/lang/System" (some 0) with
  accessFlags := 49
  interfaces := #[]
  cf := some (fileOf pool5 8 #[.nestMembers #[319, 327, 801, 108, 663, 208]] #[{ accessFlags := 2, nameIndex := 5, descriptorIndex := 6, attributes := #[] }, { accessFlags := 265, nameIndex := 727, descriptorIndex := 728, attributes := #[] }] 49 2 #[] #[{ accessFlags := 25, nameIndex := 507, descriptorIndex := 526, attributes := #[] }, { accessFlags := 25, nameIndex := 399, descriptorIndex := 155, attributes := #[] }, { accessFlags := 25, nameIndex := 396, descriptorIndex := 155, attributes := #[] }, { accessFlags := 10, nameIndex := 525, descriptorIndex := 526, attributes := #[] }, { accessFlags := 26, nameIndex := 674, descriptorIndex := 12, attributes := #[] }, { accessFlags := 26, nameIndex := 677, descriptorIndex := 12, attributes := #[] }, { accessFlags := 10, nameIndex := 11, descriptorIndex := 12, attributes := #[] }, { accessFlags := 74, nameIndex := 175, descriptorIndex := 176, attributes := #[] }, { accessFlags := 10, nameIndex := 491, descriptorIndex := 222, attributes := #[] }, { accessFlags := 74, nameIndex := 29, descriptorIndex := 30, attributes := #[] }, { accessFlags := 74, nameIndex := 154, descriptorIndex := 155, attributes := #[] }, { accessFlags := 10, nameIndex := 217, descriptorIndex := 218, attributes := #[] }, { accessFlags := 10, nameIndex := 221, descriptorIndex := 222, attributes := #[] }, { accessFlags := 8, nameIndex := 562, descriptorIndex := 563, attributes := #[] }])
  fields := #[{ name := "in", type := (.object "java/io/InputStream"), accessFlags := 25, slot := 0, constantValue := 0 }, { name := "out", type := (.object "java/io/PrintStream"), accessFlags := 25, slot := 1, constantValue := 0 }, { name := "err", type := (.object "java/io/PrintStream"), accessFlags := 25, slot := 2, constantValue := 0 }, { name := "initialIn", type := (.object "java/io/InputStream"), accessFlags := 10, slot := 3, constantValue := 0 }, { name := "NEVER", type := .int, accessFlags := 26, slot := 4, constantValue := 0 }, { name := "MAYBE", type := .int, accessFlags := 26, slot := 5, constantValue := 0 }, { name := "allowSecurityManager", type := .int, accessFlags := 10, slot := 6, constantValue := 0 }, { name := "security", type := (.object "java/lang/SecurityManager"), accessFlags := 74, slot := 7, constantValue := 0 }, { name := "notSupportedJnuEncoding", type := (.object "java/lang/String"), accessFlags := 10, slot := 8, constantValue := 0 }, { name := "cons", type := (.object "java/io/Console"), accessFlags := 74, slot := 9, constantValue := 0 }, { name := "initialErrStream", type := (.object "java/io/PrintStream"), accessFlags := 74, slot := 10, constantValue := 0 }, { name := "props", type := (.object "java/util/Properties"), accessFlags := 10, slot := 11, constantValue := 0 }, { name := "lineSeparator", type := (.object "java/lang/String"), accessFlags := 10, slot := 12, constantValue := 0 }, { name := "bootLayer", type := (.object "java/lang/ModuleLayer"), accessFlags := 8, slot := 13, constantValue := 0 }]
  methods := #[k5m0, k5m1]
  instanceTypes := #[]
  staticTypes := #[(.object "java/io/InputStream"), (.object "java/io/PrintStream"), (.object "java/io/PrintStream"), (.object "java/io/InputStream"), .int, .int, .int, (.object "java/lang/SecurityManager"), (.object "java/lang/String"), (.object "java/io/Console"), (.object "java/io/PrintStream"), (.object "java/util/Properties"), (.object "java/lang/String"), (.object "java/lang/ModuleLayer")]
  resolved := Array.replicate 834 none
  statics := none }

def pool6 : Array CpInfo := pool [(1, u "java/lang/Cloneable"), (0, .class_ 1), (0, u "java/lang/Object"), (0, .class_ 3)] 3

/-- java/lang/Cloneable -/
def k6 : Class := { plain "java/lang/Cloneable" (some 0) with
  accessFlags := 1537
  interfaces := #[]
  cf := some (fileOf pool6 2 #[] #[] 1537 4 #[] #[])
  fields := #[]
  methods := #[]
  instanceTypes := #[]
  staticTypes := #[]
  resolved := Array.replicate 8 none
  statics := none }

def pool7 : Array CpInfo := pool [(1, u "java/io/Serializable"), (0, .class_ 1), (0, u "java/lang/Object"), (0, .class_ 3)] 3

/-- java/io/Serializable -/
def k7 : Class := { plain "java/io/Serializable" (some 0) with
  accessFlags := 1537
  interfaces := #[]
  cf := some (fileOf pool7 2 #[] #[] 1537 4 #[] #[])
  fields := #[]
  methods := #[]
  instanceTypes := #[]
  staticTypes := #[]
  resolved := Array.replicate 8 none
  statics := none }

/-- the primitive byte -/
def k8 : Class := { plain "byte" none with kind := .primitive 'B', accessFlags := 0x411 }
/-- [B -/
def k9 : Class := { plain "[B" (some 0) with kind := .array 8 .byte, interfaces := #[6, 7], accessFlags := 1041 }

/-- the primitive int -/
def k10 : Class := { plain "int" none with kind := .primitive 'I', accessFlags := 0x411 }
/-- [I -/
def k11 : Class := { plain "[I" (some 0) with kind := .array 10 .int, interfaces := #[6, 7], accessFlags := 1041 }

def heap : Heap := #[]
def classes : Array Class := #[k0, k1, k2, k3, k4, k5, k6, k7, k8, k9, k10, k11]
def interned : List (Array UInt16 × Addr) := []
def slotsUsed : Nat := 0
def theMethod : MethodId := ⟨1, 1⟩
def args0 : Array Value := #[.int 3, .int 6, .int 2, .int 1, .int 2, .int 3]
def aboutOver (below : List Frame) : State where
  vm := { classes := classes, interned := interned.toArray }
  heap := heap
  slotsUsed := slotsUsed
  threads := #[{ frames := .invoking theMethod args0 :: below }]
def below0 : List Frame := [.native { method := ⟨0, 0⟩, args := #[] }]
def about1 : State := aboutOver below0
def p0 : Program := .bare "" "" ""
def e0 : Env := launch0.env 0 0 0
theorem w_frames : about1.frames = Frame.invoking theMethod args0 :: below0 := rfl
set_option maxRecDepth 65536 in
theorem w_args : argsFit about1.vm theMethod args0 = true := by decide +kernel
set_option maxRecDepth 65536 in
theorem w_heap : heapFits about1 = true := by decide +kernel
set_option maxRecDepth 65536 in
theorem w_runnable : about1.curStatus? = some .runnable := by decide +kernel
set_option maxRecDepth 65536 in
theorem w_alone : about1.alone = true := by decide +kernel
set_option maxRecDepth 65536 in
theorem w_named : about1.methodNamed? x = some theMethod := by decide +kernel
set_option maxRecDepth 65536 in
theorem w_hears : about1.hears theMethod below0 = true := by decide +kernel
set_option maxRecDepth 65536 in
theorem w_ripe : about1.ripe theMethod args0 below0 = true := by decide +kernel
theorem w_running : about1.status = .running := rfl
set_option maxRecDepth 65536 in
theorem w_room : about1.hasRoom e0.platform room_1 = true :=
  launch0.hasRoom_least _ room_1 (by decide +kernel) (by decide +kernel) (by decide +kernel) (by decide +kernel) (by decide +kernel) (by decide +kernel)
theorem allAtoms_all (ts : List Jvm.Cond) (a : Array Jvm.Value) (st : Jvm.State) : (allAtoms ts).before a st = ts.all (fun c => c.before a st) := by
  induction ts with
  | nil => rfl
  | cons c t ih =>
    show (Jvm.Cond.and c (allAtoms t)).before a st = _
    rw [Jvm.Cond.before_and, ih, List.all_cons]
def words1 : List Jvm.Cond := Jvm.Cond.code x code maxLocals ret :: tables_1
/-- a 'code' word, met by the world's own term for the bytes: nothing is compared byte by byte -/
theorem code_word {y : MethodName} {bytes : ByteArray} {mx : Nat} {rt : Option FieldType} {a : Array Value} {s : State} {m : MethodId} {meth : Method} {c : Code} (h1 : s.methodNamed? y = some m) (h2 : s.vm.method? m = some meth) (h3 : meth.code = some c) (h4 : c.code = bytes)
    (h5 : (c.maxLocals == mx && c.exceptionTable.isEmpty && decide (c.maxStack ≤ mostOperands) && decide (meth.sig.returnType = rt) && !meth.locks && decide (parseMethodDescriptor y.desc = some meth.sig)) = true) : (Jvm.Cond.code y bytes mx rt).before a s = true := by
  simp only [Bool.and_eq_true, beq_iff_eq, Bool.not_eq_true', decide_eq_true_eq] at h5
  obtain ⟨⟨⟨⟨⟨g1, g2⟩, g3⟩, g4⟩, g5⟩, g6⟩ := h5
  simp [Cond.before, Cond.holds, Cond.value, h1, h2, h3, h4, g1, g2, g3, g4, g5, g6]
def isCode : Jvm.Cond → Bool
  | .code _ _ _ _ => true
  | _ => false
theorem all_split {L : List Jvm.Cond} {P : Jvm.Cond → Bool} (h1 : L.all (fun c => isCode c || P c) = true) (h2 : ∀ c ∈ L.filter isCode, P c = true) : L.all P = true := by
  refine List.all_eq_true.mpr fun c hc => ?_
  have h := List.all_eq_true.mp h1 c hc
  rcases Bool.eq_false_or_eq_true (isCode c) with hi | hi
  · exact h2 c (List.mem_filter.mpr ⟨hc, hi⟩)
  · simpa [hi] using h
set_option maxRecDepth 65536 in
theorem w_c0 : (Jvm.Cond.code x code maxLocals ret).before args0 about1 = true := code_word (m := ⟨1, 1⟩) (meth := k1m1) (c := k1c1) (by decide +kernel) rfl rfl rfl (by decide +kernel)
set_option maxRecDepth 65536 in
theorem w_c1 : (Jvm.Cond.code ({ cls := "com/example/interleaving/interleaving/store/StateGraph", name := "<init>", desc := "()V" } : Jvm.MethodName) prog_103_method_1_code (1 : Nat) (Option.none : Option Jvm.ClassFile.FieldType)).before args0 about1 = true := code_word (m := ⟨2, 0⟩) (meth := k2m0) (c := k2c0) (by decide +kernel) rfl rfl rfl (by decide +kernel)
set_option maxRecDepth 65536 in
theorem w_c2 : (Jvm.Cond.code ({ cls := "java/lang/Object", name := "<init>", desc := "()V" } : Jvm.MethodName) object_method_1_code (1 : Nat) (Option.none : Option Jvm.ClassFile.FieldType)).before args0 about1 = true := code_word (m := ⟨0, 0⟩) (meth := k0m0) (c := k0c0) (by decide +kernel) rfl rfl rfl (by decide +kernel)
set_option maxRecDepth 65536 in
theorem w_c3 : (Jvm.Cond.code ({ cls := "com/example/interleaving/interleaving/store/StateGraph", name := "initialStates", desc := "()[I" } : Jvm.MethodName) prog_103_method_9_code (1 : Nat) (Option.some (Jvm.ClassFile.FieldType.array Jvm.ClassFile.FieldType.int))).before args0 about1 = true := code_word (m := ⟨2, 2⟩) (meth := k2m2) (c := k2c2) (by decide +kernel) rfl rfl rfl (by decide +kernel)
set_option maxRecDepth 65536 in
theorem w_c4 : (Jvm.Cond.code ({ cls := "java/util/Arrays", name := "copyOf", desc := "([II)[I" } : Jvm.MethodName) jdk_65_method_123_code (3 : Nat) (Option.some (Jvm.ClassFile.FieldType.array Jvm.ClassFile.FieldType.int))).before args0 about1 = true := code_word (m := ⟨3, 1⟩) (meth := k3m1) (c := k3c1) (by decide +kernel) rfl rfl rfl (by decide +kernel)
set_option maxRecDepth 65536 in
theorem w_c5 : (Jvm.Cond.code ({ cls := "java/lang/Math", name := "min", desc := "(II)I" } : Jvm.MethodName) jdk_29_method_69_code (2 : Nat) (Option.some Jvm.ClassFile.FieldType.int)).before args0 about1 = true := code_word (m := ⟨4, 1⟩) (meth := k4m1) (c := k4c1) (by decide +kernel) rfl rfl rfl (by decide +kernel)
set_option maxRecDepth 65536 in
theorem w_c6 : (Jvm.Cond.code ({ cls := "com/example/interleaving/interleaving/store/StateGraphInitialStatesPinLaw", name := "matches", desc := "([IIIIIII)Z" } : Jvm.MethodName) method_3_code (7 : Nat) (Option.some Jvm.ClassFile.FieldType.boolean)).before args0 about1 = true := code_word (m := ⟨1, 2⟩) (meth := k1m2) (c := k1c2) (by decide +kernel) rfl rfl rfl (by decide +kernel)
set_option maxRecDepth 65536 in
theorem w_c7 : (Jvm.Cond.code ({ cls := "com/example/interleaving/interleaving/store/StateGraph", name := "addInitial", desc := "(I)V" } : Jvm.MethodName) prog_103_method_2_code (2 : Nat) (Option.none : Option Jvm.ClassFile.FieldType)).before args0 about1 = true := code_word (m := ⟨2, 1⟩) (meth := k2m1) (c := k2c1) (by decide +kernel) rfl rfl rfl (by decide +kernel)
def codes1 : List Jvm.Cond := [Jvm.Cond.code x code maxLocals ret, Jvm.Cond.code ({ cls := "com/example/interleaving/interleaving/store/StateGraph", name := "<init>", desc := "()V" } : Jvm.MethodName) prog_103_method_1_code (1 : Nat) (Option.none : Option Jvm.ClassFile.FieldType), Jvm.Cond.code ({ cls := "java/lang/Object", name := "<init>", desc := "()V" } : Jvm.MethodName) object_method_1_code (1 : Nat) (Option.none : Option Jvm.ClassFile.FieldType), Jvm.Cond.code ({ cls := "com/example/interleaving/interleaving/store/StateGraph", name := "initialStates", desc := "()[I" } : Jvm.MethodName) prog_103_method_9_code (1 : Nat) (Option.some (Jvm.ClassFile.FieldType.array Jvm.ClassFile.FieldType.int)), Jvm.Cond.code ({ cls := "java/util/Arrays", name := "copyOf", desc := "([II)[I" } : Jvm.MethodName) jdk_65_method_123_code (3 : Nat) (Option.some (Jvm.ClassFile.FieldType.array Jvm.ClassFile.FieldType.int)), Jvm.Cond.code ({ cls := "java/lang/Math", name := "min", desc := "(II)I" } : Jvm.MethodName) jdk_29_method_69_code (2 : Nat) (Option.some Jvm.ClassFile.FieldType.int), Jvm.Cond.code ({ cls := "com/example/interleaving/interleaving/store/StateGraphInitialStatesPinLaw", name := "matches", desc := "([IIIIIII)Z" } : Jvm.MethodName) method_3_code (7 : Nat) (Option.some Jvm.ClassFile.FieldType.boolean), Jvm.Cond.code ({ cls := "com/example/interleaving/interleaving/store/StateGraph", name := "addInitial", desc := "(I)V" } : Jvm.MethodName) prog_103_method_2_code (2 : Nat) (Option.none : Option Jvm.ClassFile.FieldType)]
set_option maxRecDepth 65536 in
theorem codes_eq : words1.filter isCode = codes1 := rfl
theorem w_codes : ∀ c ∈ words1.filter isCode, c.before args0 about1 = true := by
  rw [codes_eq]
  intro c hc
  simp only [codes1, List.mem_cons, List.not_mem_nil, or_false] at hc
  rcases hc with rfl | rfl | rfl | rfl | rfl | rfl | rfl | rfl
  · exact w_c0
  · exact w_c1
  · exact w_c2
  · exact w_c3
  · exact w_c4
  · exact w_c5
  · exact w_c6
  · exact w_c7
set_option maxRecDepth 65536 in
theorem w_t1 : (words1.take 24).all (fun c => isCode c || c.before args0 about1) = true := by decide +kernel
set_option maxRecDepth 65536 in
theorem w_t2 : (words1.drop 24).all (fun c => isCode c || c.before args0 about1) = true := by decide +kernel
theorem w_tables : (allAtoms (Jvm.Cond.code x code maxLocals ret :: tables_1)).before args0 about1 = true := by
  rw [allAtoms_all]
  show words1.all (fun c => c.before args0 about1) = true
  refine all_split ?_ w_codes
  rw [← List.take_append_drop 24 words1, List.all_append, w_t1, w_t2]
  rfl
set_option maxRecDepth 65536 in
theorem w_case : (Jvm.Cond.and given_1 narrow_1).before args0 about1 = true := by decide +kernel
theorem w_applies : (headSpec (Jvm.Cond.code x code maxLocals ret :: tables_1) room_1).applies x e0.platform about1 = true :=
  (Spec.applies_iff w_frames).mpr ⟨w_running, w_runnable, w_alone, w_named, w_hears, w_ripe, w_room, w_tables⟩
theorem atStart : AtStart classFile x code maxLocals ret World_1 tables_1 room_1 Calls_1 rest_1 Pre_1 launch0 p0 e0 about1 theMethod args0 below0 :=
  ⟨lists_1, trivial, launch0.admits_env _ _ _, launch0.least_env, fairChoices_fair.cas, fairChoices_fair.clock, w_frames, w_args, w_heap, w_applies, trivial, trivial, w_case⟩
end start1
theorem witness_1 : WitnessClaimed_1 := ⟨start1.p0, start1.e0, start1.about1, start1.theMethod, start1.args0, start1.below0, start1.atStart⟩
end Jvm.Pilot.@@N@@
