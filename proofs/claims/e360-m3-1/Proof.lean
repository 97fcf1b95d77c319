import JvmDerived
import JvmDerived.Pilot.@@N@@Statement
import JvmDerived.Pilot.@@N@@Code
set_option linter.unusedVariables false
set_option linter.unusedSimpArgs false
namespace Jvm.RoadKit
open Sem ClassFile Op Lib Jvm.Stand Jvm.Free Jvm.LawKit
section New
variable {p : Program} {l : Launch} {e : Env} {R : Room} {s : State} {m : MethodId} {args : Array Value} {below : List Frame} {meth : Method} {c : Code} {T : State} {locs : List Loc} {cells slots : Nat}
theorem retI (X : Stand p l e R s m args below meth c T locs cells slots) (hx : p.tables.exec = Jvm.exec) {pc : Nat} {Ls : Array Slot} {z : Int32} {rest : List Value} (hret : meth.sig.returnType = some .int) (hd : decode c.code pc = .ok (.ireturn, 1)) {fs : List Frame}
    (hl : ∀ (f : JFrame) (acts : List Action), f.method = m → f.locked = none → f.entered = [] → (doReturn e (T.setTop f) acts (some (.int z))).1 = T.setFrames fs) : Steps p.tables e below (T.setTop (mkF m pc Ls (.int z :: rest))) (T.setFrames fs) := by
  have hm' : T.vm.method? m = some meth := X.method'
  have hn : narrow .int (.int z) = .int z := rfl
  show Steps p.tables e below (T.setTop { method := m, pc := pc, locals := Ls, stack := _ :: rest, locked := none }) _
  jvm_step X.here [X.here.top, hx, hd, hm', hret, hn]
  first | (intro acts; rw [hl _ acts rfl rfl rfl]) | rw [hl _ _ rfl rfl rfl]
  exact Steps.refl _
end New
end Jvm.RoadKit
namespace Jvm.Pilot.@@N@@
open Jvm Jvm.ClassFile Sem Op Lib Jvm.Free Jvm.Stand Jvm.LawKit Jvm.RoadKit Bundle Jvm.Pilot.@@N@@.Jvm.D
def own_A (Z : State) (h : Heap) (a : Addr) (n : Nat) (f : Nat → Int32) : Prop := ∃ c : Cell, Arr Z h a c .int ∧ c.slots.size = n ∧ ∀ j, j < n → c.slots[j]? = some (.int (f j))
def own_upd (f : Nat → Int32) (i : Nat) (x : Int32) : Nat → Int32 := fun j => if j = i then x else f j
section OwnA
variable {Z : State} {h h' : Heap} {a b : Addr} {n : Nat} {f g : Nat → Int32} {sl : Nat} {v : Value} {ws : List Addr} {c : Cell} {j x z : Int32}
theorem own_A.lt (F : own_A Z h a n f) : a < h.size := by obtain ⟨c, A, -⟩ := F; exact A.lt
theorem own_A.ext (F : own_A Z h a n f) (E : Ext h h') : own_A Z h' a n f := by obtain ⟨c, A, r⟩ := F; exact ⟨c, A.ext E, r⟩
theorem own_A.other (F : own_A Z h b n f) (W : Wr h h' a sl v) (q : b ≠ a) : own_A Z h' b n f := by obtain ⟨c, A, r⟩ := F; exact ⟨c, A.other W q, r⟩
theorem own_A.keep (F : own_A Z h a n f) (K : Keep h h' ws) (q : a ∉ ws) : own_A Z h' a n f := by obtain ⟨c, A, r⟩ := F; exact ⟨c, ⟨K.2.1 a c A.1 q, A.2⟩, r⟩
theorem own_A.set {i : Nat} (F : own_A Z h a n f) (W : Wr h h' a i (.int x)) : own_A Z h' a n (own_upd f i x) := by
  obtain ⟨c, A, S, H⟩ := F
  have hi : i < c.slots.size := by obtain ⟨c2, e1, -, e3, -⟩ := W; cases A.1.symm.trans e1; exact e3
  refine ⟨_, A.same W, by rw [sz_set]; exact S, fun k hk => ?_⟩
  by_cases u : k = i
  · subst u; simp [Cell.setSlot, own_upd, hi]
  · simp only [Cell.setSlot, own_upd, if_neg u]; rw [Array.getElem?_setIfInBounds_ne (Ne.symm u)]; exact H k hk
theorem own_A.congr (F : own_A Z h a n f) (q : ∀ j, j < n → f j = g j) : own_A Z h a n g := by obtain ⟨c, A, S, H⟩ := F; exact ⟨c, A, S, fun j hj => by rw [← q j hj]; exact H j hj⟩
theorem own_A.new {k : ClassId} (A : Arr Z h a (newA k .int z) .int) (e : z.toNatClampNeg = n) : own_A Z h a n (fun _ => 0) := ⟨_, A, by rw [sz_new]; exact e, fun i hi => by simp [newA, e, hi, defaultValue]⟩
theorem own_inb (S : c.slots.size = n) (q1 : ¬ j < 0) (q2 : j.toNatClampNeg < n) : ¬ (j < 0 ∨ c.slots.size ≤ j.toNatClampNeg) := by rw [S]; intro y; rcases y with y | y; exact q1 y; omega
theorem own_len (S : c.slots.size = n) (q : n.toInt32 = z) : c.slots.size.toInt32 = z := by rw [S]; exact q
theorem own_A.arv (F : own_A Z h a n f) (hn : n < 2 ^ 31) : ∃ k, Arv Z h a k .int (Int32.ofNat n) ((List.range n).map fun j => .int (f j)) (.int 0) := by
  obtain ⟨c, A, S, H⟩ := F
  have e : (Int32.ofNat n).toInt = n := Int32.toInt_ofNat_of_lt (by omega)
  have gt : ∀ i, i < n → ((List.range n).map fun j => Value.int (f j)).getD i (.int 0) = .int (f i) := fun i hi => by simp [List.getD_eq_getElem?_getD, hi]
  refine ⟨c.cls, c, A, rfl, by simp only [Int32.toNatClampNeg, e]; omega, by rw [Int32.lt_iff_toInt_lt, e]; show ¬ (n : Int) < 0; omega, fun i hi => ?_, fun i hi => ?_⟩
  · rw [gt i (by omega)]; exact H i (by omega)
  · rw [gt i (by omega)]; rfl
end OwnA
section OwnCp
variable {p : Program} {l : Launch} {e : Env} {R : Room} {s : State} {m : MethodId} {args : Array Value} {below : List Frame} {meth : Method} {c : Code} {T : State} {locs : List Loc} {cells slots : Nat} {Z : State} {h : Heap} {a b : Addr}
theorem own_cp (X : Stand p l e R s m args below meth c T locs cells slots) (hx : p.tables.exec = Jvm.exec) (hZ : Z.Warmed39 s.vm) {a0 : Array Value} {own : String} {index : Nat} (hown : s.vm.findClass own = some m.cls)
    (w1 : (Jvm.Cond.methodLink own index Jvm.Stand.acN).before a0 Z = true) (w2 : (Jvm.Cond.native Jvm.Stand.acN).before a0 Z = true) (w3 : (Jvm.Cond.static Jvm.Stand.acN).before a0 Z = true) (w4 : (Jvm.Cond.initialized "java/lang/System").before a0 Z = true) (eT : T.heap = h)
    {N M k : Nat} {f g' : Nat → Int32} {nn : Int32} (A : own_A Z h a N f) (B : own_A Z h b M g') (hN : N < 2 ^ 31) (hM : M < 2 ^ 31) (h3 : ¬ nn < 0) (hk : nn.toNatClampNeg = k) (h4 : k ≤ N) (h5 : k ≤ M) {n0 : Nat} (Nf : Fr n0 locs) (ge : n0 ≤ b)
    {g : JFrame} (hg : g.method = m) (hsize : g.locals.size = c.maxLocals) {rest : List Value} (hs : g.stack = .int nn :: .int 0 :: .ref b :: .int 0 :: .ref a :: rest) (hd : decode c.code g.pc = .ok (.invokestatic index, 3))
    (hf : 1 ≤ R.frames) {W : Nat} (hW : 2 * g.monitorRoom + (rest.map fun v => v.category).sum ≤ W) (hlo : W + (nativeFrameWords "java/lang/System" "arraycopy" 5 + 11) ≤ R.locals) :
    ∃ T' h' L, Stand p l e R s m args below meth c T' L cells slots ∧ T'.heap = h' ∧ Fr n0 L ∧ Keep h h' [b] ∧ own_A Z h' b M (fun j => if j < k then f j else g' j) ∧
      ∀ target, Steps p.tables e below (T'.setTop { g with pc := g.pc + 3, stack := rest }) target → Steps p.tables e below (T.setTop g) target := by
  obtain ⟨ka, Aa⟩ := A.arv hN
  obtain ⟨kb, Ab⟩ := B.arv hM
  have eN : (Int32.ofNat N).toNatClampNeg = N := by have := @Int32.toInt_ofNat_of_lt N (by omega); simp only [Int32.toNatClampNeg, this]; omega
  have eM : (Int32.ofNat M).toNatClampNeg = M := by have := @Int32.toInt_ofNat_of_lt M (by omega); simp only [Int32.toNatClampNeg, this]; omega
  have z0 : (0 : Int32).toNatClampNeg = 0 := rfl
  obtain ⟨T', h', L, X', e', F', K', A', st⟩ := cpA X hx hZ hown w1 w2 w3 w4 eT (us := (List.range k).map fun j => .int (f j)) Aa Ab (Or.inl ⟨rfl, rfl⟩) (sp := 0) (dp := 0) (nn := nn) (by decide) (by decide) h3 (by rw [z0, eN, hk]; omega) (by rw [z0, eM, hk]; omega)
    (by
      rw [hk, z0]
      refine List.map_congr_left fun i hi => ?_
      have hi' := List.mem_range.mp hi
      simp [List.getD_eq_getElem?_getD, show i < N by omega])
    (by rw [z0, hk]; simp; omega) Nf ge hg hsize hs hd hf hW hlo
  refine ⟨T', h', L, X', e', F', K', ?_, st⟩
  obtain ⟨cl, Ar, -, S, -, H, -⟩ := A'
  rw [eM] at S
  refine ⟨cl, Ar, S, fun j hj => ?_⟩
  rw [H j (by omega), z0, hk]
  congr 1
  simp only [List.getD_eq_getElem?_getD, List.take_zero, List.nil_append, Nat.zero_add]
  by_cases u : j < k
  · rw [List.getElem?_append_left (by simp; exact u)]; simp [u]
  · rw [List.getElem?_append_right (by simp; omega)]; simp only [List.length_map, List.length_range, List.getElem?_drop]
    rw [show k + (j - k) = j by omega]; simp [u, hj]
theorem own_cl (X : Stand p l e R s m args below meth c T locs cells slots) (hx : p.tables.exec = Jvm.exec) (hZ : Z.Warmed39 s.vm) {a0 : Array Value} {own ad : String} {index : Nat} (hown : s.vm.findClass own = some m.cls)
    (w1 : (Jvm.Cond.methodLink own index ⟨ad, "clone", "()Ljava/lang/Object;"⟩).before a0 Z = true) (w2 : (Jvm.Cond.sameMethod ad "java/lang/Object" "clone" "()Ljava/lang/Object;").before a0 Z = true) (w3 : (Jvm.Cond.native ⟨"java/lang/Object", "clone", "()Ljava/lang/Object;"⟩).before a0 Z = true)
    (w4 : (Jvm.Cond.instanceMethod ⟨"java/lang/Object", "clone", "()Ljava/lang/Object;"⟩).before a0 Z = true) (w5 : (Jvm.Cond.selects ad ⟨ad, "clone", "()Ljava/lang/Object;"⟩ ⟨"java/lang/Object", "clone", "()Ljava/lang/Object;"⟩).before a0 Z = true) (w6 : (Jvm.Cond.castable ad "java/lang/Cloneable").before a0 Z = true)
    (eT : T.heap = h) {N : Nat} {f : Nat → Int32} (A : own_A Z h a N f) (hN : N < 2 ^ 31) (E : Exa Z h a ad) {g : JFrame} (hg : g.method = m) (hsize : g.locals.size = c.maxLocals) {rest : List Value} (hst : g.stack = .ref a :: rest) (hd : decode c.code g.pc = .ok (.invokevirtual index, 3))
    (hf : 1 ≤ R.frames) {W cap : Nat} (hW : 2 * g.monitorRoom + (rest.map fun v => v.category).sum ≤ W) (hl : W + 14 ≤ R.locals) (hcap : N ≤ cap) (hc : cells + 1 ≤ R.cells) (hsl : slots + cap ≤ R.slots) :
    ∃ T' h', Stand p l e R s m args below meth c T' locs (cells + 1) (slots + cap) ∧ T'.heap = h' ∧ Ext h h' ∧ own_A Z h' h.size N f ∧ Exa Z h' h.size ad ∧
      ∀ target, Steps p.tables e below (T'.setTop { g with pc := g.pc + 3, stack := .ref h.size :: rest }) target → Steps p.tables e below (T.setTop g) target := by
  obtain ⟨ka, Aa⟩ := A.arv hN
  have eN : (Int32.ofNat N).toNatClampNeg = N := by have := @Int32.toInt_ofNat_of_lt N (by omega); simp only [Int32.toNatClampNeg, this]; omega
  obtain ⟨T', h', X', e', ex, A', E', st⟩ := cloneH X hx hZ hown w1 w2 w3 w4 w5 w6 eT Aa.arh E hg hsize hst hd hf hW hl (by rw [eN]; exact hcap) hc hsl
  refine ⟨T', h', X', e', ex, ?_, E', st⟩
  obtain ⟨cl, Ar, -, S, -, H, -⟩ := A'
  rw [eN] at S
  refine ⟨cl, Ar, S, fun j hj => ?_⟩
  rw [H j (by omega)]
  simp [getH, List.getD_eq_getElem?_getD, hj]
end OwnCp
def own_min (x y : Int32) : Int32 := if y < x then y else x
theorem own_ofI {m : Nat} (h : m ≤ 32) : (Int32.ofNat m).toInt = m := Int32.toInt_ofNat_of_lt (by omega)
theorem own_ofN {m : Nat} (h : m ≤ 32) : (Int32.ofNat m).toNatClampNeg = m := by simp only [Int32.toNatClampNeg, own_ofI h]; omega
theorem own_of0 {m : Nat} (h : m ≤ 32) : ¬ Int32.ofNat m < 0 := by rw [Int32.lt_iff_toInt_lt, own_ofI h]; show ¬ (m : Int) < 0; omega
theorem own_inj {m n : Nat} (hm : m ≤ 32) (hn : n ≤ 32) (e : Int32.ofNat m = Int32.ofNat n) : m = n := by
  have := congrArg Int32.toInt e; rw [own_ofI hm, own_ofI hn] at this; omega
theorem own_zne {z : Int32} {N m : Nat} (hz : z = Int32.ofNat m) (hne : ¬ N = m) (hN : N ≤ 32) (hm : m ≤ 32) : ¬ z = Int32.ofNat N := fun e => hne (own_inj hm hN (hz.symm.trans e)).symm
theorem own_zeq {z : Int32} {N m : Nat} (hz : z = Int32.ofNat m) (hc : z = Int32.ofNat N) (hN : N ≤ 32) (hm : m ≤ 32) : N = m := (own_inj hm hN (hz.symm.trans hc)).symm
theorem own_mn {z : Int32} {N m : Nat} (hz : z = Int32.ofNat m) (hN : N ≤ 32) (hm : m ≤ 32) : own_min (Int32.ofNat N) z = Int32.ofNat (min N m) := by
  subst hz; simp only [own_min, Int32.lt_iff_toInt_lt, own_ofI hN, own_ofI hm]
  by_cases u : m < N
  · rw [if_pos (by omega), Nat.min_eq_right (by omega)]
  · rw [if_neg (by omega), Nat.min_eq_left (by omega)]
theorem own_mn0 {z : Int32} {N m : Nat} (hz : z = Int32.ofNat m) (hN : N ≤ 32) (hm : m ≤ 32) : ¬ own_min (Int32.ofNat N) z < 0 := by rw [own_mn hz hN hm]; exact own_of0 (by omega)
theorem own_mnk {z : Int32} {N m : Nat} (hz : z = Int32.ofNat m) (hN : N ≤ 32) (hm : m ≤ 32) : (own_min (Int32.ofNat N) z).toNatClampNeg = min N m := by rw [own_mn hz hN hm]; exact own_ofN (by omega)
theorem own_of1 (k : Nat) : Int32.ofNat k + 1 = Int32.ofNat (k + 1) := (Int32.ofNat_add k 1).symm
theorem own_d_jdk_29_method_69_0 : decode jdk_29_method_69_code 0 = .ok (.iload_n 0, 1) := by decide +kernel
theorem own_d_jdk_29_method_69_1 : decode jdk_29_method_69_code 1 = .ok (.iload_n 1, 1) := by decide +kernel
theorem own_d_jdk_29_method_69_2 : decode jdk_29_method_69_code 2 = .ok (.if_icmp .gt 7, 3) := by decide +kernel
theorem own_d_jdk_29_method_69_5 : decode jdk_29_method_69_code 5 = .ok (.iload_n 0, 1) := by decide +kernel
theorem own_d_jdk_29_method_69_6 : decode jdk_29_method_69_code 6 = .ok (.goto 4, 3) := by decide +kernel
theorem own_d_jdk_29_method_69_9 : decode jdk_29_method_69_code 9 = .ok (.iload_n 1, 1) := by decide +kernel
theorem own_d_jdk_29_method_69_10 : decode jdk_29_method_69_code 10 = .ok (.ireturn, 1) := by decide +kernel
theorem own_ef_min (m : MethodId) (p1 : Int32) (p2 : Int32) : entryFrame m #[(.int p1), (.int p2)] 2 = mkF m 0 #[.val (.int p1), .val (.int p2)] [] := by first | (simp [entryFrame, mkF, argsToLocals, Value.category]; done) | rfl
def own_Q_min (Z : State) (p1 : Int32) (p2 : Int32) (h0 : Heap) (n0 : Nat) (v : Option Value) (h : Heap) (L : List Loc) : Prop := v = some (.int (own_min p1 p2)) ∧ Fr n0 L ∧ h = h0
set_option maxRecDepth 65536 in
set_option maxHeartbeats 40000000 in
theorem own_rm_min (l : Launch) (Z : State) (a0 : Array Value) (hw : ∀ d ∈ tables_1, d.before a0 Z = true) (ws : List Jvm.Cond) (p1 : Int32) (p2 : Int32) (h0 : Heap) (n0 : Nat) (Z0 : n0 ≤ h0.size) :
    MetFree l (⟨"java/lang/Math", "min", "(II)I"⟩ : MethodName) (head1 (Jvm.Cond.code (⟨"java/lang/Math", "min", "(II)I"⟩ : MethodName) jdk_29_method_69_code 2 (some .int) :: ws) ({ frames := 0, cells := 0, slots := 0, locals := 0 } : Room)) (fun a U => a = #[(.int p1), (.int p2)] ∧ Z.Warmed39 U.vm ∧ U.heap = h0) (fun _ _ _ _ _ => True) (fun _ U o U' => ∃ v L, o = .returned v ∧ own_Q_min Z p1 p2 h0 n0 v U'.heap L ∧ FrameEnd U o U' L ({ frames := 0, cells := 0, slots := 0, locals := 0 } : Room).cells ({ frames := 0, cells := 0, slots := 0, locals := 0 } : Room).slots) := by
  refine MetFree.of_bodySF (Jvm.Free.JP.mathPlain rfl (by decide +kernel)) hisR ?_
  intro p e s m args below meth c s₁ Bd hml0 hP hK
  obtain ⟨rfl, hZ, hh⟩ := hP
  have hx := Bd.exec
  have hby := Bd.bytes
  have hml : c.maxLocals = 2 := hml0
  have hown : s.vm.findClass "java/lang/Math" = some m.cls := findClass_of_methodNamed Bd.named
  have hnm := (name_of_methodNamed Bd.named Bd.method).1
  have X0 : Stand p l e ({ frames := 0, cells := 0, slots := 0, locals := 0 } : Room) s m #[(.int p1), (.int p2)] below meth c s₁ [] 0 0 := Stand.of_body Bd
  have e0 : s₁.heap = h0 := by rw [← hh, Bd.state]; rfl
  have N0 := Fr.nil n0
  have K0 : Keep h0 h0 [] := Keep.refl _ _
  have pre0 : ∀ t, Steps p.tables e below (s₁.setTop (mkF m 0 #[.val (.int p1), .val (.int p2)] [])) t → Steps p.tables e below (s₁.setTop (entryFrame m #[(.int p1), (.int p2)] 2)) t := fun t k => castTop (own_ef_min m p1 p2) k
  have pre1 : ∀ t, Steps p.tables e below (s₁.setTop (mkF m 2 #[.val (.int p1), .val (.int p2)] [(.int p2), (.int p1)])) t → Steps p.tables e below (s₁.setTop (entryFrame m #[(.int p1), (.int p2)] 2)) t := by
    intro t kt
    refine pre0 t ?_
    show Steps p.tables e below (s₁.setTop (mkF m 0 #[.val (.int p1), .val (.int p2)] [])) _
    refine XS.iloadN X0.here hx rfl (hb hby own_d_jdk_29_method_69_0) rfl ?_
    show Steps p.tables e below (s₁.setTop (mkF m 1 #[.val (.int p1), .val (.int p2)] [(.int p1)])) _
    refine XS.iloadN X0.here hx rfl (hb hby own_d_jdk_29_method_69_1) rfl ?_
    exact kt
  by_cases hc2 : p2 < p1
  · have pre3 : ∀ t, Steps p.tables e below (s₁.setTop (mkF m 10 #[.val (.int p1), .val (.int p2)] [(.int p2)])) t → Steps p.tables e below (s₁.setTop (entryFrame m #[(.int p1), (.int p2)] 2)) t := by
      intro t kt
      refine pre1 t ?_
      show Steps p.tables e below (s₁.setTop (mkF m 2 #[.val (.int p1), .val (.int p2)] [(.int p2), (.int p1)])) _
      refine XS.icmpYes X0.here hx rfl (pc0 := 2) (pc' := 9) rfl (hb hby own_d_jdk_29_method_69_2) rfl (tlt hc2).2.2.1 (by decide) (by decide) ?_
      show Steps p.tables e below (s₁.setTop (mkF m 9 #[.val (.int p1), .val (.int p2)] [])) _
      refine XS.iloadN X0.here hx rfl (hb hby own_d_jdk_29_method_69_9) rfl ?_
      exact kt
    obtain ⟨fs, hr, hrun, hended, hW, hsame⟩ := X0.leave (v := some (.int p2)) (fun h => by rw [Bd.returns] at h; cases h)
    refine ⟨_, _, pre3 _ ?_, hrun, hended, _, _, rfl, ?_, ⟨_, rfl⟩, hW, hsame.mono (by decide) (by decide)⟩
    · show Steps p.tables e below (s₁.setTop (mkF m 10 #[.val (.int p1), .val (.int p2)] [(.int p2)])) _
      exact retI X0 hx Bd.returns (hb hby own_d_jdk_29_method_69_10) hr
    · show own_Q_min Z p1 p2 h0 n0 (some (.int p2)) s₁.heap _
      rw [e0]
      exact ⟨by simp [own_min, hc2], N0, rfl⟩
  · have pre4 : ∀ t, Steps p.tables e below (s₁.setTop (mkF m 10 #[.val (.int p1), .val (.int p2)] [(.int p1)])) t → Steps p.tables e below (s₁.setTop (entryFrame m #[(.int p1), (.int p2)] 2)) t := by
      intro t kt
      refine pre1 t ?_
      show Steps p.tables e below (s₁.setTop (mkF m 2 #[.val (.int p1), .val (.int p2)] [(.int p2), (.int p1)])) _
      refine XS.icmpNo X0.here hx rfl (hb hby own_d_jdk_29_method_69_2) rfl (flt hc2).2.2.1 ?_
      show Steps p.tables e below (s₁.setTop (mkF m 5 #[.val (.int p1), .val (.int p2)] [])) _
      refine XS.iloadN X0.here hx rfl (hb hby own_d_jdk_29_method_69_5) rfl ?_
      show Steps p.tables e below (s₁.setTop (mkF m 6 #[.val (.int p1), .val (.int p2)] [(.int p1)])) _
      refine XS.goto X0.here hx rfl (pc0 := 6) (pc' := 10) rfl (hb hby own_d_jdk_29_method_69_6) (by decide) (by decide) ?_
      exact kt
    obtain ⟨fs, hr, hrun, hended, hW, hsame⟩ := X0.leave (v := some (.int p1)) (fun h => by rw [Bd.returns] at h; cases h)
    refine ⟨_, _, pre4 _ ?_, hrun, hended, _, _, rfl, ?_, ⟨_, rfl⟩, hW, hsame.mono (by decide) (by decide)⟩
    · show Steps p.tables e below (s₁.setTop (mkF m 10 #[.val (.int p1), .val (.int p2)] [(.int p1)])) _
      exact retI X0 hx Bd.returns (hb hby own_d_jdk_29_method_69_10) hr
    · show own_Q_min Z p1 p2 h0 n0 (some (.int p1)) s₁.heap _
      rw [e0]
      exact ⟨by simp [own_min, hc2], N0, rfl⟩
theorem own_d_jdk_65_method_123_0 : decode jdk_65_method_123_code 0 = .ok (.iload_n 1, 1) := by decide +kernel
theorem own_d_jdk_65_method_123_1 : decode jdk_65_method_123_code 1 = .ok (.aload_n 0, 1) := by decide +kernel
theorem own_d_jdk_65_method_123_2 : decode jdk_65_method_123_code 2 = .ok (.arraylength, 1) := by decide +kernel
theorem own_d_jdk_65_method_123_3 : decode jdk_65_method_123_code 3 = .ok (.if_icmp .ne 11, 3) := by decide +kernel
theorem own_d_jdk_65_method_123_6 : decode jdk_65_method_123_code 6 = .ok (.aload_n 0, 1) := by decide +kernel
theorem own_d_jdk_65_method_123_7 : decode jdk_65_method_123_code 7 = .ok (.invokevirtual 316, 3) := by decide +kernel
theorem own_d_jdk_65_method_123_10 : decode jdk_65_method_123_code 10 = .ok (.checkcast 317, 3) := by decide +kernel
theorem own_d_jdk_65_method_123_13 : decode jdk_65_method_123_code 13 = .ok (.areturn, 1) := by decide +kernel
theorem own_d_jdk_65_method_123_14 : decode jdk_65_method_123_code 14 = .ok (.iload_n 1, 1) := by decide +kernel
theorem own_d_jdk_65_method_123_15 : decode jdk_65_method_123_code 15 = .ok (.newarray .int, 2) := by decide +kernel
theorem own_d_jdk_65_method_123_17 : decode jdk_65_method_123_code 17 = .ok (.astore_n 2, 1) := by decide +kernel
theorem own_d_jdk_65_method_123_18 : decode jdk_65_method_123_code 18 = .ok (.aload_n 0, 1) := by decide +kernel
theorem own_d_jdk_65_method_123_19 : decode jdk_65_method_123_code 19 = .ok (.iconst 0, 1) := by decide +kernel
theorem own_d_jdk_65_method_123_20 : decode jdk_65_method_123_code 20 = .ok (.aload_n 2, 1) := by decide +kernel
theorem own_d_jdk_65_method_123_21 : decode jdk_65_method_123_code 21 = .ok (.iconst 0, 1) := by decide +kernel
theorem own_d_jdk_65_method_123_22 : decode jdk_65_method_123_code 22 = .ok (.aload_n 0, 1) := by decide +kernel
theorem own_d_jdk_65_method_123_23 : decode jdk_65_method_123_code 23 = .ok (.arraylength, 1) := by decide +kernel
theorem own_d_jdk_65_method_123_24 : decode jdk_65_method_123_code 24 = .ok (.iload_n 1, 1) := by decide +kernel
theorem own_d_jdk_65_method_123_25 : decode jdk_65_method_123_code 25 = .ok (.invokestatic 304, 3) := by decide +kernel
theorem own_d_jdk_65_method_123_28 : decode jdk_65_method_123_code 28 = .ok (.invokestatic 150, 3) := by decide +kernel
theorem own_d_jdk_65_method_123_31 : decode jdk_65_method_123_code 31 = .ok (.aload_n 2, 1) := by decide +kernel
theorem own_d_jdk_65_method_123_32 : decode jdk_65_method_123_code 32 = .ok (.areturn, 1) := by decide +kernel
theorem own_pd0 : parseMethodDescriptor "(II)I" = some ⟨[.int, .int], some .int⟩ := by decide +kernel
theorem own_pn0 : plainName "java/util/Arrays" = true := by first | (simp [plainName, overriddenIn]; done) | decide +kernel
theorem own_ef_cpo (m : MethodId) (b : Addr) (z : Int32) : entryFrame m #[(.ref b), (.int z)] 3 = mkF m 0 #[.val (.ref b), .val (.int z), .unset] [] := by first | (simp [entryFrame, mkF, argsToLocals, Value.category]; done) | rfl
def own_Q_cpo (Z : State) (b : Addr) (z : Int32) (N : Nat) (m_ : Nat) (f : Nat → Int32) (h0 : Heap) (n0 : Nat) (v : Option Value) (h : Heap) (L : List Loc) : Prop := ∃ r : Addr, v = some (.ref r) ∧ Fr n0 L ∧ Keep h0 h [] ∧ h0.size ≤ r ∧ own_A Z h r m_ (fun j => if j < N then f j else 0) ∧ Exa Z h r "[I"
set_option maxRecDepth 65536 in
set_option maxHeartbeats 40000000 in
theorem own_rm_cpo (l : Launch) (Z : State) (a0 : Array Value) (hw : ∀ d ∈ tables_1, d.before a0 Z = true) (ws : List Jvm.Cond) (b : Addr) (z : Int32) (N : Nat) (m_ : Nat) (f : Nat → Int32) (h0 : Heap) (n0 : Nat) (Z0 : n0 ≤ h0.size) (A1 : own_A Z h0 b N f) (hz : z = Int32.ofNat m_) (hN : N ≤ 32) (hm : m_ ≤ 32) (hne : ¬ N = m_) :
    MetFree l (⟨"java/util/Arrays", "copyOf", "([II)[I"⟩ : MethodName) (head1 (Jvm.Cond.code (⟨"java/util/Arrays", "copyOf", "([II)[I"⟩ : MethodName) jdk_65_method_123_code 3 (some (.array .int)) :: ws) ({ frames := 1, cells := 1, slots := 32, locals := 40 } : Room)) (fun a U => a = #[(.ref b), (.int z)] ∧ Z.Warmed39 U.vm ∧ U.heap = h0) (fun _ _ _ _ _ => True) (fun _ U o U' => ∃ v L, o = .returned v ∧ own_Q_cpo Z b z N m_ f h0 n0 v U'.heap L ∧ FrameEnd U o U' L ({ frames := 1, cells := 1, slots := 32, locals := 40 } : Room).cells ({ frames := 1, cells := 1, slots := 32, locals := 40 } : Room).slots) := by
  refine MetFree.of_bodySF (plainFor_of_name own_pn0) hisR ?_
  intro p e s m args below meth c s₁ Bd hml0 hP hK
  obtain ⟨rfl, hZ, hh⟩ := hP
  have hx := Bd.exec
  have hby := Bd.bytes
  have hml : c.maxLocals = 3 := hml0
  have hown : s.vm.findClass "java/util/Arrays" = some m.cls := findClass_of_methodNamed Bd.named
  have hnm := (name_of_methodNamed Bd.named Bd.method).1
  have X0 : Stand p l e ({ frames := 1, cells := 1, slots := 32, locals := 40 } : Room) s m #[(.ref b), (.int z)] below meth c s₁ [] 0 0 := Stand.of_body Bd
  have e0 : s₁.heap = h0 := by rw [← hh, Bd.state]; rfl
  have N0 := Fr.nil n0
  have K0 : Keep h0 h0 [] := Keep.refl _ _
  have pre0 : ∀ t, Steps p.tables e below (s₁.setTop (mkF m 0 #[.val (.ref b), .val (.int z), .unset] [])) t → Steps p.tables e below (s₁.setTop (entryFrame m #[(.ref b), (.int z)] 3)) t := fun t k => castTop (own_ef_cpo m b z) k
  obtain ⟨cl1, Ar1, S1, -⟩ := id A1
  obtain ⟨T2, h2, k2, X2, e2, E2, A2, I2, st2⟩ := newPE X0 hx hZ (hw _ (List.mem_of_getElem? (i := 10) rfl)) e0 (g := (mkF m 15 #[.val (.ref b), .val (.int z), .unset] [(.int z)])) rfl (hb hby own_d_jdk_65_method_123_15) rfl (by rw [hz]; exact own_of0 hm) (cap := 32) (by rw [hz, own_ofN hm]; exact hm) (by decide) (by decide) (by decide) (ad := "[I") rfl
  obtain ⟨b2, g2⟩ : ∃ z, z = h0.size := ⟨_, rfl⟩
  rw [← g2] at A2 I2 st2
  have sz_b2 : h0.size ≤ b2 := Nat.le_trans K0.1 (Nat.le_of_eq g2.symm)
  have gn_b2 : n0 ≤ b2 := Nat.le_trans Z0 sz_b2
  have ne_b_b2 : b ≠ b2 := Nat.ne_of_lt (Nat.lt_of_lt_of_le A1.lt (Nat.le_of_eq g2.symm))
  have f3 := A1.ext E2
  have k4 := K0.ext E2
  have f5 : own_A Z h2 b2 m_ (fun _ => 0) := own_A.new A2 (by rw [hz]; exact own_ofN hm)
  obtain ⟨cl6, Ar6, S6, -⟩ := id f3
  have zs7 : n0 ≤ h2.size := Nat.le_trans Z0 k4.1
  obtain ⟨_, _, ⟨T8, L8, k8, n8⟩, -, X8, ⟨Lc8, hQ8, l8, y8, z8⟩, st8⟩ := Jvm.LawKit.callS X2 hx (y := (⟨"java/lang/Math", "min", "(II)I"⟩ : MethodName)) hown (mvT hZ (hw _ (List.mem_of_getElem? (i := 30) rfl))) (mvT hZ (hw _ (List.mem_of_getElem? (i := 31) rfl))) (mvT hZ (hw _ (List.mem_of_getElem? (i := 32) rfl))) (mvT hZ (hw _ (List.mem_of_getElem? (i := 33) rfl))) (by decide) (backOf (W := 4) (own_rm_min l Z a0 hw [] (Int32.ofNat N) z h2 n0 zs7 ) hZ (hw _ (List.mem_of_getElem? (i := 33) rfl)) (hw _ (List.mem_of_getElem? (i := 32) rfl)) (by decide) (by decide)) (g := (mkF m 25 #[.val (.ref b), .val (.int z), .val (.ref b2)] [(.int z), (.int (Int32.ofNat N)), (.int (0 : Int32)), (.ref b2), (.int (0 : Int32)), (.ref b)])) rfl (by rw [hml]; rfl) (argsL := [(.int (Int32.ofNat N)), (.int z)]) (rest := [(.int (0 : Int32)), (.ref b2), (.int (0 : Int32)), (.ref b)]) (lenOf own_pd0 rfl) rfl (by show 2 * 0 + _ ≤ _; exact Nat.le_of_eq rfl) (hb hby own_d_jdk_65_method_123_25) (fun _ _ => ⟨rfl, e2, (by decide : 1 + 0 ≤ _), (by decide : 32 + 0 ≤ _)⟩)
  dsimp only [Pt.U, Pt.locs, Pt.cells, Pt.slots] at X8 l8 y8 z8 st8 hQ8
  subst l8 y8 z8
  obtain ⟨rfl, N9, eq9⟩ := hQ8
  have nf10 := Fr.app N0 N9
  obtain ⟨T11, h11, L11, X11, e11, NF11, K11, A11, st11⟩ := own_cp X8 hx hZ hown (hw _ (List.mem_of_getElem? (i := 34) rfl)) (hw _ (List.mem_of_getElem? (i := 37) rfl)) (hw _ (List.mem_of_getElem? (i := 35) rfl)) (hw _ (List.mem_of_getElem? (i := 36) rfl)) eq9 f3 f5 (by omega) (by omega) (own_mn0 hz hN hm) (own_mnk hz hN hm) (Nat.min_le_left _ _) (Nat.min_le_right _ _) nf10 gn_b2 (g := (mkF m 28 #[.val (.ref b), .val (.int z), .val (.ref b2)] [(.int (own_min (Int32.ofNat N) z)), (.int (0 : Int32)), (.ref b2), (.int (0 : Int32)), (.ref b)])) rfl (by rw [hml]; rfl) (rest := []) rfl (hb hby own_d_jdk_65_method_123_28) (by decide) (W := 0) (by show 2 * 0 + _ ≤ _; exact Nat.le_of_eq rfl) (by decide)
  have f12 := f3.keep K11 (ninS ne_b_b2 nin0)
  have f13 := I2.keep K11
  have k14 := k4.trans K11 (allS (Or.inr sz_b2) all0)
  have pre15 : ∀ t, Steps p.tables e below (T11.setTop (mkF m 32 #[.val (.ref b), .val (.int z), .val (.ref b2)] [(.ref b2)])) t → Steps p.tables e below (s₁.setTop (entryFrame m #[(.ref b), (.int z)] 3)) t := by
    intro t kt
    refine pre0 t ?_
    show Steps p.tables e below (s₁.setTop (mkF m 0 #[.val (.ref b), .val (.int z), .unset] [])) _
    refine XS.iloadN X0.here hx rfl (hb hby own_d_jdk_65_method_123_0) rfl ?_
    show Steps p.tables e below (s₁.setTop (mkF m 1 #[.val (.ref b), .val (.int z), .unset] [(.int z)])) _
    refine XS.aloadN X0.here hx rfl (hb hby own_d_jdk_65_method_123_1) rfl rfl ?_
    show Steps p.tables e below (s₁.setTop (mkF m 2 #[.val (.ref b), .val (.int z), .unset] [(.ref b), (.int z)])) _
    refine X0.arraylength hx (by rw [e0]; exact Ar1.1) (State.isArrayOf_alike hZ.alike Ar1.2.1) (g := (mkF m 2 #[.val (.ref b), .val (.int z), .unset] [(.ref b), (.int z)])) rfl rfl (hb hby own_d_jdk_65_method_123_2) _ ?_
    rw [own_len (z := (Int32.ofNat N)) S1 rfl]
    show Steps p.tables e below (s₁.setTop (mkF m 3 #[.val (.ref b), .val (.int z), .unset] [(.int (Int32.ofNat N)), (.int z)])) _
    refine XS.icmpYes X0.here hx rfl (pc0 := 3) (pc' := 14) rfl (hb hby own_d_jdk_65_method_123_3) rfl (feq (own_zne hz hne hN hm)).2 (by decide) (by decide) ?_
    show Steps p.tables e below (s₁.setTop (mkF m 14 #[.val (.ref b), .val (.int z), .unset] [])) _
    refine XS.iloadN X0.here hx rfl (hb hby own_d_jdk_65_method_123_14) rfl ?_
    show Steps p.tables e below (s₁.setTop (mkF m 15 #[.val (.ref b), .val (.int z), .unset] [(.int z)])) _
    refine st2 _ ?_
    show Steps p.tables e below (T2.setTop (mkF m 17 #[.val (.ref b), .val (.int z), .unset] [(.ref b2)])) _
    refine XS.astoreN X2.here hx rfl (hb hby own_d_jdk_65_method_123_17) rfl rfl (l' := #[.val (.ref b), .val (.int z), .val (.ref b2)]) rfl ?_
    show Steps p.tables e below (T2.setTop (mkF m 18 #[.val (.ref b), .val (.int z), .val (.ref b2)] [])) _
    refine XS.aloadN X2.here hx rfl (hb hby own_d_jdk_65_method_123_18) rfl rfl ?_
    show Steps p.tables e below (T2.setTop (mkF m 19 #[.val (.ref b), .val (.int z), .val (.ref b2)] [(.ref b)])) _
    refine XS.iconst X2.here hx rfl (hb hby own_d_jdk_65_method_123_19) ?_
    show Steps p.tables e below (T2.setTop (mkF m 20 #[.val (.ref b), .val (.int z), .val (.ref b2)] [(.int (0 : Int32)), (.ref b)])) _
    refine XS.aloadN X2.here hx rfl (hb hby own_d_jdk_65_method_123_20) rfl rfl ?_
    show Steps p.tables e below (T2.setTop (mkF m 21 #[.val (.ref b), .val (.int z), .val (.ref b2)] [(.ref b2), (.int (0 : Int32)), (.ref b)])) _
    refine XS.iconst X2.here hx rfl (hb hby own_d_jdk_65_method_123_21) ?_
    show Steps p.tables e below (T2.setTop (mkF m 22 #[.val (.ref b), .val (.int z), .val (.ref b2)] [(.int (0 : Int32)), (.ref b2), (.int (0 : Int32)), (.ref b)])) _
    refine XS.aloadN X2.here hx rfl (hb hby own_d_jdk_65_method_123_22) rfl rfl ?_
    show Steps p.tables e below (T2.setTop (mkF m 23 #[.val (.ref b), .val (.int z), .val (.ref b2)] [(.ref b), (.int (0 : Int32)), (.ref b2), (.int (0 : Int32)), (.ref b)])) _
    refine X2.arraylength hx (by rw [e2]; exact Ar6.1) (State.isArrayOf_alike hZ.alike Ar6.2.1) (g := (mkF m 23 #[.val (.ref b), .val (.int z), .val (.ref b2)] [(.ref b), (.int (0 : Int32)), (.ref b2), (.int (0 : Int32)), (.ref b)])) rfl rfl (hb hby own_d_jdk_65_method_123_23) _ ?_
    rw [own_len (z := (Int32.ofNat N)) S6 rfl]
    show Steps p.tables e below (T2.setTop (mkF m 24 #[.val (.ref b), .val (.int z), .val (.ref b2)] [(.int (Int32.ofNat N)), (.int (0 : Int32)), (.ref b2), (.int (0 : Int32)), (.ref b)])) _
    refine XS.iloadN X2.here hx rfl (hb hby own_d_jdk_65_method_123_24) rfl ?_
    show Steps p.tables e below (T2.setTop (mkF m 25 #[.val (.ref b), .val (.int z), .val (.ref b2)] [(.int z), (.int (Int32.ofNat N)), (.int (0 : Int32)), (.ref b2), (.int (0 : Int32)), (.ref b)])) _
    refine st8 _ ?_
    show Steps p.tables e below (T8.setTop (mkF m 28 #[.val (.ref b), .val (.int z), .val (.ref b2)] [(.int (own_min (Int32.ofNat N) z)), (.int (0 : Int32)), (.ref b2), (.int (0 : Int32)), (.ref b)])) _
    refine st11 _ ?_
    show Steps p.tables e below (T11.setTop (mkF m 31 #[.val (.ref b), .val (.int z), .val (.ref b2)] [])) _
    refine XS.aloadN X11.here hx rfl (hb hby own_d_jdk_65_method_123_31) rfl rfl ?_
    exact kt
  obtain ⟨fs, hr, hrun, hended, hW, hsame⟩ := X11.leave (v := some (.ref b2)) (fun h => by rw [Bd.returns] at h; cases h)
  refine ⟨_, _, pre15 _ ?_, hrun, hended, _, _, rfl, ?_, ⟨_, rfl⟩, hW, hsame.mono (by decide) (by decide)⟩
  · show Steps p.tables e below (T11.setTop (mkF m 32 #[.val (.ref b), .val (.int z), .val (.ref b2)] [(.ref b2)])) _
    jvm_step X11.here [X11.here.top, hx, (hb hby own_d_jdk_65_method_123_32), X11.method', Bd.returns, Value.isRef, FieldType.isReference]
    first | (intro acts; rw [hr _ acts rfl rfl rfl]) | rw [hr _ _ rfl rfl rfl]
    exact Steps.refl _
  · show own_Q_cpo Z b z N m_ f h0 n0 (some (.ref b2)) T11.heap _
    rw [e11]
    exact ⟨_, rfl, NF11, k14, sz_b2, (A11.congr (fun j hj => by by_cases u : j < N <;> simp [u, hj, Nat.lt_min])), f13⟩
theorem own_d_prog_103_method_9_0 : decode prog_103_method_9_code 0 = .ok (.aload_n 0, 1) := by decide +kernel
theorem own_d_prog_103_method_9_1 : decode prog_103_method_9_code 1 = .ok (.getfield 7, 3) := by decide +kernel
theorem own_d_prog_103_method_9_4 : decode prog_103_method_9_code 4 = .ok (.aload_n 0, 1) := by decide +kernel
theorem own_d_prog_103_method_9_5 : decode prog_103_method_9_code 5 = .ok (.getfield 23, 3) := by decide +kernel
theorem own_d_prog_103_method_9_8 : decode prog_103_method_9_code 8 = .ok (.invokestatic 26, 3) := by decide +kernel
theorem own_d_prog_103_method_9_11 : decode prog_103_method_9_code 11 = .ok (.areturn, 1) := by decide +kernel
theorem own_pd1 : parseMethodDescriptor "([II)[I" = some ⟨[(.array .int), .int], some (.array .int)⟩ := by decide +kernel
theorem own_pn1 : plainName "com/example/interleaving/interleaving/store/StateGraph" = true := by first | (simp [plainName, overriddenIn]; done) | decide +kernel
theorem own_ef_ist (m : MethodId) (a1 : Addr) : entryFrame m #[(.ref a1)] 1 = mkF m 0 #[.val (.ref a1)] [] := by first | (simp [entryFrame, mkF, argsToLocals, Value.category]; done) | rfl
def own_Q_ist (Z : State) (a1 : Addr) (b : Addr) (k_ : Nat) (N : Nat) (f : Nat → Int32) (h0 : Heap) (n0 : Nat) (v : Option Value) (h : Heap) (L : List Loc) : Prop := ∃ r : Addr, v = some (.ref r) ∧ Fr n0 L ∧ Keep h0 h [] ∧ h0.size ≤ r ∧ own_A Z h r k_ f
set_option maxRecDepth 65536 in
set_option maxHeartbeats 40000000 in
theorem own_rm_ist (l : Launch) (Z : State) (a0 : Array Value) (hw : ∀ d ∈ tables_1, d.before a0 Z = true) (ws : List Jvm.Cond) (a1 : Addr) (b : Addr) (k_ : Nat) (N : Nat) (f : Nat → Int32) (h0 : Heap) (n0 : Nat) (Z0 : n0 ≤ h0.size) (F1 : Fld Z h0 a1 "com/example/interleaving/interleaving/store/StateGraph" "initial" "[I" (.ref b)) (F2 : Fld Z h0 a1 "com/example/interleaving/interleaving/store/StateGraph" "initialCount" "I" (.int (Int32.ofNat k_))) (A1 : own_A Z h0 b N f) (hk : k_ ≤ N) (hN : N ≤ 32) (hne : ¬ N = k_) :
    MetFree l (⟨"com/example/interleaving/interleaving/store/StateGraph", "initialStates", "()[I"⟩ : MethodName) (head1 (Jvm.Cond.code (⟨"com/example/interleaving/interleaving/store/StateGraph", "initialStates", "()[I"⟩ : MethodName) prog_103_method_9_code 1 (some (.array .int)) :: ws) ({ frames := 2, cells := 1, slots := 32, locals := 54 } : Room)) (fun a U => a = #[(.ref a1)] ∧ Z.Warmed39 U.vm ∧ U.heap = h0) (fun _ _ _ _ _ => True) (fun _ U o U' => ∃ v L, o = .returned v ∧ own_Q_ist Z a1 b k_ N f h0 n0 v U'.heap L ∧ FrameEnd U o U' L ({ frames := 2, cells := 1, slots := 32, locals := 54 } : Room).cells ({ frames := 2, cells := 1, slots := 32, locals := 54 } : Room).slots) := by
  refine MetFree.of_bodySF (plainFor_of_name own_pn1) hisR ?_
  intro p e s m args below meth c s₁ Bd hml0 hP hK
  obtain ⟨rfl, hZ, hh⟩ := hP
  have hx := Bd.exec
  have hby := Bd.bytes
  have hml : c.maxLocals = 1 := hml0
  have hown : s.vm.findClass "com/example/interleaving/interleaving/store/StateGraph" = some m.cls := findClass_of_methodNamed Bd.named
  have hnm := (name_of_methodNamed Bd.named Bd.method).1
  have X0 : Stand p l e ({ frames := 2, cells := 1, slots := 32, locals := 54 } : Room) s m #[(.ref a1)] below meth c s₁ [] 0 0 := Stand.of_body Bd
  have e0 : s₁.heap = h0 := by rw [← hh, Bd.state]; rfl
  have N0 := Fr.nil n0
  have K0 : Keep h0 h0 [] := Keep.refl _ _
  have pre0 : ∀ t, Steps p.tables e below (s₁.setTop (mkF m 0 #[.val (.ref a1)] [])) t → Steps p.tables e below (s₁.setTop (entryFrame m #[(.ref a1)] 1)) t := fun t k => castTop (own_ef_ist m a1) k
  obtain ⟨T1, X1, e1, st1⟩ := getF X0 hx hZ hown (host := "") (Or.inl (hw _ (List.mem_of_getElem? (i := 11) rfl))) Via.refl e0 F1 (g := (mkF m 1 #[.val (.ref a1)] [(.ref a1)])) rfl rfl (hb hby own_d_prog_103_method_9_1)
  obtain ⟨T2, X2, e2, st2⟩ := getF X1 hx hZ hown (host := "") (Or.inl (hw _ (List.mem_of_getElem? (i := 24) rfl))) Via.refl e1 F2 (g := (mkF m 5 #[.val (.ref a1)] [(.ref a1), (.ref b)])) rfl rfl (hb hby own_d_prog_103_method_9_5)
  have zs3 : n0 ≤ h0.size := Nat.le_trans Z0 K0.1
  obtain ⟨_, _, ⟨T4, L4, k4, n4⟩, -, X4, ⟨Lc4, hQ4, l4, y4, z4⟩, st4⟩ := Jvm.LawKit.callS X2 hx (y := (⟨"java/util/Arrays", "copyOf", "([II)[I"⟩ : MethodName)) hown (mvT hZ (hw _ (List.mem_of_getElem? (i := 26) rfl))) (mvT hZ (hw _ (List.mem_of_getElem? (i := 27) rfl))) (mvT hZ (hw _ (List.mem_of_getElem? (i := 28) rfl))) (mvT hZ (hw _ (List.mem_of_getElem? (i := 29) rfl))) (by decide) (backOf (W := 0) (own_rm_cpo l Z a0 hw [] b (Int32.ofNat k_) N k_ f h0 n0 zs3 A1 rfl hN (by omega) hne) hZ (hw _ (List.mem_of_getElem? (i := 29) rfl)) (hw _ (List.mem_of_getElem? (i := 28) rfl)) (by decide) (by decide)) (g := (mkF m 8 #[.val (.ref a1)] [(.int (Int32.ofNat k_)), (.ref b)])) rfl (by rw [hml]; rfl) (argsL := [(.ref b), (.int (Int32.ofNat k_))]) (rest := []) (lenOf own_pd1 rfl) rfl (by show 2 * 0 + _ ≤ _; exact Nat.le_of_eq rfl) (hb hby own_d_prog_103_method_9_8) (fun _ _ => ⟨rfl, e2, (by decide : 0 + 1 ≤ _), (by decide : 0 + 32 ≤ _)⟩)
  dsimp only [Pt.U, Pt.locs, Pt.cells, Pt.slots] at X4 l4 y4 z4 st4 hQ4
  subst l4 y4 z4
  obtain ⟨r5, rfl, N5, K5, c5_0, c5_1, c5_2⟩ := hQ4
  have sz_r5 : h0.size ≤ r5 := Nat.le_trans K0.1 c5_0
  have gn_r5 : n0 ≤ r5 := Nat.le_trans Z0 sz_r5
  have ne_a1_r5 : a1 ≠ r5 := Nat.ne_of_lt (Nat.lt_of_lt_of_le F2.lt c5_0)
  have ne_b_r5 : b ≠ r5 := Nat.ne_of_lt (Nat.lt_of_lt_of_le A1.lt c5_0)
  have f6 := F1.keep K5 nin0
  have f7 := F2.keep K5 nin0
  have f8 := A1.keep K5 nin0
  have k9 := K0.trans K5 all0
  have nf10 := Fr.app N0 N5
  have pre11 : ∀ t, Steps p.tables e below (T4.setTop (mkF m 11 #[.val (.ref a1)] [(.ref r5)])) t → Steps p.tables e below (s₁.setTop (entryFrame m #[(.ref a1)] 1)) t := by
    intro t kt
    refine pre0 t ?_
    show Steps p.tables e below (s₁.setTop (mkF m 0 #[.val (.ref a1)] [])) _
    refine XS.aloadN X0.here hx rfl (hb hby own_d_prog_103_method_9_0) rfl rfl ?_
    show Steps p.tables e below (s₁.setTop (mkF m 1 #[.val (.ref a1)] [(.ref a1)])) _
    refine st1 _ ?_
    show Steps p.tables e below (T1.setTop (mkF m 4 #[.val (.ref a1)] [(.ref b)])) _
    refine XS.aloadN X1.here hx rfl (hb hby own_d_prog_103_method_9_4) rfl rfl ?_
    show Steps p.tables e below (T1.setTop (mkF m 5 #[.val (.ref a1)] [(.ref a1), (.ref b)])) _
    refine st2 _ ?_
    show Steps p.tables e below (T2.setTop (mkF m 8 #[.val (.ref a1)] [(.int (Int32.ofNat k_)), (.ref b)])) _
    refine st4 _ ?_
    exact kt
  obtain ⟨fs, hr, hrun, hended, hW, hsame⟩ := X4.leave (v := some (.ref r5)) (fun h => by rw [Bd.returns] at h; cases h)
  refine ⟨_, _, pre11 _ ?_, hrun, hended, _, _, rfl, ?_, ⟨_, rfl⟩, hW, hsame.mono (by decide) (by decide)⟩
  · show Steps p.tables e below (T4.setTop (mkF m 11 #[.val (.ref a1)] [(.ref r5)])) _
    jvm_step X4.here [X4.here.top, hx, (hb hby own_d_prog_103_method_9_11), X4.method', Bd.returns, Value.isRef, FieldType.isReference]
    first | (intro acts; rw [hr _ acts rfl rfl rfl]) | rw [hr _ _ rfl rfl rfl]
    exact Steps.refl _
  · show own_Q_ist Z a1 b k_ N f h0 n0 (some (.ref r5)) T4.heap _
    skip
    exact ⟨_, rfl, nf10, k9, sz_r5, c5_1.congr fun j hj => if_pos (by omega)⟩
theorem own_d_prog_103_method_1_0 : decode prog_103_method_1_code 0 = .ok (.aload_n 0, 1) := by decide +kernel
theorem own_d_prog_103_method_1_1 : decode prog_103_method_1_code 1 = .ok (.invokespecial 1, 3) := by decide +kernel
theorem own_d_prog_103_method_1_4 : decode prog_103_method_1_code 4 = .ok (.aload_n 0, 1) := by decide +kernel
theorem own_d_prog_103_method_1_5 : decode prog_103_method_1_code 5 = .ok (.bipush 16, 2) := by decide +kernel
theorem own_d_prog_103_method_1_7 : decode prog_103_method_1_code 7 = .ok (.newarray .int, 2) := by decide +kernel
theorem own_d_prog_103_method_1_9 : decode prog_103_method_1_code 9 = .ok (.putfield 7, 3) := by decide +kernel
theorem own_d_prog_103_method_1_12 : decode prog_103_method_1_code 12 = .ok (.aload_n 0, 1) := by decide +kernel
theorem own_d_prog_103_method_1_13 : decode prog_103_method_1_code 13 = .ok (.sipush 1024, 3) := by decide +kernel
theorem own_d_prog_103_method_1_16 : decode prog_103_method_1_code 16 = .ok (.newarray .int, 2) := by decide +kernel
theorem own_d_prog_103_method_1_18 : decode prog_103_method_1_code 18 = .ok (.putfield 13, 3) := by decide +kernel
theorem own_d_prog_103_method_1_21 : decode prog_103_method_1_code 21 = .ok (.aload_n 0, 1) := by decide +kernel
theorem own_d_prog_103_method_1_22 : decode prog_103_method_1_code 22 = .ok (.sipush 1025, 3) := by decide +kernel
theorem own_d_prog_103_method_1_25 : decode prog_103_method_1_code 25 = .ok (.newarray .int, 2) := by decide +kernel
theorem own_d_prog_103_method_1_27 : decode prog_103_method_1_code 27 = .ok (.putfield 16, 3) := by decide +kernel
theorem own_d_prog_103_method_1_30 : decode prog_103_method_1_code 30 = .ok (.aload_n 0, 1) := by decide +kernel
theorem own_d_prog_103_method_1_31 : decode prog_103_method_1_code 31 = .ok (.iconst (-1), 1) := by decide +kernel
theorem own_d_prog_103_method_1_32 : decode prog_103_method_1_code 32 = .ok (.putfield 19, 3) := by decide +kernel
theorem own_d_prog_103_method_1_35 : decode prog_103_method_1_code 35 = .ok (.return_, 1) := by decide +kernel
theorem own_ef_ctor (m : MethodId) (a1 : Addr) : entryFrame m #[(.ref a1)] 1 = mkF m 0 #[.val (.ref a1)] [] := by first | (simp [entryFrame, mkF, argsToLocals, Value.category]; done) | rfl
def own_Q_ctor (Z : State) (a1 : Addr) (h0 : Heap) (n0 : Nat) (v : Option Value) (h : Heap) (L : List Loc) : Prop := ∃ b : Addr, v = none ∧ Fr n0 L ∧ Keep h0 h [a1] ∧ h0.size ≤ b ∧ Fld Z h a1 "com/example/interleaving/interleaving/store/StateGraph" "initial" "[I" (.ref b) ∧ Fld Z h a1 "com/example/interleaving/interleaving/store/StateGraph" "initialCount" "I" (.int (0 : Int32)) ∧ own_A Z h b 16 (fun _ => 0) ∧ Exa Z h b "[I"
set_option maxRecDepth 65536 in
set_option maxHeartbeats 40000000 in
theorem own_rm_ctor (l : Launch) (Z : State) (a0 : Array Value) (hw : ∀ d ∈ tables_1, d.before a0 Z = true) (ws : List Jvm.Cond) (a1 : Addr) (h0 : Heap) (n0 : Nat) (Z0 : n0 ≤ h0.size) (E1 : Exa Z h0 a1 "com/example/interleaving/interleaving/store/StateGraph") (F_initial : Fld Z h0 a1 "com/example/interleaving/interleaving/store/StateGraph" "initial" "[I" .null) (F_targets : Fld Z h0 a1 "com/example/interleaving/interleaving/store/StateGraph" "targets" "[I" .null) (F_firsts : Fld Z h0 a1 "com/example/interleaving/interleaving/store/StateGraph" "firsts" "[I" .null) (F_open : Fld Z h0 a1 "com/example/interleaving/interleaving/store/StateGraph" "open" "I" (.int (0 : Int32))) (F_initialCount : Fld Z h0 a1 "com/example/interleaving/interleaving/store/StateGraph" "initialCount" "I" (.int (0 : Int32))) (g1 : n0 ≤ a1) :
    MetFree l (⟨"com/example/interleaving/interleaving/store/StateGraph", "<init>", "()V"⟩ : MethodName) (head1 (Jvm.Cond.code (⟨"com/example/interleaving/interleaving/store/StateGraph", "<init>", "()V"⟩ : MethodName) prog_103_method_1_code 1 none :: ws) ({ frames := 1, cells := 3, slots := 2065, locals := 12 } : Room)) (fun a U => a = #[(.ref a1)] ∧ Z.Warmed39 U.vm ∧ U.heap = h0) (fun _ _ _ _ _ => True) (fun _ U o U' => ∃ v L, o = .returned v ∧ own_Q_ctor Z a1 h0 n0 v U'.heap L ∧ FrameEnd U o U' L ({ frames := 1, cells := 3, slots := 2065, locals := 12 } : Room).cells ({ frames := 1, cells := 3, slots := 2065, locals := 12 } : Room).slots) := by
  refine MetFree.of_bodySF (plainFor_of_name own_pn1) hisR ?_
  intro p e s m args below meth c s₁ Bd hml0 hP hK
  obtain ⟨rfl, hZ, hh⟩ := hP
  have hx := Bd.exec
  have hby := Bd.bytes
  have hml : c.maxLocals = 1 := hml0
  have hown : s.vm.findClass "com/example/interleaving/interleaving/store/StateGraph" = some m.cls := findClass_of_methodNamed Bd.named
  have hnm := (name_of_methodNamed Bd.named Bd.method).1
  have X0 : Stand p l e ({ frames := 1, cells := 3, slots := 2065, locals := 12 } : Room) s m #[(.ref a1)] below meth c s₁ [] 0 0 := Stand.of_body Bd
  have e0 : s₁.heap = h0 := by rw [← hh, Bd.state]; rfl
  have N0 := Fr.nil n0
  have K0 : Keep h0 h0 [a1] := Keep.refl _ _
  have pre0 : ∀ t, Steps p.tables e below (s₁.setTop (mkF m 0 #[.val (.ref a1)] [])) t → Steps p.tables e below (s₁.setTop (entryFrame m #[(.ref a1)] 1)) t := fun t k => castTop (own_ef_ctor m a1) k
  obtain ⟨T1, X1, e1, st1⟩ := initO X0 hx hZ hown (hw _ (List.mem_of_getElem? (i := 7) rfl)) (hw _ (List.mem_of_getElem? (i := 8) rfl)) (hw _ (List.mem_of_getElem? (i := 9) rfl)) e0 (g := (mkF m 1 #[.val (.ref a1)] [(.ref a1)])) rfl (by rw [hml]; rfl) rfl (hb hby own_d_prog_103_method_1_1) (by decide) (W := 0) (by show 2 * 0 + _ ≤ _; exact Nat.le_of_eq rfl) (by decide)
  obtain ⟨T2, h2, k2, X2, e2, E2, A2, I2, st2⟩ := newPE X1 hx hZ (hw _ (List.mem_of_getElem? (i := 10) rfl)) e1 (g := (mkF m 7 #[.val (.ref a1)] [(.int (16 : Int32)), (.ref a1)])) rfl (hb hby own_d_prog_103_method_1_7) rfl (by decide) (cap := 16) (by decide) (by decide) (by decide) (by decide) (ad := "[I") rfl
  obtain ⟨b2, g2⟩ : ∃ z, z = h0.size := ⟨_, rfl⟩
  rw [← g2] at A2 I2 st2
  have sz_b2 : h0.size ≤ b2 := Nat.le_trans K0.1 (Nat.le_of_eq g2.symm)
  have gn_b2 : n0 ≤ b2 := Nat.le_trans Z0 sz_b2
  have ne_a1_b2 : a1 ≠ b2 := Nat.ne_of_lt (Nat.lt_of_lt_of_le F_initialCount.lt (Nat.le_of_eq g2.symm))
  have f3 := E1.ext E2
  have f4 := F_initial.ext E2
  have f5 := F_targets.ext E2
  have f6 := F_firsts.ext E2
  have f7 := F_open.ext E2
  have f8 := F_initialCount.ext E2
  have k9 := K0.ext E2
  have f10 : own_A Z h2 b2 16 (fun _ => 0) := own_A.new A2 rfl
  obtain ⟨T11, h11, X11, e11, W11, st11⟩ := putF X2 hx hZ hown (host := "") (Or.inl (hw _ (List.mem_of_getElem? (i := 11) rfl))) Via.refl e2 f4 f3 (Or.inl (hw _ (List.mem_of_getElem? (i := 12) rfl))) (hw _ (List.mem_of_getElem? (i := 2) rfl)) (ty := (.array .int)) (by decide) rfl rfl (g := (mkF m 9 #[.val (.ref a1)] [(.ref b2), (.ref a1)])) rfl rfl (hb hby own_d_prog_103_method_1_9)
  have f12 := f3.wr W11
  have f14 := f5.other W11 (Or.inr (slot_ne (Or.inl (hw _ (List.mem_of_getElem? (i := 14) rfl))) (Or.inl (hw _ (List.mem_of_getElem? (i := 12) rfl))) (by decide) (t := (.array .int)) (t' := (.array .int)) (by decide) (by decide)))
  have f15 := f6.other W11 (Or.inr (slot_ne (Or.inl (hw _ (List.mem_of_getElem? (i := 16) rfl))) (Or.inl (hw _ (List.mem_of_getElem? (i := 12) rfl))) (by decide) (t := (.array .int)) (t' := (.array .int)) (by decide) (by decide)))
  have f16 := f7.other W11 (Or.inr (slot_ne (Or.inl (hw _ (List.mem_of_getElem? (i := 18) rfl))) (Or.inl (hw _ (List.mem_of_getElem? (i := 12) rfl))) (by decide) (t := .int) (t' := (.array .int)) (by decide) (by decide)))
  have f17 := f8.other W11 (Or.inr (slot_ne (Or.inl (hw _ (List.mem_of_getElem? (i := 25) rfl))) (Or.inl (hw _ (List.mem_of_getElem? (i := 12) rfl))) (by decide) (t := .int) (t' := (.array .int)) (by decide) (by decide)))
  have f18 := I2.wr W11
  have f19 := f10.other W11 (Ne.symm ne_a1_b2)
  have k20 := k9.wr W11 (Or.inl (List.mem_of_getElem? (i := 0) rfl))
  have nf21 := Fr.snoc X11 N0 g1
  have f22 := f4.same W11
  obtain ⟨T23, h23, k23, X23, e23, E23, A23, I23, st23⟩ := newPE X11 hx hZ (hw _ (List.mem_of_getElem? (i := 10) rfl)) e11 (g := (mkF m 16 #[.val (.ref a1)] [(.int (1024 : Int32)), (.ref a1)])) rfl (hb hby own_d_prog_103_method_1_16) rfl (by decide) (cap := 1024) (by decide) (by decide) (by decide) (by decide) (ad := "[I") rfl
  obtain ⟨b23, g23⟩ : ∃ z, z = h11.size := ⟨_, rfl⟩
  rw [← g23] at A23 I23 st23
  have sz_b23 : h0.size ≤ b23 := Nat.le_trans k20.1 (Nat.le_of_eq g23.symm)
  have gn_b23 : n0 ≤ b23 := Nat.le_trans Z0 sz_b23
  have ne_a1_b23 : a1 ≠ b23 := Nat.ne_of_lt (Nat.lt_of_lt_of_le f17.lt (Nat.le_of_eq g23.symm))
  have ne_b2_b23 : b2 ≠ b23 := Nat.ne_of_lt (Nat.lt_of_lt_of_le f19.lt (Nat.le_of_eq g23.symm))
  have f24 := f12.ext E23
  have f25 := f22.ext E23
  have f26 := f14.ext E23
  have f27 := f15.ext E23
  have f28 := f16.ext E23
  have f29 := f17.ext E23
  have f30 := f18.ext E23
  have f31 := f19.ext E23
  have k32 := k20.ext E23
  have f33 : own_A Z h23 b23 1024 (fun _ => 0) := own_A.new A23 rfl
  obtain ⟨T34, h34, X34, e34, W34, st34⟩ := putF X23 hx hZ hown (host := "") (Or.inl (hw _ (List.mem_of_getElem? (i := 13) rfl))) Via.refl e23 f26 f24 (Or.inl (hw _ (List.mem_of_getElem? (i := 14) rfl))) (hw _ (List.mem_of_getElem? (i := 2) rfl)) (ty := (.array .int)) (by decide) rfl rfl (g := (mkF m 18 #[.val (.ref a1)] [(.ref b23), (.ref a1)])) rfl rfl (hb hby own_d_prog_103_method_1_18)
  have f35 := f24.wr W34
  have f36 := f25.other W34 (Or.inr (slot_ne (Or.inl (hw _ (List.mem_of_getElem? (i := 12) rfl))) (Or.inl (hw _ (List.mem_of_getElem? (i := 14) rfl))) (by decide) (t := (.array .int)) (t' := (.array .int)) (by decide) (by decide)))
  have f38 := f27.other W34 (Or.inr (slot_ne (Or.inl (hw _ (List.mem_of_getElem? (i := 16) rfl))) (Or.inl (hw _ (List.mem_of_getElem? (i := 14) rfl))) (by decide) (t := (.array .int)) (t' := (.array .int)) (by decide) (by decide)))
  have f39 := f28.other W34 (Or.inr (slot_ne (Or.inl (hw _ (List.mem_of_getElem? (i := 18) rfl))) (Or.inl (hw _ (List.mem_of_getElem? (i := 14) rfl))) (by decide) (t := .int) (t' := (.array .int)) (by decide) (by decide)))
  have f40 := f29.other W34 (Or.inr (slot_ne (Or.inl (hw _ (List.mem_of_getElem? (i := 25) rfl))) (Or.inl (hw _ (List.mem_of_getElem? (i := 14) rfl))) (by decide) (t := .int) (t' := (.array .int)) (by decide) (by decide)))
  have f41 := f30.wr W34
  have f42 := f31.other W34 (Ne.symm ne_a1_b2)
  have f43 := I23.wr W34
  have f44 := f33.other W34 (Ne.symm ne_a1_b23)
  have k45 := k32.wr W34 (Or.inl (List.mem_of_getElem? (i := 0) rfl))
  have nf46 := Fr.snoc X34 nf21 g1
  have f47 := f26.same W34
  obtain ⟨T48, h48, k48, X48, e48, E48, A48, I48, st48⟩ := newPE X34 hx hZ (hw _ (List.mem_of_getElem? (i := 10) rfl)) e34 (g := (mkF m 25 #[.val (.ref a1)] [(.int (1025 : Int32)), (.ref a1)])) rfl (hb hby own_d_prog_103_method_1_25) rfl (by decide) (cap := 1025) (by decide) (by decide) (by decide) (by decide) (ad := "[I") rfl
  obtain ⟨b48, g48⟩ : ∃ z, z = h34.size := ⟨_, rfl⟩
  rw [← g48] at A48 I48 st48
  have sz_b48 : h0.size ≤ b48 := Nat.le_trans k45.1 (Nat.le_of_eq g48.symm)
  have gn_b48 : n0 ≤ b48 := Nat.le_trans Z0 sz_b48
  have ne_a1_b48 : a1 ≠ b48 := Nat.ne_of_lt (Nat.lt_of_lt_of_le f40.lt (Nat.le_of_eq g48.symm))
  have ne_b2_b48 : b2 ≠ b48 := Nat.ne_of_lt (Nat.lt_of_lt_of_le f42.lt (Nat.le_of_eq g48.symm))
  have ne_b23_b48 : b23 ≠ b48 := Nat.ne_of_lt (Nat.lt_of_lt_of_le f44.lt (Nat.le_of_eq g48.symm))
  have f49 := f35.ext E48
  have f50 := f36.ext E48
  have f51 := f47.ext E48
  have f52 := f38.ext E48
  have f53 := f39.ext E48
  have f54 := f40.ext E48
  have f55 := f41.ext E48
  have f56 := f42.ext E48
  have f57 := f43.ext E48
  have f58 := f44.ext E48
  have k59 := k45.ext E48
  have f60 : own_A Z h48 b48 1025 (fun _ => 0) := own_A.new A48 rfl
  obtain ⟨T61, h61, X61, e61, W61, st61⟩ := putF X48 hx hZ hown (host := "") (Or.inl (hw _ (List.mem_of_getElem? (i := 15) rfl))) Via.refl e48 f52 f49 (Or.inl (hw _ (List.mem_of_getElem? (i := 16) rfl))) (hw _ (List.mem_of_getElem? (i := 2) rfl)) (ty := (.array .int)) (by decide) rfl rfl (g := (mkF m 27 #[.val (.ref a1)] [(.ref b48), (.ref a1)])) rfl rfl (hb hby own_d_prog_103_method_1_27)
  have f62 := f49.wr W61
  have f63 := f50.other W61 (Or.inr (slot_ne (Or.inl (hw _ (List.mem_of_getElem? (i := 12) rfl))) (Or.inl (hw _ (List.mem_of_getElem? (i := 16) rfl))) (by decide) (t := (.array .int)) (t' := (.array .int)) (by decide) (by decide)))
  have f64 := f51.other W61 (Or.inr (slot_ne (Or.inl (hw _ (List.mem_of_getElem? (i := 14) rfl))) (Or.inl (hw _ (List.mem_of_getElem? (i := 16) rfl))) (by decide) (t := (.array .int)) (t' := (.array .int)) (by decide) (by decide)))
  have f66 := f53.other W61 (Or.inr (slot_ne (Or.inl (hw _ (List.mem_of_getElem? (i := 18) rfl))) (Or.inl (hw _ (List.mem_of_getElem? (i := 16) rfl))) (by decide) (t := .int) (t' := (.array .int)) (by decide) (by decide)))
  have f67 := f54.other W61 (Or.inr (slot_ne (Or.inl (hw _ (List.mem_of_getElem? (i := 25) rfl))) (Or.inl (hw _ (List.mem_of_getElem? (i := 16) rfl))) (by decide) (t := .int) (t' := (.array .int)) (by decide) (by decide)))
  have f68 := f55.wr W61
  have f69 := f56.other W61 (Ne.symm ne_a1_b2)
  have f70 := f57.wr W61
  have f71 := f58.other W61 (Ne.symm ne_a1_b23)
  have f72 := I48.wr W61
  have f73 := f60.other W61 (Ne.symm ne_a1_b48)
  have k74 := k59.wr W61 (Or.inl (List.mem_of_getElem? (i := 0) rfl))
  have nf75 := Fr.snoc X61 nf46 g1
  have f76 := f52.same W61
  obtain ⟨T77, h77, X77, e77, W77, st77⟩ := putF X61 hx hZ hown (host := "") (Or.inl (hw _ (List.mem_of_getElem? (i := 17) rfl))) Via.refl e61 f66 f62 (Or.inl (hw _ (List.mem_of_getElem? (i := 18) rfl))) (hw _ (List.mem_of_getElem? (i := 2) rfl)) (ty := .int) (by decide) rfl rfl (g := (mkF m 32 #[.val (.ref a1)] [(.int (-1 : Int32)), (.ref a1)])) rfl rfl (hb hby own_d_prog_103_method_1_32)
  have f78 := f62.wr W77
  have f79 := f63.other W77 (Or.inr (slot_ne (Or.inl (hw _ (List.mem_of_getElem? (i := 12) rfl))) (Or.inl (hw _ (List.mem_of_getElem? (i := 18) rfl))) (by decide) (t := (.array .int)) (t' := .int) (by decide) (by decide)))
  have f80 := f64.other W77 (Or.inr (slot_ne (Or.inl (hw _ (List.mem_of_getElem? (i := 14) rfl))) (Or.inl (hw _ (List.mem_of_getElem? (i := 18) rfl))) (by decide) (t := (.array .int)) (t' := .int) (by decide) (by decide)))
  have f81 := f76.other W77 (Or.inr (slot_ne (Or.inl (hw _ (List.mem_of_getElem? (i := 16) rfl))) (Or.inl (hw _ (List.mem_of_getElem? (i := 18) rfl))) (by decide) (t := (.array .int)) (t' := .int) (by decide) (by decide)))
  have f83 := f67.other W77 (Or.inr (slot_ne (Or.inl (hw _ (List.mem_of_getElem? (i := 25) rfl))) (Or.inl (hw _ (List.mem_of_getElem? (i := 18) rfl))) (by decide) (t := .int) (t' := .int) (by decide) (by decide)))
  have f84 := f68.wr W77
  have f85 := f69.other W77 (Ne.symm ne_a1_b2)
  have f86 := f70.wr W77
  have f87 := f71.other W77 (Ne.symm ne_a1_b23)
  have f88 := f72.wr W77
  have f89 := f73.other W77 (Ne.symm ne_a1_b48)
  have k90 := k74.wr W77 (Or.inl (List.mem_of_getElem? (i := 0) rfl))
  have nf91 := Fr.snoc X77 nf75 g1
  have f92 := f66.same W77
  have pre93 : ∀ t, Steps p.tables e below (T77.setTop (mkF m 35 #[.val (.ref a1)] [])) t → Steps p.tables e below (s₁.setTop (entryFrame m #[(.ref a1)] 1)) t := by
    intro t kt
    refine pre0 t ?_
    show Steps p.tables e below (s₁.setTop (mkF m 0 #[.val (.ref a1)] [])) _
    refine XS.aloadN X0.here hx rfl (hb hby own_d_prog_103_method_1_0) rfl rfl ?_
    show Steps p.tables e below (s₁.setTop (mkF m 1 #[.val (.ref a1)] [(.ref a1)])) _
    refine st1 _ ?_
    show Steps p.tables e below (T1.setTop (mkF m 4 #[.val (.ref a1)] [])) _
    refine XS.aloadN X1.here hx rfl (hb hby own_d_prog_103_method_1_4) rfl rfl ?_
    show Steps p.tables e below (T1.setTop (mkF m 5 #[.val (.ref a1)] [(.ref a1)])) _
    refine XS.bipush X1.here hx rfl (hb hby own_d_prog_103_method_1_5) ?_
    show Steps p.tables e below (T1.setTop (mkF m 7 #[.val (.ref a1)] [(.int (16 : Int32)), (.ref a1)])) _
    refine st2 _ ?_
    show Steps p.tables e below (T2.setTop (mkF m 9 #[.val (.ref a1)] [(.ref b2), (.ref a1)])) _
    refine st11 _ ?_
    show Steps p.tables e below (T11.setTop (mkF m 12 #[.val (.ref a1)] [])) _
    refine XS.aloadN X11.here hx rfl (hb hby own_d_prog_103_method_1_12) rfl rfl ?_
    show Steps p.tables e below (T11.setTop (mkF m 13 #[.val (.ref a1)] [(.ref a1)])) _
    refine XS.sipush X11.here hx rfl (hb hby own_d_prog_103_method_1_13) ?_
    show Steps p.tables e below (T11.setTop (mkF m 16 #[.val (.ref a1)] [(.int (1024 : Int32)), (.ref a1)])) _
    refine st23 _ ?_
    show Steps p.tables e below (T23.setTop (mkF m 18 #[.val (.ref a1)] [(.ref b23), (.ref a1)])) _
    refine st34 _ ?_
    show Steps p.tables e below (T34.setTop (mkF m 21 #[.val (.ref a1)] [])) _
    refine XS.aloadN X34.here hx rfl (hb hby own_d_prog_103_method_1_21) rfl rfl ?_
    show Steps p.tables e below (T34.setTop (mkF m 22 #[.val (.ref a1)] [(.ref a1)])) _
    refine XS.sipush X34.here hx rfl (hb hby own_d_prog_103_method_1_22) ?_
    show Steps p.tables e below (T34.setTop (mkF m 25 #[.val (.ref a1)] [(.int (1025 : Int32)), (.ref a1)])) _
    refine st48 _ ?_
    show Steps p.tables e below (T48.setTop (mkF m 27 #[.val (.ref a1)] [(.ref b48), (.ref a1)])) _
    refine st61 _ ?_
    show Steps p.tables e below (T61.setTop (mkF m 30 #[.val (.ref a1)] [])) _
    refine XS.aloadN X61.here hx rfl (hb hby own_d_prog_103_method_1_30) rfl rfl ?_
    show Steps p.tables e below (T61.setTop (mkF m 31 #[.val (.ref a1)] [(.ref a1)])) _
    refine XS.iconst X61.here hx rfl (hb hby own_d_prog_103_method_1_31) ?_
    show Steps p.tables e below (T61.setTop (mkF m 32 #[.val (.ref a1)] [(.int (-1 : Int32)), (.ref a1)])) _
    refine st77 _ ?_
    exact kt
  obtain ⟨fs, hr, hrun, hended, hW, hsame⟩ := X77.leave (v := none) (fun _ => rfl)
  refine ⟨_, _, pre93 _ ?_, hrun, hended, _, _, rfl, ?_, ⟨_, rfl⟩, hW, hsame.mono (by decide) (by decide)⟩
  · show Steps p.tables e below (T77.setTop (mkF m 35 #[.val (.ref a1)] [])) _
    exact X77.returnOut hx Bd.returns (hb hby own_d_prog_103_method_1_35) hr
  · show own_Q_ctor Z a1 h0 n0 (none) T77.heap _
    rw [e77]
    exact ⟨_, rfl, nf91, k90, sz_b2, f79, f83, f85, f84⟩
theorem own_d_prog_103_method_2_0 : decode prog_103_method_2_code 0 = .ok (.aload_n 0, 1) := by decide +kernel
theorem own_d_prog_103_method_2_1 : decode prog_103_method_2_code 1 = .ok (.getfield 23, 3) := by decide +kernel
theorem own_d_prog_103_method_2_4 : decode prog_103_method_2_code 4 = .ok (.aload_n 0, 1) := by decide +kernel
theorem own_d_prog_103_method_2_5 : decode prog_103_method_2_code 5 = .ok (.getfield 7, 3) := by decide +kernel
theorem own_d_prog_103_method_2_8 : decode prog_103_method_2_code 8 = .ok (.arraylength, 1) := by decide +kernel
theorem own_d_prog_103_method_2_9 : decode prog_103_method_2_code 9 = .ok (.if_icmp .ne 20, 3) := by decide +kernel
theorem own_d_prog_103_method_2_12 : decode prog_103_method_2_code 12 = .ok (.aload_n 0, 1) := by decide +kernel
theorem own_d_prog_103_method_2_13 : decode prog_103_method_2_code 13 = .ok (.aload_n 0, 1) := by decide +kernel
theorem own_d_prog_103_method_2_14 : decode prog_103_method_2_code 14 = .ok (.getfield 7, 3) := by decide +kernel
theorem own_d_prog_103_method_2_17 : decode prog_103_method_2_code 17 = .ok (.aload_n 0, 1) := by decide +kernel
theorem own_d_prog_103_method_2_18 : decode prog_103_method_2_code 18 = .ok (.getfield 23, 3) := by decide +kernel
theorem own_d_prog_103_method_2_21 : decode prog_103_method_2_code 21 = .ok (.iconst 2, 1) := by decide +kernel
theorem own_d_prog_103_method_2_22 : decode prog_103_method_2_code 22 = .ok (.imul, 1) := by decide +kernel
theorem own_d_prog_103_method_2_23 : decode prog_103_method_2_code 23 = .ok (.invokestatic 26, 3) := by decide +kernel
theorem own_d_prog_103_method_2_26 : decode prog_103_method_2_code 26 = .ok (.putfield 7, 3) := by decide +kernel
theorem own_d_prog_103_method_2_29 : decode prog_103_method_2_code 29 = .ok (.aload_n 0, 1) := by decide +kernel
theorem own_d_prog_103_method_2_30 : decode prog_103_method_2_code 30 = .ok (.getfield 7, 3) := by decide +kernel
theorem own_d_prog_103_method_2_33 : decode prog_103_method_2_code 33 = .ok (.aload_n 0, 1) := by decide +kernel
theorem own_d_prog_103_method_2_34 : decode prog_103_method_2_code 34 = .ok (.dup, 1) := by decide +kernel
theorem own_d_prog_103_method_2_35 : decode prog_103_method_2_code 35 = .ok (.getfield 23, 3) := by decide +kernel
theorem own_d_prog_103_method_2_38 : decode prog_103_method_2_code 38 = .ok (.dup_x1, 1) := by decide +kernel
theorem own_d_prog_103_method_2_39 : decode prog_103_method_2_code 39 = .ok (.iconst 1, 1) := by decide +kernel
theorem own_d_prog_103_method_2_40 : decode prog_103_method_2_code 40 = .ok (.iadd, 1) := by decide +kernel
theorem own_d_prog_103_method_2_41 : decode prog_103_method_2_code 41 = .ok (.putfield 23, 3) := by decide +kernel
theorem own_d_prog_103_method_2_44 : decode prog_103_method_2_code 44 = .ok (.iload_n 1, 1) := by decide +kernel
theorem own_d_prog_103_method_2_45 : decode prog_103_method_2_code 45 = .ok (.iastore, 1) := by decide +kernel
theorem own_d_prog_103_method_2_46 : decode prog_103_method_2_code 46 = .ok (.return_, 1) := by decide +kernel
theorem own_ef_add (m : MethodId) (a1 : Addr) (p2 : Int32) : entryFrame m #[(.ref a1), (.int p2)] 2 = mkF m 0 #[.val (.ref a1), .val (.int p2)] [] := by first | (simp [entryFrame, mkF, argsToLocals, Value.category]; done) | rfl
def own_Q_add (Z : State) (a1 : Addr) (p2 : Int32) (b : Addr) (k_ : Nat) (N : Nat) (f : Nat → Int32) (h0 : Heap) (n0 : Nat) (v : Option Value) (h : Heap) (L : List Loc) : Prop := v = none ∧ Fr n0 L ∧ Keep h0 h [a1, b] ∧ Fld Z h a1 "com/example/interleaving/interleaving/store/StateGraph" "initial" "[I" (.ref b) ∧ Fld Z h a1 "com/example/interleaving/interleaving/store/StateGraph" "initialCount" "I" (.int (Int32.ofNat (k_ + 1))) ∧ own_A Z h b N (own_upd f k_ p2)
set_option maxRecDepth 65536 in
set_option maxHeartbeats 40000000 in
theorem own_rm_add (l : Launch) (Z : State) (a0 : Array Value) (hw : ∀ d ∈ tables_1, d.before a0 Z = true) (ws : List Jvm.Cond) (a1 : Addr) (p2 : Int32) (b : Addr) (k_ : Nat) (N : Nat) (f : Nat → Int32) (h0 : Heap) (n0 : Nat) (Z0 : n0 ≤ h0.size) (E1 : Exa Z h0 a1 "com/example/interleaving/interleaving/store/StateGraph") (F1 : Fld Z h0 a1 "com/example/interleaving/interleaving/store/StateGraph" "initial" "[I" (.ref b)) (F2 : Fld Z h0 a1 "com/example/interleaving/interleaving/store/StateGraph" "initialCount" "I" (.int (Int32.ofNat k_))) (A1 : own_A Z h0 b N f) (g1 : n0 ≤ a1) (g2 : n0 ≤ b) (nab : a1 ≠ b) (hk : k_ < N) (hN : N ≤ 32) :
    MetFree l (⟨"com/example/interleaving/interleaving/store/StateGraph", "addInitial", "(I)V"⟩ : MethodName) (head1 (Jvm.Cond.code (⟨"com/example/interleaving/interleaving/store/StateGraph", "addInitial", "(I)V"⟩ : MethodName) prog_103_method_2_code 2 none :: ws) ({ frames := 0, cells := 0, slots := 0, locals := 0 } : Room)) (fun a U => a = #[(.ref a1), (.int p2)] ∧ Z.Warmed39 U.vm ∧ U.heap = h0) (fun _ _ _ _ _ => True) (fun _ U o U' => ∃ v L, o = .returned v ∧ own_Q_add Z a1 p2 b k_ N f h0 n0 v U'.heap L ∧ FrameEnd U o U' L ({ frames := 0, cells := 0, slots := 0, locals := 0 } : Room).cells ({ frames := 0, cells := 0, slots := 0, locals := 0 } : Room).slots) := by
  refine MetFree.of_bodySF (plainFor_of_name own_pn1) hisR ?_
  intro p e s m args below meth c s₁ Bd hml0 hP hK
  obtain ⟨rfl, hZ, hh⟩ := hP
  have hx := Bd.exec
  have hby := Bd.bytes
  have hml : c.maxLocals = 2 := hml0
  have hown : s.vm.findClass "com/example/interleaving/interleaving/store/StateGraph" = some m.cls := findClass_of_methodNamed Bd.named
  have hnm := (name_of_methodNamed Bd.named Bd.method).1
  have X0 : Stand p l e ({ frames := 0, cells := 0, slots := 0, locals := 0 } : Room) s m #[(.ref a1), (.int p2)] below meth c s₁ [] 0 0 := Stand.of_body Bd
  have e0 : s₁.heap = h0 := by rw [← hh, Bd.state]; rfl
  have N0 := Fr.nil n0
  have K0 : Keep h0 h0 [a1, b] := Keep.refl _ _
  have pre0 : ∀ t, Steps p.tables e below (s₁.setTop (mkF m 0 #[.val (.ref a1), .val (.int p2)] [])) t → Steps p.tables e below (s₁.setTop (entryFrame m #[(.ref a1), (.int p2)] 2)) t := fun t k => castTop (own_ef_add m a1 p2) k
  obtain ⟨T1, X1, e1, st1⟩ := getF X0 hx hZ hown (host := "") (Or.inl (hw _ (List.mem_of_getElem? (i := 24) rfl))) Via.refl e0 F2 (g := (mkF m 1 #[.val (.ref a1), .val (.int p2)] [(.ref a1)])) rfl rfl (hb hby own_d_prog_103_method_2_1)
  obtain ⟨T2, X2, e2, st2⟩ := getF X1 hx hZ hown (host := "") (Or.inl (hw _ (List.mem_of_getElem? (i := 11) rfl))) Via.refl e1 F1 (g := (mkF m 5 #[.val (.ref a1), .val (.int p2)] [(.ref a1), (.int (Int32.ofNat k_))])) rfl rfl (hb hby own_d_prog_103_method_2_5)
  obtain ⟨cl3, Ar3, S3, -⟩ := id A1
  obtain ⟨T4, X4, e4, st4⟩ := getF X2 hx hZ hown (host := "") (Or.inl (hw _ (List.mem_of_getElem? (i := 11) rfl))) Via.refl e2 F1 (g := (mkF m 30 #[.val (.ref a1), .val (.int p2)] [(.ref a1)])) rfl rfl (hb hby own_d_prog_103_method_2_30)
  obtain ⟨T5, X5, e5, st5⟩ := getF X4 hx hZ hown (host := "") (Or.inl (hw _ (List.mem_of_getElem? (i := 24) rfl))) Via.refl e4 F2 (g := (mkF m 35 #[.val (.ref a1), .val (.int p2)] [(.ref a1), (.ref a1), (.ref b)])) rfl rfl (hb hby own_d_prog_103_method_2_35)
  obtain ⟨T6, h6, X6, e6, W6, st6⟩ := putF X5 hx hZ hown (host := "") (Or.inl (hw _ (List.mem_of_getElem? (i := 24) rfl))) Via.refl e5 F2 E1 (Or.inl (hw _ (List.mem_of_getElem? (i := 25) rfl))) (hw _ (List.mem_of_getElem? (i := 2) rfl)) (ty := .int) (by decide) rfl rfl (g := (mkF m 41 #[.val (.ref a1), .val (.int p2)] [(.int ((Int32.ofNat k_) + (1 : Int32))), (.ref a1), (.int (Int32.ofNat k_)), (.ref b)])) rfl rfl (hb hby own_d_prog_103_method_2_41)
  have f7 := E1.wr W6
  have f8 := F1.other W6 (Or.inr (slot_ne (Or.inl (hw _ (List.mem_of_getElem? (i := 12) rfl))) (Or.inl (hw _ (List.mem_of_getElem? (i := 25) rfl))) (by decide) (t := (.array .int)) (t' := .int) (by decide) (by decide)))
  have f10 := A1.other W6 (Ne.symm nab)
  have k11 := K0.wr W6 (Or.inl (List.mem_of_getElem? (i := 0) rfl))
  have nf12 := Fr.snoc X6 N0 g1
  have f13 := F2.same W6
  obtain ⟨cl14, Ar14, S14, H14⟩ := id f10
  have hin14 : ¬ ((Int32.ofNat k_) < 0 ∨ cl14.slots.size ≤ ((Int32.ofNat k_)).toNatClampNeg) := own_inb S14 (own_of0 (by omega)) (by rw [own_ofN (by omega)]; exact hk)
  obtain ⟨T15, h15, X15, e15, W15, st15⟩ := stI X6 hx hZ e6 Ar14 (j := (Int32.ofNat k_)) hin14 (g := (mkF m 45 #[.val (.ref a1), .val (.int p2)] [(.int p2), (.int (Int32.ofNat k_)), (.ref b)])) rfl rfl (hb hby own_d_prog_103_method_2_45)
  have f16 := f7.wr W15
  have f17 := f8.other W15 (Or.inl nab)
  have f18 := f13.other W15 (Or.inl nab)
  have k20 := k11.wr W15 (Or.inl (List.mem_of_getElem? (i := 1) rfl))
  have nf21 := Fr.snoc X15 nf12 g2
  have f22 := f10.set W15
  have f23 : own_A Z h15 b N (own_upd f k_ p2) := f22.congr (fun j hj => by rw [own_ofN (by omega)])
  have pre24 : ∀ t, Steps p.tables e below (T15.setTop (mkF m 46 #[.val (.ref a1), .val (.int p2)] [])) t → Steps p.tables e below (s₁.setTop (entryFrame m #[(.ref a1), (.int p2)] 2)) t := by
    intro t kt
    refine pre0 t ?_
    show Steps p.tables e below (s₁.setTop (mkF m 0 #[.val (.ref a1), .val (.int p2)] [])) _
    refine XS.aloadN X0.here hx rfl (hb hby own_d_prog_103_method_2_0) rfl rfl ?_
    show Steps p.tables e below (s₁.setTop (mkF m 1 #[.val (.ref a1), .val (.int p2)] [(.ref a1)])) _
    refine st1 _ ?_
    show Steps p.tables e below (T1.setTop (mkF m 4 #[.val (.ref a1), .val (.int p2)] [(.int (Int32.ofNat k_))])) _
    refine XS.aloadN X1.here hx rfl (hb hby own_d_prog_103_method_2_4) rfl rfl ?_
    show Steps p.tables e below (T1.setTop (mkF m 5 #[.val (.ref a1), .val (.int p2)] [(.ref a1), (.int (Int32.ofNat k_))])) _
    refine st2 _ ?_
    show Steps p.tables e below (T2.setTop (mkF m 8 #[.val (.ref a1), .val (.int p2)] [(.ref b), (.int (Int32.ofNat k_))])) _
    refine X2.arraylength hx (by rw [e2]; exact Ar3.1) (State.isArrayOf_alike hZ.alike Ar3.2.1) (g := (mkF m 8 #[.val (.ref a1), .val (.int p2)] [(.ref b), (.int (Int32.ofNat k_))])) rfl rfl (hb hby own_d_prog_103_method_2_8) _ ?_
    rw [own_len (z := (Int32.ofNat N)) S3 rfl]
    show Steps p.tables e below (T2.setTop (mkF m 9 #[.val (.ref a1), .val (.int p2)] [(.int (Int32.ofNat N)), (.int (Int32.ofNat k_))])) _
    refine XS.icmpYes X2.here hx rfl (pc0 := 9) (pc' := 29) rfl (hb hby own_d_prog_103_method_2_9) rfl (feq (fun e => absurd (own_inj (by omega) hN e) (by omega))).2 (by decide) (by decide) ?_
    show Steps p.tables e below (T2.setTop (mkF m 29 #[.val (.ref a1), .val (.int p2)] [])) _
    refine XS.aloadN X2.here hx rfl (hb hby own_d_prog_103_method_2_29) rfl rfl ?_
    show Steps p.tables e below (T2.setTop (mkF m 30 #[.val (.ref a1), .val (.int p2)] [(.ref a1)])) _
    refine st4 _ ?_
    show Steps p.tables e below (T4.setTop (mkF m 33 #[.val (.ref a1), .val (.int p2)] [(.ref b)])) _
    refine XS.aloadN X4.here hx rfl (hb hby own_d_prog_103_method_2_33) rfl rfl ?_
    show Steps p.tables e below (T4.setTop (mkF m 34 #[.val (.ref a1), .val (.int p2)] [(.ref a1), (.ref b)])) _
    refine XS.dup X4.here hx rfl (hb hby own_d_prog_103_method_2_34) rfl rfl ?_
    show Steps p.tables e below (T4.setTop (mkF m 35 #[.val (.ref a1), .val (.int p2)] [(.ref a1), (.ref a1), (.ref b)])) _
    refine st5 _ ?_
    show Steps p.tables e below (T5.setTop (mkF m 38 #[.val (.ref a1), .val (.int p2)] [(.int (Int32.ofNat k_)), (.ref a1), (.ref b)])) _
    refine XS.dupX1 X5.here hx rfl (hb hby own_d_prog_103_method_2_38) rfl rfl rfl ?_
    show Steps p.tables e below (T5.setTop (mkF m 39 #[.val (.ref a1), .val (.int p2)] [(.int (Int32.ofNat k_)), (.ref a1), (.int (Int32.ofNat k_)), (.ref b)])) _
    refine XS.iconst X5.here hx rfl (hb hby own_d_prog_103_method_2_39) ?_
    show Steps p.tables e below (T5.setTop (mkF m 40 #[.val (.ref a1), .val (.int p2)] [(.int (1 : Int32)), (.int (Int32.ofNat k_)), (.ref a1), (.int (Int32.ofNat k_)), (.ref b)])) _
    refine XS.iadd X5.here hx rfl (hb hby own_d_prog_103_method_2_40) rfl ?_
    show Steps p.tables e below (T5.setTop (mkF m 41 #[.val (.ref a1), .val (.int p2)] [(.int ((Int32.ofNat k_) + (1 : Int32))), (.ref a1), (.int (Int32.ofNat k_)), (.ref b)])) _
    refine st6 _ ?_
    show Steps p.tables e below (T6.setTop (mkF m 44 #[.val (.ref a1), .val (.int p2)] [(.int (Int32.ofNat k_)), (.ref b)])) _
    refine XS.iloadN X6.here hx rfl (hb hby own_d_prog_103_method_2_44) rfl ?_
    show Steps p.tables e below (T6.setTop (mkF m 45 #[.val (.ref a1), .val (.int p2)] [(.int p2), (.int (Int32.ofNat k_)), (.ref b)])) _
    refine st15 _ ?_
    exact kt
  obtain ⟨fs, hr, hrun, hended, hW, hsame⟩ := X15.leave (v := none) (fun _ => rfl)
  refine ⟨_, _, pre24 _ ?_, hrun, hended, _, _, rfl, ?_, ⟨_, rfl⟩, hW, hsame.mono (by decide) (by decide)⟩
  · show Steps p.tables e below (T15.setTop (mkF m 46 #[.val (.ref a1), .val (.int p2)] [])) _
    exact X15.returnOut hx Bd.returns (hb hby own_d_prog_103_method_2_46) hr
  · show own_Q_add Z a1 p2 b k_ N f h0 n0 (none) T15.heap _
    rw [e15]
    exact ⟨rfl, nf21, k20, f17, by rw [← own_of1]; exact f18, f23⟩
def own_l5 (a b c d e : Int32) : Nat → Int32
  | 0 => a
  | 1 => b
  | 2 => c
  | 3 => d
  | _ => e
theorem own_kr (x : Int32) : 0 ≤ ((x &&& (2147483647 : Int32)) % (6 : Int32)).toInt ∧ ((x &&& (2147483647 : Int32)) % (6 : Int32)).toInt < 6 := by
  have q := (c_and x 2147483647 (by decide)).1
  have r := (c_irem (x &&& 2147483647) 6 6 rfl).1 q
  rw [r]; omega
theorem own_no {n : Int32} (a b : Int32) (h : ¬ a < n) (hab : a.toInt ≤ b.toInt) : ¬ b < n := by rw [Int32.lt_iff_toInt_lt] at h ⊢; omega
theorem own_k0 {k : Int32} (h0 : 0 ≤ k.toInt) (h : ¬ (0 : Int32) < k) : k = Int32.ofNat 0 := by
  apply Int32.toInt_inj.mp; rw [own_ofI (by decide)]; rw [Int32.lt_iff_toInt_lt] at h; have : (0 : Int32).toInt = 0 := rfl; omega
theorem own_kN {k : Int32} (n : Nat) (hn : n < 32) (h : Int32.ofNat n < k) (h' : k.toInt < n + 2) : k = Int32.ofNat (n + 1) := by
  apply Int32.toInt_inj.mp; rw [own_ofI (by omega)]; rw [Int32.lt_iff_toInt_lt, own_ofI (by omega)] at h; omega
theorem own_le {k : Int32} (n : Nat) (hn : n < 32) (h : ¬ Int32.ofNat (n + 1) < k) : k.toInt < n + 2 := by
  rw [Int32.lt_iff_toInt_lt, own_ofI (by omega)] at h; omega
theorem own_ltk {k : Int32} {n : Nat} (i : Nat) (e : k = Int32.ofNat n) (hn : n ≤ 5) (hi : i ≤ 5) (h : Int32.ofNat i < k) : i < n := by
  subst e; rw [Int32.lt_iff_toInt_lt, own_ofI (by omega), own_ofI (by omega)] at h; omega
theorem own_d_method_3_0 : decode method_3_code 0 = .ok (.aload_n 0, 1) := by decide +kernel
theorem own_d_method_3_1 : decode method_3_code 1 = .ok (.ifnull 9, 3) := by decide +kernel
theorem own_d_method_3_4 : decode method_3_code 4 = .ok (.aload_n 0, 1) := by decide +kernel
theorem own_d_method_3_5 : decode method_3_code 5 = .ok (.arraylength, 1) := by decide +kernel
theorem own_d_method_3_6 : decode method_3_code 6 = .ok (.iload_n 1, 1) := by decide +kernel
theorem own_d_method_3_7 : decode method_3_code 7 = .ok (.if_icmp .eq 5, 3) := by decide +kernel
theorem own_d_method_3_10 : decode method_3_code 10 = .ok (.iconst 0, 1) := by decide +kernel
theorem own_d_method_3_11 : decode method_3_code 11 = .ok (.ireturn, 1) := by decide +kernel
theorem own_d_method_3_12 : decode method_3_code 12 = .ok (.iload_n 1, 1) := by decide +kernel
theorem own_d_method_3_13 : decode method_3_code 13 = .ok (.ifCond .le 12, 3) := by decide +kernel
theorem own_d_method_3_16 : decode method_3_code 16 = .ok (.aload_n 0, 1) := by decide +kernel
theorem own_d_method_3_17 : decode method_3_code 17 = .ok (.iconst 0, 1) := by decide +kernel
theorem own_d_method_3_18 : decode method_3_code 18 = .ok (.iaload, 1) := by decide +kernel
theorem own_d_method_3_19 : decode method_3_code 19 = .ok (.iload_n 2, 1) := by decide +kernel
theorem own_d_method_3_20 : decode method_3_code 20 = .ok (.if_icmp .eq 5, 3) := by decide +kernel
theorem own_d_method_3_23 : decode method_3_code 23 = .ok (.iconst 0, 1) := by decide +kernel
theorem own_d_method_3_24 : decode method_3_code 24 = .ok (.ireturn, 1) := by decide +kernel
theorem own_d_method_3_25 : decode method_3_code 25 = .ok (.iload_n 1, 1) := by decide +kernel
theorem own_d_method_3_26 : decode method_3_code 26 = .ok (.iconst 1, 1) := by decide +kernel
theorem own_d_method_3_27 : decode method_3_code 27 = .ok (.if_icmp .le 12, 3) := by decide +kernel
theorem own_d_method_3_30 : decode method_3_code 30 = .ok (.aload_n 0, 1) := by decide +kernel
theorem own_d_method_3_31 : decode method_3_code 31 = .ok (.iconst 1, 1) := by decide +kernel
theorem own_d_method_3_32 : decode method_3_code 32 = .ok (.iaload, 1) := by decide +kernel
theorem own_d_method_3_33 : decode method_3_code 33 = .ok (.iload_n 3, 1) := by decide +kernel
theorem own_d_method_3_34 : decode method_3_code 34 = .ok (.if_icmp .eq 5, 3) := by decide +kernel
theorem own_d_method_3_37 : decode method_3_code 37 = .ok (.iconst 0, 1) := by decide +kernel
theorem own_d_method_3_38 : decode method_3_code 38 = .ok (.ireturn, 1) := by decide +kernel
theorem own_d_method_3_39 : decode method_3_code 39 = .ok (.iload_n 1, 1) := by decide +kernel
theorem own_d_method_3_40 : decode method_3_code 40 = .ok (.iconst 2, 1) := by decide +kernel
theorem own_d_method_3_41 : decode method_3_code 41 = .ok (.if_icmp .le 13, 3) := by decide +kernel
theorem own_d_method_3_44 : decode method_3_code 44 = .ok (.aload_n 0, 1) := by decide +kernel
theorem own_d_method_3_45 : decode method_3_code 45 = .ok (.iconst 2, 1) := by decide +kernel
theorem own_d_method_3_46 : decode method_3_code 46 = .ok (.iaload, 1) := by decide +kernel
theorem own_d_method_3_47 : decode method_3_code 47 = .ok (.iload 4, 2) := by decide +kernel
theorem own_d_method_3_49 : decode method_3_code 49 = .ok (.if_icmp .eq 5, 3) := by decide +kernel
theorem own_d_method_3_52 : decode method_3_code 52 = .ok (.iconst 0, 1) := by decide +kernel
theorem own_d_method_3_53 : decode method_3_code 53 = .ok (.ireturn, 1) := by decide +kernel
theorem own_d_method_3_54 : decode method_3_code 54 = .ok (.iload_n 1, 1) := by decide +kernel
theorem own_d_method_3_55 : decode method_3_code 55 = .ok (.iconst 3, 1) := by decide +kernel
theorem own_d_method_3_56 : decode method_3_code 56 = .ok (.if_icmp .le 13, 3) := by decide +kernel
theorem own_d_method_3_59 : decode method_3_code 59 = .ok (.aload_n 0, 1) := by decide +kernel
theorem own_d_method_3_60 : decode method_3_code 60 = .ok (.iconst 3, 1) := by decide +kernel
theorem own_d_method_3_61 : decode method_3_code 61 = .ok (.iaload, 1) := by decide +kernel
theorem own_d_method_3_62 : decode method_3_code 62 = .ok (.iload 5, 2) := by decide +kernel
theorem own_d_method_3_64 : decode method_3_code 64 = .ok (.if_icmp .eq 5, 3) := by decide +kernel
theorem own_d_method_3_67 : decode method_3_code 67 = .ok (.iconst 0, 1) := by decide +kernel
theorem own_d_method_3_68 : decode method_3_code 68 = .ok (.ireturn, 1) := by decide +kernel
theorem own_d_method_3_69 : decode method_3_code 69 = .ok (.iload_n 1, 1) := by decide +kernel
theorem own_d_method_3_70 : decode method_3_code 70 = .ok (.iconst 4, 1) := by decide +kernel
theorem own_d_method_3_71 : decode method_3_code 71 = .ok (.if_icmp .le 13, 3) := by decide +kernel
theorem own_d_method_3_74 : decode method_3_code 74 = .ok (.aload_n 0, 1) := by decide +kernel
theorem own_d_method_3_75 : decode method_3_code 75 = .ok (.iconst 4, 1) := by decide +kernel
theorem own_d_method_3_76 : decode method_3_code 76 = .ok (.iaload, 1) := by decide +kernel
theorem own_d_method_3_77 : decode method_3_code 77 = .ok (.iload 6, 2) := by decide +kernel
theorem own_d_method_3_79 : decode method_3_code 79 = .ok (.if_icmp .eq 5, 3) := by decide +kernel
theorem own_d_method_3_82 : decode method_3_code 82 = .ok (.iconst 0, 1) := by decide +kernel
theorem own_d_method_3_83 : decode method_3_code 83 = .ok (.ireturn, 1) := by decide +kernel
theorem own_d_method_3_84 : decode method_3_code 84 = .ok (.iconst 1, 1) := by decide +kernel
theorem own_d_method_3_85 : decode method_3_code 85 = .ok (.ireturn, 1) := by decide +kernel
theorem own_pn2 : plainName "com/example/interleaving/interleaving/store/StateGraphInitialStatesPinLaw" = true := by first | (simp [plainName, overriddenIn]; done) | decide +kernel
theorem own_ef_mt (m : MethodId) (a1 : Addr) (p1 : Int32) (p2 : Int32) (p3 : Int32) (p4 : Int32) (p5 : Int32) (p6 : Int32) : entryFrame m #[(.ref a1), (.int p1), (.int p2), (.int p3), (.int p4), (.int p5), (.int p6)] 7 = mkF m 0 #[.val (.ref a1), .val (.int p1), .val (.int p2), .val (.int p3), .val (.int p4), .val (.int p5), .val (.int p6)] [] := by first | (simp [entryFrame, mkF, argsToLocals, Value.category]; done) | rfl
def own_Q_mt (Z : State) (a1 : Addr) (p1 : Int32) (p2 : Int32) (p3 : Int32) (p4 : Int32) (p5 : Int32) (p6 : Int32) (n_ : Nat) (f : Nat → Int32) (h0 : Heap) (n0 : Nat) (v : Option Value) (h : Heap) (L : List Loc) : Prop := v = some (.int 1) ∧ Fr n0 L ∧ h = h0
set_option maxRecDepth 65536 in
set_option maxHeartbeats 40000000 in
theorem own_rm_mt (l : Launch) (Z : State) (a0 : Array Value) (hw : ∀ d ∈ tables_1, d.before a0 Z = true) (ws : List Jvm.Cond) (a1 : Addr) (p1 : Int32) (p2 : Int32) (p3 : Int32) (p4 : Int32) (p5 : Int32) (p6 : Int32) (n_ : Nat) (f : Nat → Int32) (h0 : Heap) (n0 : Nat) (Z0 : n0 ≤ h0.size) (A1 : own_A Z h0 a1 n_ f) (hk : p1 = Int32.ofNat n_) (hn : n_ ≤ 5) (hf : ∀ j, j < n_ → f j = own_l5 p2 p3 p4 p5 p6 j) :
    MetFree l (⟨"com/example/interleaving/interleaving/store/StateGraphInitialStatesPinLaw", "matches", "([IIIIIII)Z"⟩ : MethodName) (head1 (Jvm.Cond.code (⟨"com/example/interleaving/interleaving/store/StateGraphInitialStatesPinLaw", "matches", "([IIIIIII)Z"⟩ : MethodName) method_3_code 7 (some .boolean) :: ws) ({ frames := 0, cells := 0, slots := 0, locals := 0 } : Room)) (fun a U => a = #[(.ref a1), (.int p1), (.int p2), (.int p3), (.int p4), (.int p5), (.int p6)] ∧ Z.Warmed39 U.vm ∧ U.heap = h0) (fun _ _ _ _ _ => True) (fun _ U o U' => ∃ v L, o = .returned v ∧ own_Q_mt Z a1 p1 p2 p3 p4 p5 p6 n_ f h0 n0 v U'.heap L ∧ FrameEnd U o U' L ({ frames := 0, cells := 0, slots := 0, locals := 0 } : Room).cells ({ frames := 0, cells := 0, slots := 0, locals := 0 } : Room).slots) := by
  refine MetFree.of_bodySF (plainFor_of_name own_pn2) hisR ?_
  intro p e s m args below meth c s₁ Bd hml0 hP hK
  obtain ⟨rfl, hZ, hh⟩ := hP
  have hx := Bd.exec
  have hby := Bd.bytes
  have hml : c.maxLocals = 7 := hml0
  have hown : s.vm.findClass "com/example/interleaving/interleaving/store/StateGraphInitialStatesPinLaw" = some m.cls := findClass_of_methodNamed Bd.named
  have hnm := (name_of_methodNamed Bd.named Bd.method).1
  have X0 : Stand p l e ({ frames := 0, cells := 0, slots := 0, locals := 0 } : Room) s m #[(.ref a1), (.int p1), (.int p2), (.int p3), (.int p4), (.int p5), (.int p6)] below meth c s₁ [] 0 0 := Stand.of_body Bd
  have e0 : s₁.heap = h0 := by rw [← hh, Bd.state]; rfl
  have N0 := Fr.nil n0
  have K0 : Keep h0 h0 [] := Keep.refl _ _
  have pre0 : ∀ t, Steps p.tables e below (s₁.setTop (mkF m 0 #[.val (.ref a1), .val (.int p1), .val (.int p2), .val (.int p3), .val (.int p4), .val (.int p5), .val (.int p6)] [])) t → Steps p.tables e below (s₁.setTop (entryFrame m #[(.ref a1), (.int p1), (.int p2), (.int p3), (.int p4), (.int p5), (.int p6)] 7)) t := fun t k => castTop (own_ef_mt m a1 p1 p2 p3 p4 p5 p6) k
  obtain ⟨cl1, Ar1, S1, -⟩ := id A1
  have pre2 : ∀ t, Steps p.tables e below (s₁.setTop (mkF m 13 #[.val (.ref a1), .val (.int p1), .val (.int p2), .val (.int p3), .val (.int p4), .val (.int p5), .val (.int p6)] [(.int p1)])) t → Steps p.tables e below (s₁.setTop (entryFrame m #[(.ref a1), (.int p1), (.int p2), (.int p3), (.int p4), (.int p5), (.int p6)] 7)) t := by
    intro t kt
    refine pre0 t ?_
    show Steps p.tables e below (s₁.setTop (mkF m 0 #[.val (.ref a1), .val (.int p1), .val (.int p2), .val (.int p3), .val (.int p4), .val (.int p5), .val (.int p6)] [])) _
    refine XS.aloadN X0.here hx rfl (hb hby own_d_method_3_0) rfl rfl ?_
    show Steps p.tables e below (s₁.setTop (mkF m 1 #[.val (.ref a1), .val (.int p1), .val (.int p2), .val (.int p3), .val (.int p4), .val (.int p5), .val (.int p6)] [(.ref a1)])) _
    refine XS.ifnullNo X0.here hx rfl (hb hby own_d_method_3_1) rfl ?_
    show Steps p.tables e below (s₁.setTop (mkF m 4 #[.val (.ref a1), .val (.int p1), .val (.int p2), .val (.int p3), .val (.int p4), .val (.int p5), .val (.int p6)] [])) _
    refine XS.aloadN X0.here hx rfl (hb hby own_d_method_3_4) rfl rfl ?_
    show Steps p.tables e below (s₁.setTop (mkF m 5 #[.val (.ref a1), .val (.int p1), .val (.int p2), .val (.int p3), .val (.int p4), .val (.int p5), .val (.int p6)] [(.ref a1)])) _
    refine X0.arraylength hx (by rw [e0]; exact Ar1.1) (State.isArrayOf_alike hZ.alike Ar1.2.1) (g := (mkF m 5 #[.val (.ref a1), .val (.int p1), .val (.int p2), .val (.int p3), .val (.int p4), .val (.int p5), .val (.int p6)] [(.ref a1)])) rfl rfl (hb hby own_d_method_3_5) _ ?_
    rw [own_len (z := p1) S1 hk.symm]
    show Steps p.tables e below (s₁.setTop (mkF m 6 #[.val (.ref a1), .val (.int p1), .val (.int p2), .val (.int p3), .val (.int p4), .val (.int p5), .val (.int p6)] [(.int p1)])) _
    refine XS.iloadN X0.here hx rfl (hb hby own_d_method_3_6) rfl ?_
    show Steps p.tables e below (s₁.setTop (mkF m 7 #[.val (.ref a1), .val (.int p1), .val (.int p2), .val (.int p3), .val (.int p4), .val (.int p5), .val (.int p6)] [(.int p1), (.int p1)])) _
    refine XS.icmpYes X0.here hx rfl (pc0 := 7) (pc' := 12) rfl (hb hby own_d_method_3_7) rfl (teq (rfl : p1 = p1)).1 (by decide) (by decide) ?_
    show Steps p.tables e below (s₁.setTop (mkF m 12 #[.val (.ref a1), .val (.int p1), .val (.int p2), .val (.int p3), .val (.int p4), .val (.int p5), .val (.int p6)] [])) _
    refine XS.iloadN X0.here hx rfl (hb hby own_d_method_3_12) rfl ?_
    exact kt
  by_cases hc3 : (0 : Int32) < p1
  · obtain ⟨cl4, Ar4, S4, H4⟩ := id A1
    have hin4 : ¬ ((0 : Int32) < 0 ∨ cl4.slots.size ≤ ((0 : Int32)).toNatClampNeg) := own_inb S4 (by decide) (own_ltk 0 hk hn (by decide) hc3)
    have hat4 : cl4.slots[((0 : Int32)).toNatClampNeg]? = some (.int (f 0)) := H4 _ (own_ltk 0 hk hn (by decide) hc3)
    have pre5 : ∀ t, Steps p.tables e below (s₁.setTop (mkF m 27 #[.val (.ref a1), .val (.int p1), .val (.int p2), .val (.int p3), .val (.int p4), .val (.int p5), .val (.int p6)] [(.int (1 : Int32)), (.int p1)])) t → Steps p.tables e below (s₁.setTop (entryFrame m #[(.ref a1), (.int p1), (.int p2), (.int p3), (.int p4), (.int p5), (.int p6)] 7)) t := by
      intro t kt
      refine pre2 t ?_
      show Steps p.tables e below (s₁.setTop (mkF m 13 #[.val (.ref a1), .val (.int p1), .val (.int p2), .val (.int p3), .val (.int p4), .val (.int p5), .val (.int p6)] [(.int p1)])) _
      refine XS.ifNo X0.here hx rfl (hb hby own_d_method_3_13) rfl ((if0 _ _).trans (tlt hc3).2.2.2) ?_
      show Steps p.tables e below (s₁.setTop (mkF m 16 #[.val (.ref a1), .val (.int p1), .val (.int p2), .val (.int p3), .val (.int p4), .val (.int p5), .val (.int p6)] [])) _
      refine XS.aloadN X0.here hx rfl (hb hby own_d_method_3_16) rfl rfl ?_
      show Steps p.tables e below (s₁.setTop (mkF m 17 #[.val (.ref a1), .val (.int p1), .val (.int p2), .val (.int p3), .val (.int p4), .val (.int p5), .val (.int p6)] [(.ref a1)])) _
      refine XS.iconst X0.here hx rfl (hb hby own_d_method_3_17) ?_
      show Steps p.tables e below (s₁.setTop (mkF m 18 #[.val (.ref a1), .val (.int p1), .val (.int p2), .val (.int p3), .val (.int p4), .val (.int p5), .val (.int p6)] [(.int (0 : Int32)), (.ref a1)])) _
      refine X0.iaload hx (j := (0 : Int32)) (v := (.int (f 0))) (by rw [e0]; exact Ar4.1) (State.isArrayOf_alike hZ.alike Ar4.2.1) Ar4.2.2 hin4 hat4 (g := (mkF m 18 #[.val (.ref a1), .val (.int p1), .val (.int p2), .val (.int p3), .val (.int p4), .val (.int p5), .val (.int p6)] [(.int (0 : Int32)), (.ref a1)])) rfl rfl (hb hby own_d_method_3_18) _ ?_
      show Steps p.tables e below (s₁.setTop (mkF m 19 #[.val (.ref a1), .val (.int p1), .val (.int p2), .val (.int p3), .val (.int p4), .val (.int p5), .val (.int p6)] [(.int (f 0))])) _
      refine XS.iloadN X0.here hx rfl (hb hby own_d_method_3_19) rfl ?_
      show Steps p.tables e below (s₁.setTop (mkF m 20 #[.val (.ref a1), .val (.int p1), .val (.int p2), .val (.int p3), .val (.int p4), .val (.int p5), .val (.int p6)] [(.int p2), (.int (f 0))])) _
      refine XS.icmpYes X0.here hx rfl (pc0 := 20) (pc' := 25) rfl (hb hby own_d_method_3_20) rfl (teq (hf 0 (own_ltk 0 hk hn (by decide) hc3))).1 (by decide) (by decide) ?_
      show Steps p.tables e below (s₁.setTop (mkF m 25 #[.val (.ref a1), .val (.int p1), .val (.int p2), .val (.int p3), .val (.int p4), .val (.int p5), .val (.int p6)] [])) _
      refine XS.iloadN X0.here hx rfl (hb hby own_d_method_3_25) rfl ?_
      show Steps p.tables e below (s₁.setTop (mkF m 26 #[.val (.ref a1), .val (.int p1), .val (.int p2), .val (.int p3), .val (.int p4), .val (.int p5), .val (.int p6)] [(.int p1)])) _
      refine XS.iconst X0.here hx rfl (hb hby own_d_method_3_26) ?_
      exact kt
    by_cases hc6 : (1 : Int32) < p1
    · obtain ⟨cl7, Ar7, S7, H7⟩ := id A1
      have hin7 : ¬ ((1 : Int32) < 0 ∨ cl7.slots.size ≤ ((1 : Int32)).toNatClampNeg) := own_inb S7 (by decide) (own_ltk 1 hk hn (by decide) hc6)
      have hat7 : cl7.slots[((1 : Int32)).toNatClampNeg]? = some (.int (f 1)) := H7 _ (own_ltk 1 hk hn (by decide) hc6)
      have pre8 : ∀ t, Steps p.tables e below (s₁.setTop (mkF m 41 #[.val (.ref a1), .val (.int p1), .val (.int p2), .val (.int p3), .val (.int p4), .val (.int p5), .val (.int p6)] [(.int (2 : Int32)), (.int p1)])) t → Steps p.tables e below (s₁.setTop (entryFrame m #[(.ref a1), (.int p1), (.int p2), (.int p3), (.int p4), (.int p5), (.int p6)] 7)) t := by
        intro t kt
        refine pre5 t ?_
        show Steps p.tables e below (s₁.setTop (mkF m 27 #[.val (.ref a1), .val (.int p1), .val (.int p2), .val (.int p3), .val (.int p4), .val (.int p5), .val (.int p6)] [(.int (1 : Int32)), (.int p1)])) _
        refine XS.icmpNo X0.here hx rfl (hb hby own_d_method_3_27) rfl (tlt hc6).2.2.2 ?_
        show Steps p.tables e below (s₁.setTop (mkF m 30 #[.val (.ref a1), .val (.int p1), .val (.int p2), .val (.int p3), .val (.int p4), .val (.int p5), .val (.int p6)] [])) _
        refine XS.aloadN X0.here hx rfl (hb hby own_d_method_3_30) rfl rfl ?_
        show Steps p.tables e below (s₁.setTop (mkF m 31 #[.val (.ref a1), .val (.int p1), .val (.int p2), .val (.int p3), .val (.int p4), .val (.int p5), .val (.int p6)] [(.ref a1)])) _
        refine XS.iconst X0.here hx rfl (hb hby own_d_method_3_31) ?_
        show Steps p.tables e below (s₁.setTop (mkF m 32 #[.val (.ref a1), .val (.int p1), .val (.int p2), .val (.int p3), .val (.int p4), .val (.int p5), .val (.int p6)] [(.int (1 : Int32)), (.ref a1)])) _
        refine X0.iaload hx (j := (1 : Int32)) (v := (.int (f 1))) (by rw [e0]; exact Ar7.1) (State.isArrayOf_alike hZ.alike Ar7.2.1) Ar7.2.2 hin7 hat7 (g := (mkF m 32 #[.val (.ref a1), .val (.int p1), .val (.int p2), .val (.int p3), .val (.int p4), .val (.int p5), .val (.int p6)] [(.int (1 : Int32)), (.ref a1)])) rfl rfl (hb hby own_d_method_3_32) _ ?_
        show Steps p.tables e below (s₁.setTop (mkF m 33 #[.val (.ref a1), .val (.int p1), .val (.int p2), .val (.int p3), .val (.int p4), .val (.int p5), .val (.int p6)] [(.int (f 1))])) _
        refine XS.iloadN X0.here hx rfl (hb hby own_d_method_3_33) rfl ?_
        show Steps p.tables e below (s₁.setTop (mkF m 34 #[.val (.ref a1), .val (.int p1), .val (.int p2), .val (.int p3), .val (.int p4), .val (.int p5), .val (.int p6)] [(.int p3), (.int (f 1))])) _
        refine XS.icmpYes X0.here hx rfl (pc0 := 34) (pc' := 39) rfl (hb hby own_d_method_3_34) rfl (teq (hf 1 (own_ltk 1 hk hn (by decide) hc6))).1 (by decide) (by decide) ?_
        show Steps p.tables e below (s₁.setTop (mkF m 39 #[.val (.ref a1), .val (.int p1), .val (.int p2), .val (.int p3), .val (.int p4), .val (.int p5), .val (.int p6)] [])) _
        refine XS.iloadN X0.here hx rfl (hb hby own_d_method_3_39) rfl ?_
        show Steps p.tables e below (s₁.setTop (mkF m 40 #[.val (.ref a1), .val (.int p1), .val (.int p2), .val (.int p3), .val (.int p4), .val (.int p5), .val (.int p6)] [(.int p1)])) _
        refine XS.iconst X0.here hx rfl (hb hby own_d_method_3_40) ?_
        exact kt
      by_cases hc9 : (2 : Int32) < p1
      · obtain ⟨cl10, Ar10, S10, H10⟩ := id A1
        have hin10 : ¬ ((2 : Int32) < 0 ∨ cl10.slots.size ≤ ((2 : Int32)).toNatClampNeg) := own_inb S10 (by decide) (own_ltk 2 hk hn (by decide) hc9)
        have hat10 : cl10.slots[((2 : Int32)).toNatClampNeg]? = some (.int (f 2)) := H10 _ (own_ltk 2 hk hn (by decide) hc9)
        have pre11 : ∀ t, Steps p.tables e below (s₁.setTop (mkF m 56 #[.val (.ref a1), .val (.int p1), .val (.int p2), .val (.int p3), .val (.int p4), .val (.int p5), .val (.int p6)] [(.int (3 : Int32)), (.int p1)])) t → Steps p.tables e below (s₁.setTop (entryFrame m #[(.ref a1), (.int p1), (.int p2), (.int p3), (.int p4), (.int p5), (.int p6)] 7)) t := by
          intro t kt
          refine pre8 t ?_
          show Steps p.tables e below (s₁.setTop (mkF m 41 #[.val (.ref a1), .val (.int p1), .val (.int p2), .val (.int p3), .val (.int p4), .val (.int p5), .val (.int p6)] [(.int (2 : Int32)), (.int p1)])) _
          refine XS.icmpNo X0.here hx rfl (hb hby own_d_method_3_41) rfl (tlt hc9).2.2.2 ?_
          show Steps p.tables e below (s₁.setTop (mkF m 44 #[.val (.ref a1), .val (.int p1), .val (.int p2), .val (.int p3), .val (.int p4), .val (.int p5), .val (.int p6)] [])) _
          refine XS.aloadN X0.here hx rfl (hb hby own_d_method_3_44) rfl rfl ?_
          show Steps p.tables e below (s₁.setTop (mkF m 45 #[.val (.ref a1), .val (.int p1), .val (.int p2), .val (.int p3), .val (.int p4), .val (.int p5), .val (.int p6)] [(.ref a1)])) _
          refine XS.iconst X0.here hx rfl (hb hby own_d_method_3_45) ?_
          show Steps p.tables e below (s₁.setTop (mkF m 46 #[.val (.ref a1), .val (.int p1), .val (.int p2), .val (.int p3), .val (.int p4), .val (.int p5), .val (.int p6)] [(.int (2 : Int32)), (.ref a1)])) _
          refine X0.iaload hx (j := (2 : Int32)) (v := (.int (f 2))) (by rw [e0]; exact Ar10.1) (State.isArrayOf_alike hZ.alike Ar10.2.1) Ar10.2.2 hin10 hat10 (g := (mkF m 46 #[.val (.ref a1), .val (.int p1), .val (.int p2), .val (.int p3), .val (.int p4), .val (.int p5), .val (.int p6)] [(.int (2 : Int32)), (.ref a1)])) rfl rfl (hb hby own_d_method_3_46) _ ?_
          show Steps p.tables e below (s₁.setTop (mkF m 47 #[.val (.ref a1), .val (.int p1), .val (.int p2), .val (.int p3), .val (.int p4), .val (.int p5), .val (.int p6)] [(.int (f 2))])) _
          refine XS.iload X0.here hx rfl (hb hby own_d_method_3_47) rfl ?_
          show Steps p.tables e below (s₁.setTop (mkF m 49 #[.val (.ref a1), .val (.int p1), .val (.int p2), .val (.int p3), .val (.int p4), .val (.int p5), .val (.int p6)] [(.int p4), (.int (f 2))])) _
          refine XS.icmpYes X0.here hx rfl (pc0 := 49) (pc' := 54) rfl (hb hby own_d_method_3_49) rfl (teq (hf 2 (own_ltk 2 hk hn (by decide) hc9))).1 (by decide) (by decide) ?_
          show Steps p.tables e below (s₁.setTop (mkF m 54 #[.val (.ref a1), .val (.int p1), .val (.int p2), .val (.int p3), .val (.int p4), .val (.int p5), .val (.int p6)] [])) _
          refine XS.iloadN X0.here hx rfl (hb hby own_d_method_3_54) rfl ?_
          show Steps p.tables e below (s₁.setTop (mkF m 55 #[.val (.ref a1), .val (.int p1), .val (.int p2), .val (.int p3), .val (.int p4), .val (.int p5), .val (.int p6)] [(.int p1)])) _
          refine XS.iconst X0.here hx rfl (hb hby own_d_method_3_55) ?_
          exact kt
        by_cases hc12 : (3 : Int32) < p1
        · obtain ⟨cl13, Ar13, S13, H13⟩ := id A1
          have hin13 : ¬ ((3 : Int32) < 0 ∨ cl13.slots.size ≤ ((3 : Int32)).toNatClampNeg) := own_inb S13 (by decide) (own_ltk 3 hk hn (by decide) hc12)
          have hat13 : cl13.slots[((3 : Int32)).toNatClampNeg]? = some (.int (f 3)) := H13 _ (own_ltk 3 hk hn (by decide) hc12)
          have pre14 : ∀ t, Steps p.tables e below (s₁.setTop (mkF m 71 #[.val (.ref a1), .val (.int p1), .val (.int p2), .val (.int p3), .val (.int p4), .val (.int p5), .val (.int p6)] [(.int (4 : Int32)), (.int p1)])) t → Steps p.tables e below (s₁.setTop (entryFrame m #[(.ref a1), (.int p1), (.int p2), (.int p3), (.int p4), (.int p5), (.int p6)] 7)) t := by
            intro t kt
            refine pre11 t ?_
            show Steps p.tables e below (s₁.setTop (mkF m 56 #[.val (.ref a1), .val (.int p1), .val (.int p2), .val (.int p3), .val (.int p4), .val (.int p5), .val (.int p6)] [(.int (3 : Int32)), (.int p1)])) _
            refine XS.icmpNo X0.here hx rfl (hb hby own_d_method_3_56) rfl (tlt hc12).2.2.2 ?_
            show Steps p.tables e below (s₁.setTop (mkF m 59 #[.val (.ref a1), .val (.int p1), .val (.int p2), .val (.int p3), .val (.int p4), .val (.int p5), .val (.int p6)] [])) _
            refine XS.aloadN X0.here hx rfl (hb hby own_d_method_3_59) rfl rfl ?_
            show Steps p.tables e below (s₁.setTop (mkF m 60 #[.val (.ref a1), .val (.int p1), .val (.int p2), .val (.int p3), .val (.int p4), .val (.int p5), .val (.int p6)] [(.ref a1)])) _
            refine XS.iconst X0.here hx rfl (hb hby own_d_method_3_60) ?_
            show Steps p.tables e below (s₁.setTop (mkF m 61 #[.val (.ref a1), .val (.int p1), .val (.int p2), .val (.int p3), .val (.int p4), .val (.int p5), .val (.int p6)] [(.int (3 : Int32)), (.ref a1)])) _
            refine X0.iaload hx (j := (3 : Int32)) (v := (.int (f 3))) (by rw [e0]; exact Ar13.1) (State.isArrayOf_alike hZ.alike Ar13.2.1) Ar13.2.2 hin13 hat13 (g := (mkF m 61 #[.val (.ref a1), .val (.int p1), .val (.int p2), .val (.int p3), .val (.int p4), .val (.int p5), .val (.int p6)] [(.int (3 : Int32)), (.ref a1)])) rfl rfl (hb hby own_d_method_3_61) _ ?_
            show Steps p.tables e below (s₁.setTop (mkF m 62 #[.val (.ref a1), .val (.int p1), .val (.int p2), .val (.int p3), .val (.int p4), .val (.int p5), .val (.int p6)] [(.int (f 3))])) _
            refine XS.iload X0.here hx rfl (hb hby own_d_method_3_62) rfl ?_
            show Steps p.tables e below (s₁.setTop (mkF m 64 #[.val (.ref a1), .val (.int p1), .val (.int p2), .val (.int p3), .val (.int p4), .val (.int p5), .val (.int p6)] [(.int p5), (.int (f 3))])) _
            refine XS.icmpYes X0.here hx rfl (pc0 := 64) (pc' := 69) rfl (hb hby own_d_method_3_64) rfl (teq (hf 3 (own_ltk 3 hk hn (by decide) hc12))).1 (by decide) (by decide) ?_
            show Steps p.tables e below (s₁.setTop (mkF m 69 #[.val (.ref a1), .val (.int p1), .val (.int p2), .val (.int p3), .val (.int p4), .val (.int p5), .val (.int p6)] [])) _
            refine XS.iloadN X0.here hx rfl (hb hby own_d_method_3_69) rfl ?_
            show Steps p.tables e below (s₁.setTop (mkF m 70 #[.val (.ref a1), .val (.int p1), .val (.int p2), .val (.int p3), .val (.int p4), .val (.int p5), .val (.int p6)] [(.int p1)])) _
            refine XS.iconst X0.here hx rfl (hb hby own_d_method_3_70) ?_
            exact kt
          by_cases hc15 : (4 : Int32) < p1
          · obtain ⟨cl16, Ar16, S16, H16⟩ := id A1
            have hin16 : ¬ ((4 : Int32) < 0 ∨ cl16.slots.size ≤ ((4 : Int32)).toNatClampNeg) := own_inb S16 (by decide) (own_ltk 4 hk hn (by decide) hc15)
            have hat16 : cl16.slots[((4 : Int32)).toNatClampNeg]? = some (.int (f 4)) := H16 _ (own_ltk 4 hk hn (by decide) hc15)
            have pre17 : ∀ t, Steps p.tables e below (s₁.setTop (mkF m 85 #[.val (.ref a1), .val (.int p1), .val (.int p2), .val (.int p3), .val (.int p4), .val (.int p5), .val (.int p6)] [(.int (1 : Int32))])) t → Steps p.tables e below (s₁.setTop (entryFrame m #[(.ref a1), (.int p1), (.int p2), (.int p3), (.int p4), (.int p5), (.int p6)] 7)) t := by
              intro t kt
              refine pre14 t ?_
              show Steps p.tables e below (s₁.setTop (mkF m 71 #[.val (.ref a1), .val (.int p1), .val (.int p2), .val (.int p3), .val (.int p4), .val (.int p5), .val (.int p6)] [(.int (4 : Int32)), (.int p1)])) _
              refine XS.icmpNo X0.here hx rfl (hb hby own_d_method_3_71) rfl (tlt hc15).2.2.2 ?_
              show Steps p.tables e below (s₁.setTop (mkF m 74 #[.val (.ref a1), .val (.int p1), .val (.int p2), .val (.int p3), .val (.int p4), .val (.int p5), .val (.int p6)] [])) _
              refine XS.aloadN X0.here hx rfl (hb hby own_d_method_3_74) rfl rfl ?_
              show Steps p.tables e below (s₁.setTop (mkF m 75 #[.val (.ref a1), .val (.int p1), .val (.int p2), .val (.int p3), .val (.int p4), .val (.int p5), .val (.int p6)] [(.ref a1)])) _
              refine XS.iconst X0.here hx rfl (hb hby own_d_method_3_75) ?_
              show Steps p.tables e below (s₁.setTop (mkF m 76 #[.val (.ref a1), .val (.int p1), .val (.int p2), .val (.int p3), .val (.int p4), .val (.int p5), .val (.int p6)] [(.int (4 : Int32)), (.ref a1)])) _
              refine X0.iaload hx (j := (4 : Int32)) (v := (.int (f 4))) (by rw [e0]; exact Ar16.1) (State.isArrayOf_alike hZ.alike Ar16.2.1) Ar16.2.2 hin16 hat16 (g := (mkF m 76 #[.val (.ref a1), .val (.int p1), .val (.int p2), .val (.int p3), .val (.int p4), .val (.int p5), .val (.int p6)] [(.int (4 : Int32)), (.ref a1)])) rfl rfl (hb hby own_d_method_3_76) _ ?_
              show Steps p.tables e below (s₁.setTop (mkF m 77 #[.val (.ref a1), .val (.int p1), .val (.int p2), .val (.int p3), .val (.int p4), .val (.int p5), .val (.int p6)] [(.int (f 4))])) _
              refine XS.iload X0.here hx rfl (hb hby own_d_method_3_77) rfl ?_
              show Steps p.tables e below (s₁.setTop (mkF m 79 #[.val (.ref a1), .val (.int p1), .val (.int p2), .val (.int p3), .val (.int p4), .val (.int p5), .val (.int p6)] [(.int p6), (.int (f 4))])) _
              refine XS.icmpYes X0.here hx rfl (pc0 := 79) (pc' := 84) rfl (hb hby own_d_method_3_79) rfl (teq (hf 4 (own_ltk 4 hk hn (by decide) hc15))).1 (by decide) (by decide) ?_
              show Steps p.tables e below (s₁.setTop (mkF m 84 #[.val (.ref a1), .val (.int p1), .val (.int p2), .val (.int p3), .val (.int p4), .val (.int p5), .val (.int p6)] [])) _
              refine XS.iconst X0.here hx rfl (hb hby own_d_method_3_84) ?_
              exact kt
            obtain ⟨fs, hr, hrun, hended, hW, hsame⟩ := X0.leave (v := some (.int (1 : Int32))) (fun h => by rw [Bd.returns] at h; cases h)
            refine ⟨_, _, pre17 _ ?_, hrun, hended, _, _, rfl, ?_, ⟨_, rfl⟩, hW, hsame.mono (by decide) (by decide)⟩
            · show Steps p.tables e below (s₁.setTop (mkF m 85 #[.val (.ref a1), .val (.int p1), .val (.int p2), .val (.int p3), .val (.int p4), .val (.int p5), .val (.int p6)] [(.int (1 : Int32))])) _
              exact retN X0 hx (t := .boolean) Bd.returns (by simp) (hb hby own_d_method_3_85) hr
            · show own_Q_mt Z a1 p1 p2 p3 p4 p5 p6 n_ f h0 n0 (some (.int (1 : Int32))) s₁.heap _
              rw [e0]
              exact ⟨rfl, N0, rfl⟩
          · have pre18 : ∀ t, Steps p.tables e below (s₁.setTop (mkF m 85 #[.val (.ref a1), .val (.int p1), .val (.int p2), .val (.int p3), .val (.int p4), .val (.int p5), .val (.int p6)] [(.int (1 : Int32))])) t → Steps p.tables e below (s₁.setTop (entryFrame m #[(.ref a1), (.int p1), (.int p2), (.int p3), (.int p4), (.int p5), (.int p6)] 7)) t := by
              intro t kt
              refine pre14 t ?_
              show Steps p.tables e below (s₁.setTop (mkF m 71 #[.val (.ref a1), .val (.int p1), .val (.int p2), .val (.int p3), .val (.int p4), .val (.int p5), .val (.int p6)] [(.int (4 : Int32)), (.int p1)])) _
              refine XS.icmpYes X0.here hx rfl (pc0 := 71) (pc' := 84) rfl (hb hby own_d_method_3_71) rfl (flt hc15).2.2.2 (by decide) (by decide) ?_
              show Steps p.tables e below (s₁.setTop (mkF m 84 #[.val (.ref a1), .val (.int p1), .val (.int p2), .val (.int p3), .val (.int p4), .val (.int p5), .val (.int p6)] [])) _
              refine XS.iconst X0.here hx rfl (hb hby own_d_method_3_84) ?_
              exact kt
            obtain ⟨fs, hr, hrun, hended, hW, hsame⟩ := X0.leave (v := some (.int (1 : Int32))) (fun h => by rw [Bd.returns] at h; cases h)
            refine ⟨_, _, pre18 _ ?_, hrun, hended, _, _, rfl, ?_, ⟨_, rfl⟩, hW, hsame.mono (by decide) (by decide)⟩
            · show Steps p.tables e below (s₁.setTop (mkF m 85 #[.val (.ref a1), .val (.int p1), .val (.int p2), .val (.int p3), .val (.int p4), .val (.int p5), .val (.int p6)] [(.int (1 : Int32))])) _
              exact retN X0 hx (t := .boolean) Bd.returns (by simp) (hb hby own_d_method_3_85) hr
            · show own_Q_mt Z a1 p1 p2 p3 p4 p5 p6 n_ f h0 n0 (some (.int (1 : Int32))) s₁.heap _
              rw [e0]
              exact ⟨rfl, N0, rfl⟩
        · have pre19 : ∀ t, Steps p.tables e below (s₁.setTop (mkF m 85 #[.val (.ref a1), .val (.int p1), .val (.int p2), .val (.int p3), .val (.int p4), .val (.int p5), .val (.int p6)] [(.int (1 : Int32))])) t → Steps p.tables e below (s₁.setTop (entryFrame m #[(.ref a1), (.int p1), (.int p2), (.int p3), (.int p4), (.int p5), (.int p6)] 7)) t := by
            intro t kt
            refine pre11 t ?_
            show Steps p.tables e below (s₁.setTop (mkF m 56 #[.val (.ref a1), .val (.int p1), .val (.int p2), .val (.int p3), .val (.int p4), .val (.int p5), .val (.int p6)] [(.int (3 : Int32)), (.int p1)])) _
            refine XS.icmpYes X0.here hx rfl (pc0 := 56) (pc' := 69) rfl (hb hby own_d_method_3_56) rfl (flt hc12).2.2.2 (by decide) (by decide) ?_
            show Steps p.tables e below (s₁.setTop (mkF m 69 #[.val (.ref a1), .val (.int p1), .val (.int p2), .val (.int p3), .val (.int p4), .val (.int p5), .val (.int p6)] [])) _
            refine XS.iloadN X0.here hx rfl (hb hby own_d_method_3_69) rfl ?_
            show Steps p.tables e below (s₁.setTop (mkF m 70 #[.val (.ref a1), .val (.int p1), .val (.int p2), .val (.int p3), .val (.int p4), .val (.int p5), .val (.int p6)] [(.int p1)])) _
            refine XS.iconst X0.here hx rfl (hb hby own_d_method_3_70) ?_
            show Steps p.tables e below (s₁.setTop (mkF m 71 #[.val (.ref a1), .val (.int p1), .val (.int p2), .val (.int p3), .val (.int p4), .val (.int p5), .val (.int p6)] [(.int (4 : Int32)), (.int p1)])) _
            refine XS.icmpYes X0.here hx rfl (pc0 := 71) (pc' := 84) rfl (hb hby own_d_method_3_71) rfl (flt (own_no (3 : Int32) (4 : Int32) hc12 (by decide))).2.2.2 (by decide) (by decide) ?_
            show Steps p.tables e below (s₁.setTop (mkF m 84 #[.val (.ref a1), .val (.int p1), .val (.int p2), .val (.int p3), .val (.int p4), .val (.int p5), .val (.int p6)] [])) _
            refine XS.iconst X0.here hx rfl (hb hby own_d_method_3_84) ?_
            exact kt
          obtain ⟨fs, hr, hrun, hended, hW, hsame⟩ := X0.leave (v := some (.int (1 : Int32))) (fun h => by rw [Bd.returns] at h; cases h)
          refine ⟨_, _, pre19 _ ?_, hrun, hended, _, _, rfl, ?_, ⟨_, rfl⟩, hW, hsame.mono (by decide) (by decide)⟩
          · show Steps p.tables e below (s₁.setTop (mkF m 85 #[.val (.ref a1), .val (.int p1), .val (.int p2), .val (.int p3), .val (.int p4), .val (.int p5), .val (.int p6)] [(.int (1 : Int32))])) _
            exact retN X0 hx (t := .boolean) Bd.returns (by simp) (hb hby own_d_method_3_85) hr
          · show own_Q_mt Z a1 p1 p2 p3 p4 p5 p6 n_ f h0 n0 (some (.int (1 : Int32))) s₁.heap _
            rw [e0]
            exact ⟨rfl, N0, rfl⟩
      · have pre20 : ∀ t, Steps p.tables e below (s₁.setTop (mkF m 85 #[.val (.ref a1), .val (.int p1), .val (.int p2), .val (.int p3), .val (.int p4), .val (.int p5), .val (.int p6)] [(.int (1 : Int32))])) t → Steps p.tables e below (s₁.setTop (entryFrame m #[(.ref a1), (.int p1), (.int p2), (.int p3), (.int p4), (.int p5), (.int p6)] 7)) t := by
          intro t kt
          refine pre8 t ?_
          show Steps p.tables e below (s₁.setTop (mkF m 41 #[.val (.ref a1), .val (.int p1), .val (.int p2), .val (.int p3), .val (.int p4), .val (.int p5), .val (.int p6)] [(.int (2 : Int32)), (.int p1)])) _
          refine XS.icmpYes X0.here hx rfl (pc0 := 41) (pc' := 54) rfl (hb hby own_d_method_3_41) rfl (flt hc9).2.2.2 (by decide) (by decide) ?_
          show Steps p.tables e below (s₁.setTop (mkF m 54 #[.val (.ref a1), .val (.int p1), .val (.int p2), .val (.int p3), .val (.int p4), .val (.int p5), .val (.int p6)] [])) _
          refine XS.iloadN X0.here hx rfl (hb hby own_d_method_3_54) rfl ?_
          show Steps p.tables e below (s₁.setTop (mkF m 55 #[.val (.ref a1), .val (.int p1), .val (.int p2), .val (.int p3), .val (.int p4), .val (.int p5), .val (.int p6)] [(.int p1)])) _
          refine XS.iconst X0.here hx rfl (hb hby own_d_method_3_55) ?_
          show Steps p.tables e below (s₁.setTop (mkF m 56 #[.val (.ref a1), .val (.int p1), .val (.int p2), .val (.int p3), .val (.int p4), .val (.int p5), .val (.int p6)] [(.int (3 : Int32)), (.int p1)])) _
          refine XS.icmpYes X0.here hx rfl (pc0 := 56) (pc' := 69) rfl (hb hby own_d_method_3_56) rfl (flt (own_no (2 : Int32) (3 : Int32) hc9 (by decide))).2.2.2 (by decide) (by decide) ?_
          show Steps p.tables e below (s₁.setTop (mkF m 69 #[.val (.ref a1), .val (.int p1), .val (.int p2), .val (.int p3), .val (.int p4), .val (.int p5), .val (.int p6)] [])) _
          refine XS.iloadN X0.here hx rfl (hb hby own_d_method_3_69) rfl ?_
          show Steps p.tables e below (s₁.setTop (mkF m 70 #[.val (.ref a1), .val (.int p1), .val (.int p2), .val (.int p3), .val (.int p4), .val (.int p5), .val (.int p6)] [(.int p1)])) _
          refine XS.iconst X0.here hx rfl (hb hby own_d_method_3_70) ?_
          show Steps p.tables e below (s₁.setTop (mkF m 71 #[.val (.ref a1), .val (.int p1), .val (.int p2), .val (.int p3), .val (.int p4), .val (.int p5), .val (.int p6)] [(.int (4 : Int32)), (.int p1)])) _
          refine XS.icmpYes X0.here hx rfl (pc0 := 71) (pc' := 84) rfl (hb hby own_d_method_3_71) rfl (flt (own_no (3 : Int32) (4 : Int32) (own_no (2 : Int32) (3 : Int32) hc9 (by decide)) (by decide))).2.2.2 (by decide) (by decide) ?_
          show Steps p.tables e below (s₁.setTop (mkF m 84 #[.val (.ref a1), .val (.int p1), .val (.int p2), .val (.int p3), .val (.int p4), .val (.int p5), .val (.int p6)] [])) _
          refine XS.iconst X0.here hx rfl (hb hby own_d_method_3_84) ?_
          exact kt
        obtain ⟨fs, hr, hrun, hended, hW, hsame⟩ := X0.leave (v := some (.int (1 : Int32))) (fun h => by rw [Bd.returns] at h; cases h)
        refine ⟨_, _, pre20 _ ?_, hrun, hended, _, _, rfl, ?_, ⟨_, rfl⟩, hW, hsame.mono (by decide) (by decide)⟩
        · show Steps p.tables e below (s₁.setTop (mkF m 85 #[.val (.ref a1), .val (.int p1), .val (.int p2), .val (.int p3), .val (.int p4), .val (.int p5), .val (.int p6)] [(.int (1 : Int32))])) _
          exact retN X0 hx (t := .boolean) Bd.returns (by simp) (hb hby own_d_method_3_85) hr
        · show own_Q_mt Z a1 p1 p2 p3 p4 p5 p6 n_ f h0 n0 (some (.int (1 : Int32))) s₁.heap _
          rw [e0]
          exact ⟨rfl, N0, rfl⟩
    · have pre21 : ∀ t, Steps p.tables e below (s₁.setTop (mkF m 85 #[.val (.ref a1), .val (.int p1), .val (.int p2), .val (.int p3), .val (.int p4), .val (.int p5), .val (.int p6)] [(.int (1 : Int32))])) t → Steps p.tables e below (s₁.setTop (entryFrame m #[(.ref a1), (.int p1), (.int p2), (.int p3), (.int p4), (.int p5), (.int p6)] 7)) t := by
        intro t kt
        refine pre5 t ?_
        show Steps p.tables e below (s₁.setTop (mkF m 27 #[.val (.ref a1), .val (.int p1), .val (.int p2), .val (.int p3), .val (.int p4), .val (.int p5), .val (.int p6)] [(.int (1 : Int32)), (.int p1)])) _
        refine XS.icmpYes X0.here hx rfl (pc0 := 27) (pc' := 39) rfl (hb hby own_d_method_3_27) rfl (flt hc6).2.2.2 (by decide) (by decide) ?_
        show Steps p.tables e below (s₁.setTop (mkF m 39 #[.val (.ref a1), .val (.int p1), .val (.int p2), .val (.int p3), .val (.int p4), .val (.int p5), .val (.int p6)] [])) _
        refine XS.iloadN X0.here hx rfl (hb hby own_d_method_3_39) rfl ?_
        show Steps p.tables e below (s₁.setTop (mkF m 40 #[.val (.ref a1), .val (.int p1), .val (.int p2), .val (.int p3), .val (.int p4), .val (.int p5), .val (.int p6)] [(.int p1)])) _
        refine XS.iconst X0.here hx rfl (hb hby own_d_method_3_40) ?_
        show Steps p.tables e below (s₁.setTop (mkF m 41 #[.val (.ref a1), .val (.int p1), .val (.int p2), .val (.int p3), .val (.int p4), .val (.int p5), .val (.int p6)] [(.int (2 : Int32)), (.int p1)])) _
        refine XS.icmpYes X0.here hx rfl (pc0 := 41) (pc' := 54) rfl (hb hby own_d_method_3_41) rfl (flt (own_no (1 : Int32) (2 : Int32) hc6 (by decide))).2.2.2 (by decide) (by decide) ?_
        show Steps p.tables e below (s₁.setTop (mkF m 54 #[.val (.ref a1), .val (.int p1), .val (.int p2), .val (.int p3), .val (.int p4), .val (.int p5), .val (.int p6)] [])) _
        refine XS.iloadN X0.here hx rfl (hb hby own_d_method_3_54) rfl ?_
        show Steps p.tables e below (s₁.setTop (mkF m 55 #[.val (.ref a1), .val (.int p1), .val (.int p2), .val (.int p3), .val (.int p4), .val (.int p5), .val (.int p6)] [(.int p1)])) _
        refine XS.iconst X0.here hx rfl (hb hby own_d_method_3_55) ?_
        show Steps p.tables e below (s₁.setTop (mkF m 56 #[.val (.ref a1), .val (.int p1), .val (.int p2), .val (.int p3), .val (.int p4), .val (.int p5), .val (.int p6)] [(.int (3 : Int32)), (.int p1)])) _
        refine XS.icmpYes X0.here hx rfl (pc0 := 56) (pc' := 69) rfl (hb hby own_d_method_3_56) rfl (flt (own_no (2 : Int32) (3 : Int32) (own_no (1 : Int32) (2 : Int32) hc6 (by decide)) (by decide))).2.2.2 (by decide) (by decide) ?_
        show Steps p.tables e below (s₁.setTop (mkF m 69 #[.val (.ref a1), .val (.int p1), .val (.int p2), .val (.int p3), .val (.int p4), .val (.int p5), .val (.int p6)] [])) _
        refine XS.iloadN X0.here hx rfl (hb hby own_d_method_3_69) rfl ?_
        show Steps p.tables e below (s₁.setTop (mkF m 70 #[.val (.ref a1), .val (.int p1), .val (.int p2), .val (.int p3), .val (.int p4), .val (.int p5), .val (.int p6)] [(.int p1)])) _
        refine XS.iconst X0.here hx rfl (hb hby own_d_method_3_70) ?_
        show Steps p.tables e below (s₁.setTop (mkF m 71 #[.val (.ref a1), .val (.int p1), .val (.int p2), .val (.int p3), .val (.int p4), .val (.int p5), .val (.int p6)] [(.int (4 : Int32)), (.int p1)])) _
        refine XS.icmpYes X0.here hx rfl (pc0 := 71) (pc' := 84) rfl (hb hby own_d_method_3_71) rfl (flt (own_no (3 : Int32) (4 : Int32) (own_no (2 : Int32) (3 : Int32) (own_no (1 : Int32) (2 : Int32) hc6 (by decide)) (by decide)) (by decide))).2.2.2 (by decide) (by decide) ?_
        show Steps p.tables e below (s₁.setTop (mkF m 84 #[.val (.ref a1), .val (.int p1), .val (.int p2), .val (.int p3), .val (.int p4), .val (.int p5), .val (.int p6)] [])) _
        refine XS.iconst X0.here hx rfl (hb hby own_d_method_3_84) ?_
        exact kt
      obtain ⟨fs, hr, hrun, hended, hW, hsame⟩ := X0.leave (v := some (.int (1 : Int32))) (fun h => by rw [Bd.returns] at h; cases h)
      refine ⟨_, _, pre21 _ ?_, hrun, hended, _, _, rfl, ?_, ⟨_, rfl⟩, hW, hsame.mono (by decide) (by decide)⟩
      · show Steps p.tables e below (s₁.setTop (mkF m 85 #[.val (.ref a1), .val (.int p1), .val (.int p2), .val (.int p3), .val (.int p4), .val (.int p5), .val (.int p6)] [(.int (1 : Int32))])) _
        exact retN X0 hx (t := .boolean) Bd.returns (by simp) (hb hby own_d_method_3_85) hr
      · show own_Q_mt Z a1 p1 p2 p3 p4 p5 p6 n_ f h0 n0 (some (.int (1 : Int32))) s₁.heap _
        rw [e0]
        exact ⟨rfl, N0, rfl⟩
  · have pre22 : ∀ t, Steps p.tables e below (s₁.setTop (mkF m 85 #[.val (.ref a1), .val (.int p1), .val (.int p2), .val (.int p3), .val (.int p4), .val (.int p5), .val (.int p6)] [(.int (1 : Int32))])) t → Steps p.tables e below (s₁.setTop (entryFrame m #[(.ref a1), (.int p1), (.int p2), (.int p3), (.int p4), (.int p5), (.int p6)] 7)) t := by
      intro t kt
      refine pre2 t ?_
      show Steps p.tables e below (s₁.setTop (mkF m 13 #[.val (.ref a1), .val (.int p1), .val (.int p2), .val (.int p3), .val (.int p4), .val (.int p5), .val (.int p6)] [(.int p1)])) _
      refine XS.ifYes X0.here hx rfl (pc0 := 13) (pc' := 25) rfl (hb hby own_d_method_3_13) rfl ((if0 _ _).trans (flt hc3).2.2.2) (by decide) (by decide) ?_
      show Steps p.tables e below (s₁.setTop (mkF m 25 #[.val (.ref a1), .val (.int p1), .val (.int p2), .val (.int p3), .val (.int p4), .val (.int p5), .val (.int p6)] [])) _
      refine XS.iloadN X0.here hx rfl (hb hby own_d_method_3_25) rfl ?_
      show Steps p.tables e below (s₁.setTop (mkF m 26 #[.val (.ref a1), .val (.int p1), .val (.int p2), .val (.int p3), .val (.int p4), .val (.int p5), .val (.int p6)] [(.int p1)])) _
      refine XS.iconst X0.here hx rfl (hb hby own_d_method_3_26) ?_
      show Steps p.tables e below (s₁.setTop (mkF m 27 #[.val (.ref a1), .val (.int p1), .val (.int p2), .val (.int p3), .val (.int p4), .val (.int p5), .val (.int p6)] [(.int (1 : Int32)), (.int p1)])) _
      refine XS.icmpYes X0.here hx rfl (pc0 := 27) (pc' := 39) rfl (hb hby own_d_method_3_27) rfl (flt (own_no (0 : Int32) (1 : Int32) hc3 (by decide))).2.2.2 (by decide) (by decide) ?_
      show Steps p.tables e below (s₁.setTop (mkF m 39 #[.val (.ref a1), .val (.int p1), .val (.int p2), .val (.int p3), .val (.int p4), .val (.int p5), .val (.int p6)] [])) _
      refine XS.iloadN X0.here hx rfl (hb hby own_d_method_3_39) rfl ?_
      show Steps p.tables e below (s₁.setTop (mkF m 40 #[.val (.ref a1), .val (.int p1), .val (.int p2), .val (.int p3), .val (.int p4), .val (.int p5), .val (.int p6)] [(.int p1)])) _
      refine XS.iconst X0.here hx rfl (hb hby own_d_method_3_40) ?_
      show Steps p.tables e below (s₁.setTop (mkF m 41 #[.val (.ref a1), .val (.int p1), .val (.int p2), .val (.int p3), .val (.int p4), .val (.int p5), .val (.int p6)] [(.int (2 : Int32)), (.int p1)])) _
      refine XS.icmpYes X0.here hx rfl (pc0 := 41) (pc' := 54) rfl (hb hby own_d_method_3_41) rfl (flt (own_no (1 : Int32) (2 : Int32) (own_no (0 : Int32) (1 : Int32) hc3 (by decide)) (by decide))).2.2.2 (by decide) (by decide) ?_
      show Steps p.tables e below (s₁.setTop (mkF m 54 #[.val (.ref a1), .val (.int p1), .val (.int p2), .val (.int p3), .val (.int p4), .val (.int p5), .val (.int p6)] [])) _
      refine XS.iloadN X0.here hx rfl (hb hby own_d_method_3_54) rfl ?_
      show Steps p.tables e below (s₁.setTop (mkF m 55 #[.val (.ref a1), .val (.int p1), .val (.int p2), .val (.int p3), .val (.int p4), .val (.int p5), .val (.int p6)] [(.int p1)])) _
      refine XS.iconst X0.here hx rfl (hb hby own_d_method_3_55) ?_
      show Steps p.tables e below (s₁.setTop (mkF m 56 #[.val (.ref a1), .val (.int p1), .val (.int p2), .val (.int p3), .val (.int p4), .val (.int p5), .val (.int p6)] [(.int (3 : Int32)), (.int p1)])) _
      refine XS.icmpYes X0.here hx rfl (pc0 := 56) (pc' := 69) rfl (hb hby own_d_method_3_56) rfl (flt (own_no (2 : Int32) (3 : Int32) (own_no (1 : Int32) (2 : Int32) (own_no (0 : Int32) (1 : Int32) hc3 (by decide)) (by decide)) (by decide))).2.2.2 (by decide) (by decide) ?_
      show Steps p.tables e below (s₁.setTop (mkF m 69 #[.val (.ref a1), .val (.int p1), .val (.int p2), .val (.int p3), .val (.int p4), .val (.int p5), .val (.int p6)] [])) _
      refine XS.iloadN X0.here hx rfl (hb hby own_d_method_3_69) rfl ?_
      show Steps p.tables e below (s₁.setTop (mkF m 70 #[.val (.ref a1), .val (.int p1), .val (.int p2), .val (.int p3), .val (.int p4), .val (.int p5), .val (.int p6)] [(.int p1)])) _
      refine XS.iconst X0.here hx rfl (hb hby own_d_method_3_70) ?_
      show Steps p.tables e below (s₁.setTop (mkF m 71 #[.val (.ref a1), .val (.int p1), .val (.int p2), .val (.int p3), .val (.int p4), .val (.int p5), .val (.int p6)] [(.int (4 : Int32)), (.int p1)])) _
      refine XS.icmpYes X0.here hx rfl (pc0 := 71) (pc' := 84) rfl (hb hby own_d_method_3_71) rfl (flt (own_no (3 : Int32) (4 : Int32) (own_no (2 : Int32) (3 : Int32) (own_no (1 : Int32) (2 : Int32) (own_no (0 : Int32) (1 : Int32) hc3 (by decide)) (by decide)) (by decide)) (by decide))).2.2.2 (by decide) (by decide) ?_
      show Steps p.tables e below (s₁.setTop (mkF m 84 #[.val (.ref a1), .val (.int p1), .val (.int p2), .val (.int p3), .val (.int p4), .val (.int p5), .val (.int p6)] [])) _
      refine XS.iconst X0.here hx rfl (hb hby own_d_method_3_84) ?_
      exact kt
    obtain ⟨fs, hr, hrun, hended, hW, hsame⟩ := X0.leave (v := some (.int (1 : Int32))) (fun h => by rw [Bd.returns] at h; cases h)
    refine ⟨_, _, pre22 _ ?_, hrun, hended, _, _, rfl, ?_, ⟨_, rfl⟩, hW, hsame.mono (by decide) (by decide)⟩
    · show Steps p.tables e below (s₁.setTop (mkF m 85 #[.val (.ref a1), .val (.int p1), .val (.int p2), .val (.int p3), .val (.int p4), .val (.int p5), .val (.int p6)] [(.int (1 : Int32))])) _
      exact retN X0 hx (t := .boolean) Bd.returns (by simp) (hb hby own_d_method_3_85) hr
    · show own_Q_mt Z a1 p1 p2 p3 p4 p5 p6 n_ f h0 n0 (some (.int (1 : Int32))) s₁.heap _
      rw [e0]
      exact ⟨rfl, N0, rfl⟩
theorem own_pd2 : parseMethodDescriptor "()V" = some ⟨[], none⟩ := by decide +kernel
theorem own_pd3 : parseMethodDescriptor "(I)V" = some ⟨[.int], none⟩ := by decide +kernel
theorem own_pd4 : parseMethodDescriptor "()[I" = some ⟨[], some (.array .int)⟩ := by decide +kernel
theorem own_pd5 : parseMethodDescriptor "([IIIIIII)Z" = some ⟨[(.array .int), .int, .int, .int, .int, .int, .int], some .boolean⟩ := by decide +kernel
theorem own_ef_law (m : MethodId) (p0 : Int32) (p1 : Int32) (p2 : Int32) (p3 : Int32) (p4 : Int32) (p5 : Int32) : entryFrame m #[(.int p0), (.int p1), (.int p2), (.int p3), (.int p4), (.int p5)] maxLocals = mkF m 0 #[.val (.int p0), .val (.int p1), .val (.int p2), .val (.int p3), .val (.int p4), .val (.int p5), .unset, .unset, .unset, .unset] [] := by first | (simp [entryFrame, mkF, argsToLocals, Value.category, maxLocals]; done) | rfl
def own_Q_law (Z : State) (p0 : Int32) (p1 : Int32) (p2 : Int32) (p3 : Int32) (p4 : Int32) (p5 : Int32) (h0 : Heap) (n0 : Nat) (v : Option Value) (h : Heap) (L : List Loc) : Prop := v = some (.int 1) ∧ Fr n0 L
set_option maxRecDepth 65536 in
set_option maxHeartbeats 40000000 in
theorem own_rm_law (l : Launch) (Z : State) (a0 : Array Value) (hw : ∀ d ∈ tables_1, d.before a0 Z = true) (ws : List Jvm.Cond) (p0 : Int32) (p1 : Int32) (p2 : Int32) (p3 : Int32) (p4 : Int32) (p5 : Int32) (h0 : Heap) (n0 : Nat) (Z0 : n0 ≤ h0.size) :
    MetFree l x (head1 (Jvm.Cond.code x code maxLocals ret :: ws) room_1) (fun a U => a = #[(.int p0), (.int p1), (.int p2), (.int p3), (.int p4), (.int p5)] ∧ Z.Warmed39 U.vm ∧ U.heap = h0) (fun _ _ _ _ _ => True) (fun _ U o U' => ∃ v L, o = .returned v ∧ own_Q_law Z p0 p1 p2 p3 p4 p5 h0 n0 v U'.heap L ∧ FrameEnd U o U' L room_1.cells room_1.slots) := by
  refine MetFree.of_bodySF (plainFor_of_name own_pn2) hisR ?_
  intro p e s m args below meth c s₁ Bd hml0 hP hK
  obtain ⟨rfl, hZ, hh⟩ := hP
  have hx := Bd.exec
  have hby := Bd.bytes
  have hml : c.maxLocals = 10 := hml0
  have hown : s.vm.findClass "com/example/interleaving/interleaving/store/StateGraphInitialStatesPinLaw" = some m.cls := findClass_of_methodNamed Bd.named
  have hnm := (name_of_methodNamed Bd.named Bd.method).1
  have X0 : Stand p l e room_1 s m #[(.int p0), (.int p1), (.int p2), (.int p3), (.int p4), (.int p5)] below meth c s₁ [] 0 0 := Stand.of_body Bd
  have e0 : s₁.heap = h0 := by rw [← hh, Bd.state]; rfl
  have N0 := Fr.nil n0
  have K0 : Keep h0 h0 [] := Keep.refl _ _
  have pre0 : ∀ t, Steps p.tables e below (s₁.setTop (mkF m 0 #[.val (.int p0), .val (.int p1), .val (.int p2), .val (.int p3), .val (.int p4), .val (.int p5), .unset, .unset, .unset, .unset] [])) t → Steps p.tables e below (s₁.setTop (entryFrame m #[(.int p0), (.int p1), (.int p2), (.int p3), (.int p4), (.int p5)] maxLocals)) t := fun t k => castTop (own_ef_law m p0 p1 p2 p3 p4 p5) k
  obtain ⟨T1, h1, X1, e1, E1, A1, D1, -, st1⟩ := newO X0 hx hZ hown (hw _ (List.mem_of_getElem? (i := 1) rfl)) (hw _ (List.mem_of_getElem? (i := 2) rfl)) (hw _ (List.mem_of_getElem? (i := 3) rfl)) e0 (g := (mkF m 9 #[.val (.int p0), .val (.int p1), .val (.int p2), .val (.int p3), .val (.int p4), .val (.int p5), .val (.int ((p0 &&& (2147483647 : Int32)) % (6 : Int32))), .unset, .unset, .unset] [])) rfl (hb hby at_9) (by decide) (by decide)
  obtain ⟨b1, g1⟩ : ∃ z, z = h0.size := ⟨_, rfl⟩
  rw [← g1] at A1 D1 st1
  have sz_b1 : h0.size ≤ b1 := Nat.le_trans K0.1 (Nat.le_of_eq g1.symm)
  have gn_b1 : n0 ≤ b1 := Nat.le_trans Z0 sz_b1
  have k2 := K0.ext E1
  have f3 : Fld Z h1 b1 "com/example/interleaving/interleaving/store/StateGraph" "initial" "[I" .null := D1 (Or.inl (hw _ (List.mem_of_getElem? (i := 12) rfl))) (ty := (.array .int)) (by decide)
  have f4 : Fld Z h1 b1 "com/example/interleaving/interleaving/store/StateGraph" "targets" "[I" .null := D1 (Or.inl (hw _ (List.mem_of_getElem? (i := 14) rfl))) (ty := (.array .int)) (by decide)
  have f5 : Fld Z h1 b1 "com/example/interleaving/interleaving/store/StateGraph" "firsts" "[I" .null := D1 (Or.inl (hw _ (List.mem_of_getElem? (i := 16) rfl))) (ty := (.array .int)) (by decide)
  have f6 : Fld Z h1 b1 "com/example/interleaving/interleaving/store/StateGraph" "open" "I" (.int (0 : Int32)) := D1 (Or.inl (hw _ (List.mem_of_getElem? (i := 18) rfl))) (ty := .int) (by decide)
  have f7 : Fld Z h1 b1 "com/example/interleaving/interleaving/store/StateGraph" "initialCount" "I" (.int (0 : Int32)) := D1 (Or.inl (hw _ (List.mem_of_getElem? (i := 25) rfl))) (ty := .int) (by decide)
  have zs8 : n0 ≤ h1.size := Nat.le_trans Z0 k2.1
  obtain ⟨_, _, ⟨T9, L9, k9, n9⟩, -, X9, ⟨Lc9, hQ9, l9, y9, z9⟩, st9⟩ := X1.specialBack hx (y := (⟨"com/example/interleaving/interleaving/store/StateGraph", "<init>", "()V"⟩ : MethodName)) rfl hown (mvT hZ (hw _ (List.mem_of_getElem? (i := 4) rfl))) (mvT hZ (hw _ (List.mem_of_getElem? (i := 5) rfl))) (mvT hZ (hw _ (List.mem_of_getElem? (i := 6) rfl))) (by decide) (backOf (W := 1) (own_rm_ctor l Z a0 hw [] b1 h1 n0 zs8 A1 f3 f4 f5 f6 f7 gn_b1) hZ (hw _ (List.mem_of_getElem? (i := 6) rfl)) (hw _ (List.mem_of_getElem? (i := 3) rfl)) (by decide) (by decide)) (g := (mkF m 13 #[.val (.int p0), .val (.int p1), .val (.int p2), .val (.int p3), .val (.int p4), .val (.int p5), .val (.int ((p0 &&& (2147483647 : Int32)) % (6 : Int32))), .unset, .unset, .unset] [(.ref b1), (.ref b1)])) rfl (by rw [hml]; rfl) (Steps.refl _) (a := b1) (argsL := []) (rest := [(.ref b1)]) (lenOf own_pd2 rfl) rfl (by show 2 * 0 + _ ≤ _; exact Nat.le_of_eq rfl) (hb hby at_13) (fun _ _ => ⟨rfl, e1, (by decide : 1 + 3 ≤ _), (by decide : 7 + 2065 ≤ _)⟩)
  dsimp only [Pt.U, Pt.locs, Pt.cells, Pt.slots] at X9 l9 y9 z9 st9 hQ9
  subst l9 y9 z9
  obtain ⟨bx10, rfl, N10, K10, c10_0, c10_1, c10_2, c10_3, c10_4⟩ := hQ9
  have sz_bx10 : h0.size ≤ bx10 := Nat.le_trans k2.1 c10_0
  have gn_bx10 : n0 ≤ bx10 := Nat.le_trans Z0 sz_bx10
  have ne_b1_bx10 : b1 ≠ bx10 := Nat.ne_of_lt (Nat.lt_of_lt_of_le f7.lt c10_0)
  have f11 := A1.keep K10
  have k12 := k2.trans K10 (allS (Or.inr sz_b1) all0)
  have nf13 := Fr.app N0 N10
  have pre14 : ∀ t, Steps p.tables e below (T9.setTop (mkF m 20 #[.val (.int p0), .val (.int p1), .val (.int p2), .val (.int p3), .val (.int p4), .val (.int p5), .val (.int ((p0 &&& (2147483647 : Int32)) % (6 : Int32))), .val (.ref b1), .unset, .unset] [(.int ((p0 &&& (2147483647 : Int32)) % (6 : Int32)))])) t → Steps p.tables e below (s₁.setTop (entryFrame m #[(.int p0), (.int p1), (.int p2), (.int p3), (.int p4), (.int p5)] maxLocals)) t := by
    intro t kt
    refine pre0 t ?_
    show Steps p.tables e below (s₁.setTop (mkF m 0 #[.val (.int p0), .val (.int p1), .val (.int p2), .val (.int p3), .val (.int p4), .val (.int p5), .unset, .unset, .unset, .unset] [])) _
    refine XS.iloadN X0.here hx rfl (hb hby at_0) rfl ?_
    show Steps p.tables e below (s₁.setTop (mkF m 1 #[.val (.int p0), .val (.int p1), .val (.int p2), .val (.int p3), .val (.int p4), .val (.int p5), .unset, .unset, .unset, .unset] [(.int p0)])) _
    refine X0.ldcI hx hown (mvT hZ (hw _ (List.mem_of_getElem? (i := 0) rfl))) (g := (mkF m 1 #[.val (.int p0), .val (.int p1), .val (.int p2), .val (.int p3), .val (.int p4), .val (.int p5), .unset, .unset, .unset, .unset] [(.int p0)])) rfl (hb hby at_1) ?_
    show Steps p.tables e below (s₁.setTop (mkF m 3 #[.val (.int p0), .val (.int p1), .val (.int p2), .val (.int p3), .val (.int p4), .val (.int p5), .unset, .unset, .unset, .unset] [(.int (2147483647 : Int32)), (.int p0)])) _
    refine XS.iand X0.here hx rfl (hb hby at_3) rfl ?_
    show Steps p.tables e below (s₁.setTop (mkF m 4 #[.val (.int p0), .val (.int p1), .val (.int p2), .val (.int p3), .val (.int p4), .val (.int p5), .unset, .unset, .unset, .unset] [(.int (p0 &&& (2147483647 : Int32)))])) _
    refine XS.bipush X0.here hx rfl (hb hby at_4) ?_
    show Steps p.tables e below (s₁.setTop (mkF m 6 #[.val (.int p0), .val (.int p1), .val (.int p2), .val (.int p3), .val (.int p4), .val (.int p5), .unset, .unset, .unset, .unset] [(.int (6 : Int32)), (.int (p0 &&& (2147483647 : Int32)))])) _
    refine iremM X0 hx rfl (hb hby at_6) rfl (by decide) ?_
    show Steps p.tables e below (s₁.setTop (mkF m 7 #[.val (.int p0), .val (.int p1), .val (.int p2), .val (.int p3), .val (.int p4), .val (.int p5), .unset, .unset, .unset, .unset] [(.int ((p0 &&& (2147483647 : Int32)) % (6 : Int32)))])) _
    refine XS.istore X0.here hx rfl (hb hby at_7) rfl (l' := #[.val (.int p0), .val (.int p1), .val (.int p2), .val (.int p3), .val (.int p4), .val (.int p5), .val (.int ((p0 &&& (2147483647 : Int32)) % (6 : Int32))), .unset, .unset, .unset]) rfl ?_
    show Steps p.tables e below (s₁.setTop (mkF m 9 #[.val (.int p0), .val (.int p1), .val (.int p2), .val (.int p3), .val (.int p4), .val (.int p5), .val (.int ((p0 &&& (2147483647 : Int32)) % (6 : Int32))), .unset, .unset, .unset] [])) _
    refine st1 _ ?_
    show Steps p.tables e below (T1.setTop (mkF m 12 #[.val (.int p0), .val (.int p1), .val (.int p2), .val (.int p3), .val (.int p4), .val (.int p5), .val (.int ((p0 &&& (2147483647 : Int32)) % (6 : Int32))), .unset, .unset, .unset] [(.ref b1)])) _
    refine XS.dup X1.here hx rfl (hb hby at_12) rfl rfl ?_
    show Steps p.tables e below (T1.setTop (mkF m 13 #[.val (.int p0), .val (.int p1), .val (.int p2), .val (.int p3), .val (.int p4), .val (.int p5), .val (.int ((p0 &&& (2147483647 : Int32)) % (6 : Int32))), .unset, .unset, .unset] [(.ref b1), (.ref b1)])) _
    refine st9.trans ?_
    show Steps p.tables e below (T9.setTop (mkF m 16 #[.val (.int p0), .val (.int p1), .val (.int p2), .val (.int p3), .val (.int p4), .val (.int p5), .val (.int ((p0 &&& (2147483647 : Int32)) % (6 : Int32))), .unset, .unset, .unset] [(.ref b1)])) _
    refine XS.astore X9.here hx rfl (hb hby at_16) rfl rfl (l' := #[.val (.int p0), .val (.int p1), .val (.int p2), .val (.int p3), .val (.int p4), .val (.int p5), .val (.int ((p0 &&& (2147483647 : Int32)) % (6 : Int32))), .val (.ref b1), .unset, .unset]) rfl ?_
    show Steps p.tables e below (T9.setTop (mkF m 18 #[.val (.int p0), .val (.int p1), .val (.int p2), .val (.int p3), .val (.int p4), .val (.int p5), .val (.int ((p0 &&& (2147483647 : Int32)) % (6 : Int32))), .val (.ref b1), .unset, .unset] [])) _
    refine XS.iload X9.here hx rfl (hb hby at_18) rfl ?_
    exact kt
  by_cases hc15 : (0 : Int32) < ((p0 &&& (2147483647 : Int32)) % (6 : Int32))
  · have zs16 : n0 ≤ T9.heap.size := Nat.le_trans Z0 k12.1
    obtain ⟨cq18, kq18, q18a, q18b, q18c⟩ := isOf hZ rfl f11
    obtain ⟨_, _, ⟨T17, L17, k17, n17⟩, -, X17, ⟨Lc17, hQ17, l17, y17, z17⟩, st17⟩ := X9.virtualBack hx (y := (⟨"com/example/interleaving/interleaving/store/StateGraph", "addInitial", "(I)V"⟩ : MethodName)) (z := (⟨"com/example/interleaving/interleaving/store/StateGraph", "addInitial", "(I)V"⟩ : MethodName)) hown (mvT hZ (hw _ (List.mem_of_getElem? (i := 42) rfl))) (mvT hZ (hw _ (List.mem_of_getElem? (i := 43) rfl))) (notFace_of_selects (args := #[]) (mvT hZ (hw _ (List.mem_of_getElem? (i := 45) rfl)))) (mvT hZ (hw _ (List.mem_of_getElem? (i := 45) rfl))) (mvT hZ (hw _ (List.mem_of_getElem? (i := 44) rfl))) (by decide) (backOf (W := 0) (own_rm_add l Z a0 hw [] b1 p1 bx10 0 16 (fun _ => 0) T9.heap n0 zs16 f11 c10_1 c10_2 c10_3 gn_b1 gn_bx10 ne_b1_bx10 (by decide) (by decide)) hZ (hw _ (List.mem_of_getElem? (i := 46) rfl)) (hw _ (List.mem_of_getElem? (i := 3) rfl)) (by decide) (by decide)) q18a q18c (g := (mkF m 26 #[.val (.int p0), .val (.int p1), .val (.int p2), .val (.int p3), .val (.int p4), .val (.int p5), .val (.int ((p0 &&& (2147483647 : Int32)) % (6 : Int32))), .val (.ref b1), .unset, .unset] [(.int p1), (.ref b1)])) rfl (by rw [hml]; rfl) (Steps.refl _) (argsL := [(.int p1)]) (rest := []) (lenOf own_pd3 rfl) rfl (by show 2 * 0 + _ ≤ _; exact Nat.le_of_eq rfl) (hb hby at_26) (fun _ _ => ⟨rfl, rfl, (by decide : 4 + 0 ≤ _), (by decide : 2072 + 0 ≤ _)⟩)
    dsimp only [Pt.U, Pt.locs, Pt.cells, Pt.slots] at X17 l17 y17 z17 st17 hQ17
    subst l17 y17 z17
    obtain ⟨rfl, N19, K19, c19_0, c19_1, c19_2⟩ := hQ17
    have f20 := f11.keep K19
    have f21 := c10_4.keep K19
    have k22 := k12.trans K19 (allS (Or.inr sz_b1) (allS (Or.inr sz_bx10) all0))
    have nf23 := Fr.app nf13 N19
    have pre24 : ∀ t, Steps p.tables e below (T17.setTop (mkF m 32 #[.val (.int p0), .val (.int p1), .val (.int p2), .val (.int p3), .val (.int p4), .val (.int p5), .val (.int ((p0 &&& (2147483647 : Int32)) % (6 : Int32))), .val (.ref b1), .unset, .unset] [(.int (1 : Int32)), (.int ((p0 &&& (2147483647 : Int32)) % (6 : Int32)))])) t → Steps p.tables e below (s₁.setTop (entryFrame m #[(.int p0), (.int p1), (.int p2), (.int p3), (.int p4), (.int p5)] maxLocals)) t := by
      intro t kt
      refine pre14 t ?_
      show Steps p.tables e below (T9.setTop (mkF m 20 #[.val (.int p0), .val (.int p1), .val (.int p2), .val (.int p3), .val (.int p4), .val (.int p5), .val (.int ((p0 &&& (2147483647 : Int32)) % (6 : Int32))), .val (.ref b1), .unset, .unset] [(.int ((p0 &&& (2147483647 : Int32)) % (6 : Int32)))])) _
      refine XS.ifNo X9.here hx rfl (hb hby at_20) rfl ((if0 _ _).trans (tlt hc15).2.2.2) ?_
      show Steps p.tables e below (T9.setTop (mkF m 23 #[.val (.int p0), .val (.int p1), .val (.int p2), .val (.int p3), .val (.int p4), .val (.int p5), .val (.int ((p0 &&& (2147483647 : Int32)) % (6 : Int32))), .val (.ref b1), .unset, .unset] [])) _
      refine XS.aload X9.here hx rfl (hb hby at_23) rfl rfl ?_
      show Steps p.tables e below (T9.setTop (mkF m 25 #[.val (.int p0), .val (.int p1), .val (.int p2), .val (.int p3), .val (.int p4), .val (.int p5), .val (.int ((p0 &&& (2147483647 : Int32)) % (6 : Int32))), .val (.ref b1), .unset, .unset] [(.ref b1)])) _
      refine XS.iloadN X9.here hx rfl (hb hby at_25) rfl ?_
      show Steps p.tables e below (T9.setTop (mkF m 26 #[.val (.int p0), .val (.int p1), .val (.int p2), .val (.int p3), .val (.int p4), .val (.int p5), .val (.int ((p0 &&& (2147483647 : Int32)) % (6 : Int32))), .val (.ref b1), .unset, .unset] [(.int p1), (.ref b1)])) _
      refine st17.trans ?_
      show Steps p.tables e below (T17.setTop (mkF m 29 #[.val (.int p0), .val (.int p1), .val (.int p2), .val (.int p3), .val (.int p4), .val (.int p5), .val (.int ((p0 &&& (2147483647 : Int32)) % (6 : Int32))), .val (.ref b1), .unset, .unset] [])) _
      refine XS.iload X17.here hx rfl (hb hby at_29) rfl ?_
      show Steps p.tables e below (T17.setTop (mkF m 31 #[.val (.int p0), .val (.int p1), .val (.int p2), .val (.int p3), .val (.int p4), .val (.int p5), .val (.int ((p0 &&& (2147483647 : Int32)) % (6 : Int32))), .val (.ref b1), .unset, .unset] [(.int ((p0 &&& (2147483647 : Int32)) % (6 : Int32)))])) _
      refine XS.iconst X17.here hx rfl (hb hby at_31) ?_
      exact kt
    by_cases hc25 : (1 : Int32) < ((p0 &&& (2147483647 : Int32)) % (6 : Int32))
    · have zs26 : n0 ≤ T17.heap.size := Nat.le_trans Z0 k22.1
      obtain ⟨cq28, kq28, q28a, q28b, q28c⟩ := isOf hZ rfl f20
      obtain ⟨_, _, ⟨T27, L27, k27, n27⟩, -, X27, ⟨Lc27, hQ27, l27, y27, z27⟩, st27⟩ := X17.virtualBack hx (y := (⟨"com/example/interleaving/interleaving/store/StateGraph", "addInitial", "(I)V"⟩ : MethodName)) (z := (⟨"com/example/interleaving/interleaving/store/StateGraph", "addInitial", "(I)V"⟩ : MethodName)) hown (mvT hZ (hw _ (List.mem_of_getElem? (i := 42) rfl))) (mvT hZ (hw _ (List.mem_of_getElem? (i := 43) rfl))) (notFace_of_selects (args := #[]) (mvT hZ (hw _ (List.mem_of_getElem? (i := 45) rfl)))) (mvT hZ (hw _ (List.mem_of_getElem? (i := 45) rfl))) (mvT hZ (hw _ (List.mem_of_getElem? (i := 44) rfl))) (by decide) (backOf (W := 0) (own_rm_add l Z a0 hw [] b1 p2 bx10 1 16 (own_upd (fun _ => 0) 0 p1) T17.heap n0 zs26 f20 c19_0 c19_1 c19_2 gn_b1 gn_bx10 ne_b1_bx10 (by decide) (by decide)) hZ (hw _ (List.mem_of_getElem? (i := 46) rfl)) (hw _ (List.mem_of_getElem? (i := 3) rfl)) (by decide) (by decide)) q28a q28c (g := (mkF m 38 #[.val (.int p0), .val (.int p1), .val (.int p2), .val (.int p3), .val (.int p4), .val (.int p5), .val (.int ((p0 &&& (2147483647 : Int32)) % (6 : Int32))), .val (.ref b1), .unset, .unset] [(.int p2), (.ref b1)])) rfl (by rw [hml]; rfl) (Steps.refl _) (argsL := [(.int p2)]) (rest := []) (lenOf own_pd3 rfl) rfl (by show 2 * 0 + _ ≤ _; exact Nat.le_of_eq rfl) (hb hby at_38) (fun _ _ => ⟨rfl, rfl, (by decide : 4 + 0 ≤ _), (by decide : 2072 + 0 ≤ _)⟩)
      dsimp only [Pt.U, Pt.locs, Pt.cells, Pt.slots] at X27 l27 y27 z27 st27 hQ27
      subst l27 y27 z27
      obtain ⟨rfl, N29, K29, c29_0, c29_1, c29_2⟩ := hQ27
      have f30 := f20.keep K29
      have f31 := f21.keep K29
      have k32 := k22.trans K29 (allS (Or.inr sz_b1) (allS (Or.inr sz_bx10) all0))
      have nf33 := Fr.app nf23 N29
      have pre34 : ∀ t, Steps p.tables e below (T27.setTop (mkF m 44 #[.val (.int p0), .val (.int p1), .val (.int p2), .val (.int p3), .val (.int p4), .val (.int p5), .val (.int ((p0 &&& (2147483647 : Int32)) % (6 : Int32))), .val (.ref b1), .unset, .unset] [(.int (2 : Int32)), (.int ((p0 &&& (2147483647 : Int32)) % (6 : Int32)))])) t → Steps p.tables e below (s₁.setTop (entryFrame m #[(.int p0), (.int p1), (.int p2), (.int p3), (.int p4), (.int p5)] maxLocals)) t := by
        intro t kt
        refine pre24 t ?_
        show Steps p.tables e below (T17.setTop (mkF m 32 #[.val (.int p0), .val (.int p1), .val (.int p2), .val (.int p3), .val (.int p4), .val (.int p5), .val (.int ((p0 &&& (2147483647 : Int32)) % (6 : Int32))), .val (.ref b1), .unset, .unset] [(.int (1 : Int32)), (.int ((p0 &&& (2147483647 : Int32)) % (6 : Int32)))])) _
        refine XS.icmpNo X17.here hx rfl (hb hby at_32) rfl (tlt hc25).2.2.2 ?_
        show Steps p.tables e below (T17.setTop (mkF m 35 #[.val (.int p0), .val (.int p1), .val (.int p2), .val (.int p3), .val (.int p4), .val (.int p5), .val (.int ((p0 &&& (2147483647 : Int32)) % (6 : Int32))), .val (.ref b1), .unset, .unset] [])) _
        refine XS.aload X17.here hx rfl (hb hby at_35) rfl rfl ?_
        show Steps p.tables e below (T17.setTop (mkF m 37 #[.val (.int p0), .val (.int p1), .val (.int p2), .val (.int p3), .val (.int p4), .val (.int p5), .val (.int ((p0 &&& (2147483647 : Int32)) % (6 : Int32))), .val (.ref b1), .unset, .unset] [(.ref b1)])) _
        refine XS.iloadN X17.here hx rfl (hb hby at_37) rfl ?_
        show Steps p.tables e below (T17.setTop (mkF m 38 #[.val (.int p0), .val (.int p1), .val (.int p2), .val (.int p3), .val (.int p4), .val (.int p5), .val (.int ((p0 &&& (2147483647 : Int32)) % (6 : Int32))), .val (.ref b1), .unset, .unset] [(.int p2), (.ref b1)])) _
        refine st27.trans ?_
        show Steps p.tables e below (T27.setTop (mkF m 41 #[.val (.int p0), .val (.int p1), .val (.int p2), .val (.int p3), .val (.int p4), .val (.int p5), .val (.int ((p0 &&& (2147483647 : Int32)) % (6 : Int32))), .val (.ref b1), .unset, .unset] [])) _
        refine XS.iload X27.here hx rfl (hb hby at_41) rfl ?_
        show Steps p.tables e below (T27.setTop (mkF m 43 #[.val (.int p0), .val (.int p1), .val (.int p2), .val (.int p3), .val (.int p4), .val (.int p5), .val (.int ((p0 &&& (2147483647 : Int32)) % (6 : Int32))), .val (.ref b1), .unset, .unset] [(.int ((p0 &&& (2147483647 : Int32)) % (6 : Int32)))])) _
        refine XS.iconst X27.here hx rfl (hb hby at_43) ?_
        exact kt
      by_cases hc35 : (2 : Int32) < ((p0 &&& (2147483647 : Int32)) % (6 : Int32))
      · have zs36 : n0 ≤ T27.heap.size := Nat.le_trans Z0 k32.1
        obtain ⟨cq38, kq38, q38a, q38b, q38c⟩ := isOf hZ rfl f30
        obtain ⟨_, _, ⟨T37, L37, k37, n37⟩, -, X37, ⟨Lc37, hQ37, l37, y37, z37⟩, st37⟩ := X27.virtualBack hx (y := (⟨"com/example/interleaving/interleaving/store/StateGraph", "addInitial", "(I)V"⟩ : MethodName)) (z := (⟨"com/example/interleaving/interleaving/store/StateGraph", "addInitial", "(I)V"⟩ : MethodName)) hown (mvT hZ (hw _ (List.mem_of_getElem? (i := 42) rfl))) (mvT hZ (hw _ (List.mem_of_getElem? (i := 43) rfl))) (notFace_of_selects (args := #[]) (mvT hZ (hw _ (List.mem_of_getElem? (i := 45) rfl)))) (mvT hZ (hw _ (List.mem_of_getElem? (i := 45) rfl))) (mvT hZ (hw _ (List.mem_of_getElem? (i := 44) rfl))) (by decide) (backOf (W := 0) (own_rm_add l Z a0 hw [] b1 p3 bx10 2 16 (own_upd (own_upd (fun _ => 0) 0 p1) 1 p2) T27.heap n0 zs36 f30 c29_0 c29_1 c29_2 gn_b1 gn_bx10 ne_b1_bx10 (by decide) (by decide)) hZ (hw _ (List.mem_of_getElem? (i := 46) rfl)) (hw _ (List.mem_of_getElem? (i := 3) rfl)) (by decide) (by decide)) q38a q38c (g := (mkF m 50 #[.val (.int p0), .val (.int p1), .val (.int p2), .val (.int p3), .val (.int p4), .val (.int p5), .val (.int ((p0 &&& (2147483647 : Int32)) % (6 : Int32))), .val (.ref b1), .unset, .unset] [(.int p3), (.ref b1)])) rfl (by rw [hml]; rfl) (Steps.refl _) (argsL := [(.int p3)]) (rest := []) (lenOf own_pd3 rfl) rfl (by show 2 * 0 + _ ≤ _; exact Nat.le_of_eq rfl) (hb hby at_50) (fun _ _ => ⟨rfl, rfl, (by decide : 4 + 0 ≤ _), (by decide : 2072 + 0 ≤ _)⟩)
        dsimp only [Pt.U, Pt.locs, Pt.cells, Pt.slots] at X37 l37 y37 z37 st37 hQ37
        subst l37 y37 z37
        obtain ⟨rfl, N39, K39, c39_0, c39_1, c39_2⟩ := hQ37
        have f40 := f30.keep K39
        have f41 := f31.keep K39
        have k42 := k32.trans K39 (allS (Or.inr sz_b1) (allS (Or.inr sz_bx10) all0))
        have nf43 := Fr.app nf33 N39
        have pre44 : ∀ t, Steps p.tables e below (T37.setTop (mkF m 56 #[.val (.int p0), .val (.int p1), .val (.int p2), .val (.int p3), .val (.int p4), .val (.int p5), .val (.int ((p0 &&& (2147483647 : Int32)) % (6 : Int32))), .val (.ref b1), .unset, .unset] [(.int (3 : Int32)), (.int ((p0 &&& (2147483647 : Int32)) % (6 : Int32)))])) t → Steps p.tables e below (s₁.setTop (entryFrame m #[(.int p0), (.int p1), (.int p2), (.int p3), (.int p4), (.int p5)] maxLocals)) t := by
          intro t kt
          refine pre34 t ?_
          show Steps p.tables e below (T27.setTop (mkF m 44 #[.val (.int p0), .val (.int p1), .val (.int p2), .val (.int p3), .val (.int p4), .val (.int p5), .val (.int ((p0 &&& (2147483647 : Int32)) % (6 : Int32))), .val (.ref b1), .unset, .unset] [(.int (2 : Int32)), (.int ((p0 &&& (2147483647 : Int32)) % (6 : Int32)))])) _
          refine XS.icmpNo X27.here hx rfl (hb hby at_44) rfl (tlt hc35).2.2.2 ?_
          show Steps p.tables e below (T27.setTop (mkF m 47 #[.val (.int p0), .val (.int p1), .val (.int p2), .val (.int p3), .val (.int p4), .val (.int p5), .val (.int ((p0 &&& (2147483647 : Int32)) % (6 : Int32))), .val (.ref b1), .unset, .unset] [])) _
          refine XS.aload X27.here hx rfl (hb hby at_47) rfl rfl ?_
          show Steps p.tables e below (T27.setTop (mkF m 49 #[.val (.int p0), .val (.int p1), .val (.int p2), .val (.int p3), .val (.int p4), .val (.int p5), .val (.int ((p0 &&& (2147483647 : Int32)) % (6 : Int32))), .val (.ref b1), .unset, .unset] [(.ref b1)])) _
          refine XS.iloadN X27.here hx rfl (hb hby at_49) rfl ?_
          show Steps p.tables e below (T27.setTop (mkF m 50 #[.val (.int p0), .val (.int p1), .val (.int p2), .val (.int p3), .val (.int p4), .val (.int p5), .val (.int ((p0 &&& (2147483647 : Int32)) % (6 : Int32))), .val (.ref b1), .unset, .unset] [(.int p3), (.ref b1)])) _
          refine st37.trans ?_
          show Steps p.tables e below (T37.setTop (mkF m 53 #[.val (.int p0), .val (.int p1), .val (.int p2), .val (.int p3), .val (.int p4), .val (.int p5), .val (.int ((p0 &&& (2147483647 : Int32)) % (6 : Int32))), .val (.ref b1), .unset, .unset] [])) _
          refine XS.iload X37.here hx rfl (hb hby at_53) rfl ?_
          show Steps p.tables e below (T37.setTop (mkF m 55 #[.val (.int p0), .val (.int p1), .val (.int p2), .val (.int p3), .val (.int p4), .val (.int p5), .val (.int ((p0 &&& (2147483647 : Int32)) % (6 : Int32))), .val (.ref b1), .unset, .unset] [(.int ((p0 &&& (2147483647 : Int32)) % (6 : Int32)))])) _
          refine XS.iconst X37.here hx rfl (hb hby at_55) ?_
          exact kt
        by_cases hc45 : (3 : Int32) < ((p0 &&& (2147483647 : Int32)) % (6 : Int32))
        · have zs46 : n0 ≤ T37.heap.size := Nat.le_trans Z0 k42.1
          obtain ⟨cq48, kq48, q48a, q48b, q48c⟩ := isOf hZ rfl f40
          obtain ⟨_, _, ⟨T47, L47, k47, n47⟩, -, X47, ⟨Lc47, hQ47, l47, y47, z47⟩, st47⟩ := X37.virtualBack hx (y := (⟨"com/example/interleaving/interleaving/store/StateGraph", "addInitial", "(I)V"⟩ : MethodName)) (z := (⟨"com/example/interleaving/interleaving/store/StateGraph", "addInitial", "(I)V"⟩ : MethodName)) hown (mvT hZ (hw _ (List.mem_of_getElem? (i := 42) rfl))) (mvT hZ (hw _ (List.mem_of_getElem? (i := 43) rfl))) (notFace_of_selects (args := #[]) (mvT hZ (hw _ (List.mem_of_getElem? (i := 45) rfl)))) (mvT hZ (hw _ (List.mem_of_getElem? (i := 45) rfl))) (mvT hZ (hw _ (List.mem_of_getElem? (i := 44) rfl))) (by decide) (backOf (W := 0) (own_rm_add l Z a0 hw [] b1 p4 bx10 3 16 (own_upd (own_upd (own_upd (fun _ => 0) 0 p1) 1 p2) 2 p3) T37.heap n0 zs46 f40 c39_0 c39_1 c39_2 gn_b1 gn_bx10 ne_b1_bx10 (by decide) (by decide)) hZ (hw _ (List.mem_of_getElem? (i := 46) rfl)) (hw _ (List.mem_of_getElem? (i := 3) rfl)) (by decide) (by decide)) q48a q48c (g := (mkF m 63 #[.val (.int p0), .val (.int p1), .val (.int p2), .val (.int p3), .val (.int p4), .val (.int p5), .val (.int ((p0 &&& (2147483647 : Int32)) % (6 : Int32))), .val (.ref b1), .unset, .unset] [(.int p4), (.ref b1)])) rfl (by rw [hml]; rfl) (Steps.refl _) (argsL := [(.int p4)]) (rest := []) (lenOf own_pd3 rfl) rfl (by show 2 * 0 + _ ≤ _; exact Nat.le_of_eq rfl) (hb hby at_63) (fun _ _ => ⟨rfl, rfl, (by decide : 4 + 0 ≤ _), (by decide : 2072 + 0 ≤ _)⟩)
          dsimp only [Pt.U, Pt.locs, Pt.cells, Pt.slots] at X47 l47 y47 z47 st47 hQ47
          subst l47 y47 z47
          obtain ⟨rfl, N49, K49, c49_0, c49_1, c49_2⟩ := hQ47
          have f50 := f40.keep K49
          have f51 := f41.keep K49
          have k52 := k42.trans K49 (allS (Or.inr sz_b1) (allS (Or.inr sz_bx10) all0))
          have nf53 := Fr.app nf43 N49
          have pre54 : ∀ t, Steps p.tables e below (T47.setTop (mkF m 69 #[.val (.int p0), .val (.int p1), .val (.int p2), .val (.int p3), .val (.int p4), .val (.int p5), .val (.int ((p0 &&& (2147483647 : Int32)) % (6 : Int32))), .val (.ref b1), .unset, .unset] [(.int (4 : Int32)), (.int ((p0 &&& (2147483647 : Int32)) % (6 : Int32)))])) t → Steps p.tables e below (s₁.setTop (entryFrame m #[(.int p0), (.int p1), (.int p2), (.int p3), (.int p4), (.int p5)] maxLocals)) t := by
            intro t kt
            refine pre44 t ?_
            show Steps p.tables e below (T37.setTop (mkF m 56 #[.val (.int p0), .val (.int p1), .val (.int p2), .val (.int p3), .val (.int p4), .val (.int p5), .val (.int ((p0 &&& (2147483647 : Int32)) % (6 : Int32))), .val (.ref b1), .unset, .unset] [(.int (3 : Int32)), (.int ((p0 &&& (2147483647 : Int32)) % (6 : Int32)))])) _
            refine XS.icmpNo X37.here hx rfl (hb hby at_56) rfl (tlt hc45).2.2.2 ?_
            show Steps p.tables e below (T37.setTop (mkF m 59 #[.val (.int p0), .val (.int p1), .val (.int p2), .val (.int p3), .val (.int p4), .val (.int p5), .val (.int ((p0 &&& (2147483647 : Int32)) % (6 : Int32))), .val (.ref b1), .unset, .unset] [])) _
            refine XS.aload X37.here hx rfl (hb hby at_59) rfl rfl ?_
            show Steps p.tables e below (T37.setTop (mkF m 61 #[.val (.int p0), .val (.int p1), .val (.int p2), .val (.int p3), .val (.int p4), .val (.int p5), .val (.int ((p0 &&& (2147483647 : Int32)) % (6 : Int32))), .val (.ref b1), .unset, .unset] [(.ref b1)])) _
            refine XS.iload X37.here hx rfl (hb hby at_61) rfl ?_
            show Steps p.tables e below (T37.setTop (mkF m 63 #[.val (.int p0), .val (.int p1), .val (.int p2), .val (.int p3), .val (.int p4), .val (.int p5), .val (.int ((p0 &&& (2147483647 : Int32)) % (6 : Int32))), .val (.ref b1), .unset, .unset] [(.int p4), (.ref b1)])) _
            refine st47.trans ?_
            show Steps p.tables e below (T47.setTop (mkF m 66 #[.val (.int p0), .val (.int p1), .val (.int p2), .val (.int p3), .val (.int p4), .val (.int p5), .val (.int ((p0 &&& (2147483647 : Int32)) % (6 : Int32))), .val (.ref b1), .unset, .unset] [])) _
            refine XS.iload X47.here hx rfl (hb hby at_66) rfl ?_
            show Steps p.tables e below (T47.setTop (mkF m 68 #[.val (.int p0), .val (.int p1), .val (.int p2), .val (.int p3), .val (.int p4), .val (.int p5), .val (.int ((p0 &&& (2147483647 : Int32)) % (6 : Int32))), .val (.ref b1), .unset, .unset] [(.int ((p0 &&& (2147483647 : Int32)) % (6 : Int32)))])) _
            refine XS.iconst X47.here hx rfl (hb hby at_68) ?_
            exact kt
          by_cases hc55 : (4 : Int32) < ((p0 &&& (2147483647 : Int32)) % (6 : Int32))
          · have zs56 : n0 ≤ T47.heap.size := Nat.le_trans Z0 k52.1
            obtain ⟨cq58, kq58, q58a, q58b, q58c⟩ := isOf hZ rfl f50
            obtain ⟨_, _, ⟨T57, L57, k57, n57⟩, -, X57, ⟨Lc57, hQ57, l57, y57, z57⟩, st57⟩ := X47.virtualBack hx (y := (⟨"com/example/interleaving/interleaving/store/StateGraph", "addInitial", "(I)V"⟩ : MethodName)) (z := (⟨"com/example/interleaving/interleaving/store/StateGraph", "addInitial", "(I)V"⟩ : MethodName)) hown (mvT hZ (hw _ (List.mem_of_getElem? (i := 42) rfl))) (mvT hZ (hw _ (List.mem_of_getElem? (i := 43) rfl))) (notFace_of_selects (args := #[]) (mvT hZ (hw _ (List.mem_of_getElem? (i := 45) rfl)))) (mvT hZ (hw _ (List.mem_of_getElem? (i := 45) rfl))) (mvT hZ (hw _ (List.mem_of_getElem? (i := 44) rfl))) (by decide) (backOf (W := 0) (own_rm_add l Z a0 hw [] b1 p5 bx10 4 16 (own_upd (own_upd (own_upd (own_upd (fun _ => 0) 0 p1) 1 p2) 2 p3) 3 p4) T47.heap n0 zs56 f50 c49_0 c49_1 c49_2 gn_b1 gn_bx10 ne_b1_bx10 (by decide) (by decide)) hZ (hw _ (List.mem_of_getElem? (i := 46) rfl)) (hw _ (List.mem_of_getElem? (i := 3) rfl)) (by decide) (by decide)) q58a q58c (g := (mkF m 76 #[.val (.int p0), .val (.int p1), .val (.int p2), .val (.int p3), .val (.int p4), .val (.int p5), .val (.int ((p0 &&& (2147483647 : Int32)) % (6 : Int32))), .val (.ref b1), .unset, .unset] [(.int p5), (.ref b1)])) rfl (by rw [hml]; rfl) (Steps.refl _) (argsL := [(.int p5)]) (rest := []) (lenOf own_pd3 rfl) rfl (by show 2 * 0 + _ ≤ _; exact Nat.le_of_eq rfl) (hb hby at_76) (fun _ _ => ⟨rfl, rfl, (by decide : 4 + 0 ≤ _), (by decide : 2072 + 0 ≤ _)⟩)
            dsimp only [Pt.U, Pt.locs, Pt.cells, Pt.slots] at X57 l57 y57 z57 st57 hQ57
            subst l57 y57 z57
            obtain ⟨rfl, N59, K59, c59_0, c59_1, c59_2⟩ := hQ57
            have f60 := f50.keep K59
            have f61 := f51.keep K59
            have k62 := k52.trans K59 (allS (Or.inr sz_b1) (allS (Or.inr sz_bx10) all0))
            have nf63 := Fr.app nf53 N59
            have zs64 : n0 ≤ T57.heap.size := Nat.le_trans Z0 k62.1
            obtain ⟨cq66, kq66, q66a, q66b, q66c⟩ := isOf hZ rfl f60
            obtain ⟨_, _, ⟨T65, L65, k65, n65⟩, -, X65, ⟨Lc65, hQ65, l65, y65, z65⟩, st65⟩ := X57.virtualBack hx (y := (⟨"com/example/interleaving/interleaving/store/StateGraph", "initialStates", "()[I"⟩ : MethodName)) (z := (⟨"com/example/interleaving/interleaving/store/StateGraph", "initialStates", "()[I"⟩ : MethodName)) hown (mvT hZ (hw _ (List.mem_of_getElem? (i := 19) rfl))) (mvT hZ (hw _ (List.mem_of_getElem? (i := 20) rfl))) (notFace_of_selects (args := #[]) (mvT hZ (hw _ (List.mem_of_getElem? (i := 22) rfl)))) (mvT hZ (hw _ (List.mem_of_getElem? (i := 22) rfl))) (mvT hZ (hw _ (List.mem_of_getElem? (i := 21) rfl))) (by decide) (backOf (W := 0) (own_rm_ist l Z a0 hw [] b1 bx10 5 16 (own_upd (own_upd (own_upd (own_upd (own_upd (fun _ => 0) 0 p1) 1 p2) 2 p3) 3 p4) 4 p5) T57.heap n0 zs64 c59_0 c59_1 c59_2 (by decide) (by decide) (by decide)) hZ (hw _ (List.mem_of_getElem? (i := 23) rfl)) (hw _ (List.mem_of_getElem? (i := 3) rfl)) (by decide) (by decide)) q66a q66c (g := (mkF m 81 #[.val (.int p0), .val (.int p1), .val (.int p2), .val (.int p3), .val (.int p4), .val (.int p5), .val (.int ((p0 &&& (2147483647 : Int32)) % (6 : Int32))), .val (.ref b1), .unset, .unset] [(.ref b1)])) rfl (by rw [hml]; rfl) (Steps.refl _) (argsL := []) (rest := []) (lenOf own_pd4 rfl) rfl (by show 2 * 0 + _ ≤ _; exact Nat.le_of_eq rfl) (hb hby at_81) (fun _ _ => ⟨rfl, rfl, (by decide : 4 + 1 ≤ _), (by decide : 2072 + 32 ≤ _)⟩)
            dsimp only [Pt.U, Pt.locs, Pt.cells, Pt.slots] at X65 l65 y65 z65 st65 hQ65
            subst l65 y65 z65
            obtain ⟨r67, rfl, N67, K67, c67_0, c67_1⟩ := hQ65
            have sz_r67 : h0.size ≤ r67 := Nat.le_trans k62.1 c67_0
            have gn_r67 : n0 ≤ r67 := Nat.le_trans Z0 sz_r67
            have ne_b1_r67 : b1 ≠ r67 := Nat.ne_of_lt (Nat.lt_of_lt_of_le c59_1.lt c67_0)
            have ne_bx10_r67 : bx10 ≠ r67 := Nat.ne_of_lt (Nat.lt_of_lt_of_le c59_2.lt c67_0)
            have f68 := f60.keep K67
            have f69 := f61.keep K67
            have f70 := c59_0.keep K67 nin0
            have f71 := c59_1.keep K67 nin0
            have f72 := c59_2.keep K67 nin0
            have k73 := k62.trans K67 all0
            have nf74 := Fr.app nf63 N67
            have zs75 : n0 ≤ T65.heap.size := Nat.le_trans Z0 k73.1
            obtain ⟨_, _, ⟨T76, L76, k76, n76⟩, -, X76, ⟨Lc76, hQ76, l76, y76, z76⟩, st76⟩ := Jvm.LawKit.callS X65 hx (y := (⟨"com/example/interleaving/interleaving/store/StateGraphInitialStatesPinLaw", "matches", "([IIIIIII)Z"⟩ : MethodName)) hown (mvT hZ (hw _ (List.mem_of_getElem? (i := 38) rfl))) (mvT hZ (hw _ (List.mem_of_getElem? (i := 39) rfl))) (mvT hZ (hw _ (List.mem_of_getElem? (i := 40) rfl))) (mvT hZ (hw _ (List.mem_of_getElem? (i := 41) rfl))) (by decide) (backOf (W := 0) (own_rm_mt l Z a0 hw [] r67 ((p0 &&& (2147483647 : Int32)) % (6 : Int32)) p1 p2 p3 p4 p5 5 (own_upd (own_upd (own_upd (own_upd (own_upd (fun _ => 0) 0 p1) 1 p2) 2 p3) 3 p4) 4 p5) T65.heap n0 zs75 c67_1 (own_kN 4 (by decide) hc55 (own_kr p0).2) (by decide) (fun j hj => by rcases j with _ | _ | _ | _ | _ | j <;> first | rfl | omega)) hZ (hw _ (List.mem_of_getElem? (i := 41) rfl)) (hw _ (List.mem_of_getElem? (i := 40) rfl)) (by decide) (by decide)) (g := (mkF m 97 #[.val (.int p0), .val (.int p1), .val (.int p2), .val (.int p3), .val (.int p4), .val (.int p5), .val (.int ((p0 &&& (2147483647 : Int32)) % (6 : Int32))), .val (.ref b1), .val (.ref r67), .unset] [(.int p5), (.int p4), (.int p3), (.int p2), (.int p1), (.int ((p0 &&& (2147483647 : Int32)) % (6 : Int32))), (.ref r67)])) rfl (by rw [hml]; rfl) (argsL := [(.ref r67), (.int ((p0 &&& (2147483647 : Int32)) % (6 : Int32))), (.int p1), (.int p2), (.int p3), (.int p4), (.int p5)]) (rest := []) (lenOf own_pd5 rfl) rfl (by show 2 * 0 + _ ≤ _; exact Nat.le_of_eq rfl) (hb hby at_97) (fun _ _ => ⟨rfl, rfl, (by decide : 5 + 0 ≤ _), (by decide : 2104 + 0 ≤ _)⟩)
            dsimp only [Pt.U, Pt.locs, Pt.cells, Pt.slots] at X76 l76 y76 z76 st76 hQ76
            subst l76 y76 z76
            obtain ⟨rfl, N77, eq77⟩ := hQ76
            have nf78 := Fr.app nf74 N77
            obtain ⟨cl79, Ar79, S79, H79⟩ := id c67_1
            have hin79 : ¬ ((0 : Int32) < 0 ∨ cl79.slots.size ≤ ((0 : Int32)).toNatClampNeg) := own_inb S79 (by decide) (by decide)
            obtain ⟨T80, h80, X80, e80, W80, st80⟩ := stI X76 hx hZ eq77 Ar79 (j := (0 : Int32)) hin79 (g := (mkF m 116 #[.val (.int p0), .val (.int p1), .val (.int p2), .val (.int p3), .val (.int p4), .val (.int p5), .val (.int ((p0 &&& (2147483647 : Int32)) % (6 : Int32))), .val (.ref b1), .val (.ref r67), .unset] [(.int (p1 ^^^ (1 : Int32))), (.int (0 : Int32)), (.ref r67)])) rfl rfl (hb hby at_116)
            have f81 := f68.wr W80
            have f82 := f69.wr W80
            have f83 := f70.other W80 (Or.inl ne_b1_r67)
            have f84 := f71.other W80 (Or.inl ne_b1_r67)
            have f85 := f72.other W80 ne_bx10_r67
            have k87 := k73.wr W80 (Or.inr sz_r67)
            have nf88 := Fr.snoc X80 nf78 gn_r67
            have f89 := c67_1.set W80
            obtain ⟨cl90, Ar90, S90, H90⟩ := id f89
            have hin90 : ¬ ((((p0 &&& (2147483647 : Int32)) % (6 : Int32)) - (1 : Int32)) < 0 ∨ cl90.slots.size ≤ ((((p0 &&& (2147483647 : Int32)) % (6 : Int32)) - (1 : Int32))).toNatClampNeg) := own_inb S90 (by rw [(own_kN 4 (by decide) hc55 (own_kr p0).2)]; decide) (by rw [(own_kN 4 (by decide) hc55 (own_kr p0).2)]; decide)
            have hat90 : cl90.slots[((((p0 &&& (2147483647 : Int32)) % (6 : Int32)) - (1 : Int32))).toNatClampNeg]? = some (.int ((own_upd (own_upd (own_upd (own_upd (own_upd (own_upd (fun _ => 0) 0 p1) 1 p2) 2 p3) 3 p4) 4 p5) ((0 : Int32)).toNatClampNeg (p1 ^^^ (1 : Int32))) ((((p0 &&& (2147483647 : Int32)) % (6 : Int32)) - (1 : Int32))).toNatClampNeg)) := H90 _ (by rw [(own_kN 4 (by decide) hc55 (own_kr p0).2)]; decide)
            obtain ⟨cl91, Ar91, S91, H91⟩ := id f89
            have hin91 : ¬ ((((p0 &&& (2147483647 : Int32)) % (6 : Int32)) - (1 : Int32)) < 0 ∨ cl91.slots.size ≤ ((((p0 &&& (2147483647 : Int32)) % (6 : Int32)) - (1 : Int32))).toNatClampNeg) := own_inb S91 (by rw [(own_kN 4 (by decide) hc55 (own_kr p0).2)]; decide) (by rw [(own_kN 4 (by decide) hc55 (own_kr p0).2)]; decide)
            obtain ⟨T92, h92, X92, e92, W92, st92⟩ := stI X80 hx hZ e80 Ar91 (j := (((p0 &&& (2147483647 : Int32)) % (6 : Int32)) - (1 : Int32))) hin91 (g := (mkF m 132 #[.val (.int p0), .val (.int p1), .val (.int p2), .val (.int p3), .val (.int p4), .val (.int p5), .val (.int ((p0 &&& (2147483647 : Int32)) % (6 : Int32))), .val (.ref b1), .val (.ref r67), .unset] [(.int (((own_upd (own_upd (own_upd (own_upd (own_upd (own_upd (fun _ => 0) 0 p1) 1 p2) 2 p3) 3 p4) 4 p5) ((0 : Int32)).toNatClampNeg (p1 ^^^ (1 : Int32))) ((((p0 &&& (2147483647 : Int32)) % (6 : Int32)) - (1 : Int32))).toNatClampNeg) ^^^ (2 : Int32))), (.int (((p0 &&& (2147483647 : Int32)) % (6 : Int32)) - (1 : Int32))), (.ref r67)])) rfl rfl (hb hby at_132)
            have f93 := f81.wr W92
            have f94 := f82.wr W92
            have f95 := f83.other W92 (Or.inl ne_b1_r67)
            have f96 := f84.other W92 (Or.inl ne_b1_r67)
            have f97 := f85.other W92 ne_bx10_r67
            have k99 := k87.wr W92 (Or.inr sz_r67)
            have nf100 := Fr.snoc X92 nf88 gn_r67
            have f101 := f89.set W92
            have zs102 : n0 ≤ h92.size := Nat.le_trans Z0 k99.1
            obtain ⟨cq104, kq104, q104a, q104b, q104c⟩ := isOf hZ e92 f93
            obtain ⟨_, _, ⟨T103, L103, k103, n103⟩, -, X103, ⟨Lc103, hQ103, l103, y103, z103⟩, st103⟩ := X92.virtualBack hx (y := (⟨"com/example/interleaving/interleaving/store/StateGraph", "initialStates", "()[I"⟩ : MethodName)) (z := (⟨"com/example/interleaving/interleaving/store/StateGraph", "initialStates", "()[I"⟩ : MethodName)) hown (mvT hZ (hw _ (List.mem_of_getElem? (i := 19) rfl))) (mvT hZ (hw _ (List.mem_of_getElem? (i := 20) rfl))) (notFace_of_selects (args := #[]) (mvT hZ (hw _ (List.mem_of_getElem? (i := 22) rfl)))) (mvT hZ (hw _ (List.mem_of_getElem? (i := 22) rfl))) (mvT hZ (hw _ (List.mem_of_getElem? (i := 21) rfl))) (by decide) (backOf (W := 0) (own_rm_ist l Z a0 hw [] b1 bx10 5 16 (own_upd (own_upd (own_upd (own_upd (own_upd (fun _ => 0) 0 p1) 1 p2) 2 p3) 3 p4) 4 p5) h92 n0 zs102 f95 f96 f97 (by decide) (by decide) (by decide)) hZ (hw _ (List.mem_of_getElem? (i := 23) rfl)) (hw _ (List.mem_of_getElem? (i := 3) rfl)) (by decide) (by decide)) q104a q104c (g := (mkF m 135 #[.val (.int p0), .val (.int p1), .val (.int p2), .val (.int p3), .val (.int p4), .val (.int p5), .val (.int ((p0 &&& (2147483647 : Int32)) % (6 : Int32))), .val (.ref b1), .val (.ref r67), .unset] [(.ref b1)])) rfl (by rw [hml]; rfl) (Steps.refl _) (argsL := []) (rest := []) (lenOf own_pd4 rfl) rfl (by show 2 * 0 + _ ≤ _; exact Nat.le_of_eq rfl) (hb hby at_135) (fun _ _ => ⟨rfl, e92, (by decide : 5 + 1 ≤ _), (by decide : 2104 + 32 ≤ _)⟩)
            dsimp only [Pt.U, Pt.locs, Pt.cells, Pt.slots] at X103 l103 y103 z103 st103 hQ103
            subst l103 y103 z103
            obtain ⟨r105, rfl, N105, K105, c105_0, c105_1⟩ := hQ103
            have sz_r105 : h0.size ≤ r105 := Nat.le_trans k99.1 c105_0
            have gn_r105 : n0 ≤ r105 := Nat.le_trans Z0 sz_r105
            have ne_b1_r105 : b1 ≠ r105 := Nat.ne_of_lt (Nat.lt_of_lt_of_le f96.lt c105_0)
            have ne_bx10_r105 : bx10 ≠ r105 := Nat.ne_of_lt (Nat.lt_of_lt_of_le f97.lt c105_0)
            have ne_r67_r105 : r67 ≠ r105 := Nat.ne_of_lt (Nat.lt_of_lt_of_le f101.lt c105_0)
            have f106 := f93.keep K105
            have f107 := f94.keep K105
            have f108 := f95.keep K105 nin0
            have f109 := f96.keep K105 nin0
            have f110 := f97.keep K105 nin0
            have f111 := f101.keep K105 nin0
            have k112 := k99.trans K105 all0
            have nf113 := Fr.app nf100 N105
            have zs114 : n0 ≤ T103.heap.size := Nat.le_trans Z0 k112.1
            obtain ⟨_, _, ⟨T115, L115, k115, n115⟩, -, X115, ⟨Lc115, hQ115, l115, y115, z115⟩, st115⟩ := Jvm.LawKit.callS X103 hx (y := (⟨"com/example/interleaving/interleaving/store/StateGraphInitialStatesPinLaw", "matches", "([IIIIIII)Z"⟩ : MethodName)) hown (mvT hZ (hw _ (List.mem_of_getElem? (i := 38) rfl))) (mvT hZ (hw _ (List.mem_of_getElem? (i := 39) rfl))) (mvT hZ (hw _ (List.mem_of_getElem? (i := 40) rfl))) (mvT hZ (hw _ (List.mem_of_getElem? (i := 41) rfl))) (by decide) (backOf (W := 0) (own_rm_mt l Z a0 hw [] r105 ((p0 &&& (2147483647 : Int32)) % (6 : Int32)) p1 p2 p3 p4 p5 5 (own_upd (own_upd (own_upd (own_upd (own_upd (fun _ => 0) 0 p1) 1 p2) 2 p3) 3 p4) 4 p5) T103.heap n0 zs114 c105_1 (own_kN 4 (by decide) hc55 (own_kr p0).2) (by decide) (fun j hj => by rcases j with _ | _ | _ | _ | _ | j <;> first | rfl | omega)) hZ (hw _ (List.mem_of_getElem? (i := 41) rfl)) (hw _ (List.mem_of_getElem? (i := 40) rfl)) (by decide) (by decide)) (g := (mkF m 151 #[.val (.int p0), .val (.int p1), .val (.int p2), .val (.int p3), .val (.int p4), .val (.int p5), .val (.int ((p0 &&& (2147483647 : Int32)) % (6 : Int32))), .val (.ref b1), .val (.ref r67), .val (.ref r105)] [(.int p5), (.int p4), (.int p3), (.int p2), (.int p1), (.int ((p0 &&& (2147483647 : Int32)) % (6 : Int32))), (.ref r105)])) rfl (by rw [hml]; rfl) (argsL := [(.ref r105), (.int ((p0 &&& (2147483647 : Int32)) % (6 : Int32))), (.int p1), (.int p2), (.int p3), (.int p4), (.int p5)]) (rest := []) (lenOf own_pd5 rfl) rfl (by show 2 * 0 + _ ≤ _; exact Nat.le_of_eq rfl) (hb hby at_151) (fun _ _ => ⟨rfl, rfl, (by decide : 6 + 0 ≤ _), (by decide : 2136 + 0 ≤ _)⟩)
            dsimp only [Pt.U, Pt.locs, Pt.cells, Pt.slots] at X115 l115 y115 z115 st115 hQ115
            subst l115 y115 z115
            obtain ⟨rfl, N116, eq116⟩ := hQ115
            have nf117 := Fr.app nf113 N116
            have pre118 : ∀ t, Steps p.tables e below (T115.setTop (mkF m 154 #[.val (.int p0), .val (.int p1), .val (.int p2), .val (.int p3), .val (.int p4), .val (.int p5), .val (.int ((p0 &&& (2147483647 : Int32)) % (6 : Int32))), .val (.ref b1), .val (.ref r67), .val (.ref r105)] [(.int (1 : Int32))])) t → Steps p.tables e below (s₁.setTop (entryFrame m #[(.int p0), (.int p1), (.int p2), (.int p3), (.int p4), (.int p5)] maxLocals)) t := by
              intro t kt
              refine pre54 t ?_
              show Steps p.tables e below (T47.setTop (mkF m 69 #[.val (.int p0), .val (.int p1), .val (.int p2), .val (.int p3), .val (.int p4), .val (.int p5), .val (.int ((p0 &&& (2147483647 : Int32)) % (6 : Int32))), .val (.ref b1), .unset, .unset] [(.int (4 : Int32)), (.int ((p0 &&& (2147483647 : Int32)) % (6 : Int32)))])) _
              refine XS.icmpNo X47.here hx rfl (hb hby at_69) rfl (tlt hc55).2.2.2 ?_
              show Steps p.tables e below (T47.setTop (mkF m 72 #[.val (.int p0), .val (.int p1), .val (.int p2), .val (.int p3), .val (.int p4), .val (.int p5), .val (.int ((p0 &&& (2147483647 : Int32)) % (6 : Int32))), .val (.ref b1), .unset, .unset] [])) _
              refine XS.aload X47.here hx rfl (hb hby at_72) rfl rfl ?_
              show Steps p.tables e below (T47.setTop (mkF m 74 #[.val (.int p0), .val (.int p1), .val (.int p2), .val (.int p3), .val (.int p4), .val (.int p5), .val (.int ((p0 &&& (2147483647 : Int32)) % (6 : Int32))), .val (.ref b1), .unset, .unset] [(.ref b1)])) _
              refine XS.iload X47.here hx rfl (hb hby at_74) rfl ?_
              show Steps p.tables e below (T47.setTop (mkF m 76 #[.val (.int p0), .val (.int p1), .val (.int p2), .val (.int p3), .val (.int p4), .val (.int p5), .val (.int ((p0 &&& (2147483647 : Int32)) % (6 : Int32))), .val (.ref b1), .unset, .unset] [(.int p5), (.ref b1)])) _
              refine st57.trans ?_
              show Steps p.tables e below (T57.setTop (mkF m 79 #[.val (.int p0), .val (.int p1), .val (.int p2), .val (.int p3), .val (.int p4), .val (.int p5), .val (.int ((p0 &&& (2147483647 : Int32)) % (6 : Int32))), .val (.ref b1), .unset, .unset] [])) _
              refine XS.aload X57.here hx rfl (hb hby at_79) rfl rfl ?_
              show Steps p.tables e below (T57.setTop (mkF m 81 #[.val (.int p0), .val (.int p1), .val (.int p2), .val (.int p3), .val (.int p4), .val (.int p5), .val (.int ((p0 &&& (2147483647 : Int32)) % (6 : Int32))), .val (.ref b1), .unset, .unset] [(.ref b1)])) _
              refine st65.trans ?_
              show Steps p.tables e below (T65.setTop (mkF m 84 #[.val (.int p0), .val (.int p1), .val (.int p2), .val (.int p3), .val (.int p4), .val (.int p5), .val (.int ((p0 &&& (2147483647 : Int32)) % (6 : Int32))), .val (.ref b1), .unset, .unset] [(.ref r67)])) _
              refine XS.astore X65.here hx rfl (hb hby at_84) rfl rfl (l' := #[.val (.int p0), .val (.int p1), .val (.int p2), .val (.int p3), .val (.int p4), .val (.int p5), .val (.int ((p0 &&& (2147483647 : Int32)) % (6 : Int32))), .val (.ref b1), .val (.ref r67), .unset]) rfl ?_
              show Steps p.tables e below (T65.setTop (mkF m 86 #[.val (.int p0), .val (.int p1), .val (.int p2), .val (.int p3), .val (.int p4), .val (.int p5), .val (.int ((p0 &&& (2147483647 : Int32)) % (6 : Int32))), .val (.ref b1), .val (.ref r67), .unset] [])) _
              refine XS.aload X65.here hx rfl (hb hby at_86) rfl rfl ?_
              show Steps p.tables e below (T65.setTop (mkF m 88 #[.val (.int p0), .val (.int p1), .val (.int p2), .val (.int p3), .val (.int p4), .val (.int p5), .val (.int ((p0 &&& (2147483647 : Int32)) % (6 : Int32))), .val (.ref b1), .val (.ref r67), .unset] [(.ref r67)])) _
              refine XS.iload X65.here hx rfl (hb hby at_88) rfl ?_
              show Steps p.tables e below (T65.setTop (mkF m 90 #[.val (.int p0), .val (.int p1), .val (.int p2), .val (.int p3), .val (.int p4), .val (.int p5), .val (.int ((p0 &&& (2147483647 : Int32)) % (6 : Int32))), .val (.ref b1), .val (.ref r67), .unset] [(.int ((p0 &&& (2147483647 : Int32)) % (6 : Int32))), (.ref r67)])) _
              refine XS.iloadN X65.here hx rfl (hb hby at_90) rfl ?_
              show Steps p.tables e below (T65.setTop (mkF m 91 #[.val (.int p0), .val (.int p1), .val (.int p2), .val (.int p3), .val (.int p4), .val (.int p5), .val (.int ((p0 &&& (2147483647 : Int32)) % (6 : Int32))), .val (.ref b1), .val (.ref r67), .unset] [(.int p1), (.int ((p0 &&& (2147483647 : Int32)) % (6 : Int32))), (.ref r67)])) _
              refine XS.iloadN X65.here hx rfl (hb hby at_91) rfl ?_
              show Steps p.tables e below (T65.setTop (mkF m 92 #[.val (.int p0), .val (.int p1), .val (.int p2), .val (.int p3), .val (.int p4), .val (.int p5), .val (.int ((p0 &&& (2147483647 : Int32)) % (6 : Int32))), .val (.ref b1), .val (.ref r67), .unset] [(.int p2), (.int p1), (.int ((p0 &&& (2147483647 : Int32)) % (6 : Int32))), (.ref r67)])) _
              refine XS.iloadN X65.here hx rfl (hb hby at_92) rfl ?_
              show Steps p.tables e below (T65.setTop (mkF m 93 #[.val (.int p0), .val (.int p1), .val (.int p2), .val (.int p3), .val (.int p4), .val (.int p5), .val (.int ((p0 &&& (2147483647 : Int32)) % (6 : Int32))), .val (.ref b1), .val (.ref r67), .unset] [(.int p3), (.int p2), (.int p1), (.int ((p0 &&& (2147483647 : Int32)) % (6 : Int32))), (.ref r67)])) _
              refine XS.iload X65.here hx rfl (hb hby at_93) rfl ?_
              show Steps p.tables e below (T65.setTop (mkF m 95 #[.val (.int p0), .val (.int p1), .val (.int p2), .val (.int p3), .val (.int p4), .val (.int p5), .val (.int ((p0 &&& (2147483647 : Int32)) % (6 : Int32))), .val (.ref b1), .val (.ref r67), .unset] [(.int p4), (.int p3), (.int p2), (.int p1), (.int ((p0 &&& (2147483647 : Int32)) % (6 : Int32))), (.ref r67)])) _
              refine XS.iload X65.here hx rfl (hb hby at_95) rfl ?_
              show Steps p.tables e below (T65.setTop (mkF m 97 #[.val (.int p0), .val (.int p1), .val (.int p2), .val (.int p3), .val (.int p4), .val (.int p5), .val (.int ((p0 &&& (2147483647 : Int32)) % (6 : Int32))), .val (.ref b1), .val (.ref r67), .unset] [(.int p5), (.int p4), (.int p3), (.int p2), (.int p1), (.int ((p0 &&& (2147483647 : Int32)) % (6 : Int32))), (.ref r67)])) _
              refine st76 _ ?_
              show Steps p.tables e below (T76.setTop (mkF m 100 #[.val (.int p0), .val (.int p1), .val (.int p2), .val (.int p3), .val (.int p4), .val (.int p5), .val (.int ((p0 &&& (2147483647 : Int32)) % (6 : Int32))), .val (.ref b1), .val (.ref r67), .unset] [(.int (1 : Int32))])) _
              refine XS.ifYes X76.here hx rfl (pc0 := 100) (pc' := 105) rfl (hb hby at_100) rfl ((if0 _ _).trans (feq (by decide : ¬ ((1 : Int32) = (0 : Int32)))).2) (by decide) (by decide) ?_
              show Steps p.tables e below (T76.setTop (mkF m 105 #[.val (.int p0), .val (.int p1), .val (.int p2), .val (.int p3), .val (.int p4), .val (.int p5), .val (.int ((p0 &&& (2147483647 : Int32)) % (6 : Int32))), .val (.ref b1), .val (.ref r67), .unset] [])) _
              refine XS.iload X76.here hx rfl (hb hby at_105) rfl ?_
              show Steps p.tables e below (T76.setTop (mkF m 107 #[.val (.int p0), .val (.int p1), .val (.int p2), .val (.int p3), .val (.int p4), .val (.int p5), .val (.int ((p0 &&& (2147483647 : Int32)) % (6 : Int32))), .val (.ref b1), .val (.ref r67), .unset] [(.int ((p0 &&& (2147483647 : Int32)) % (6 : Int32)))])) _
              refine XS.ifNo X76.here hx rfl (hb hby at_107) rfl ((if0 _ _).trans (tlt hc15).2.2.2) ?_
              show Steps p.tables e below (T76.setTop (mkF m 110 #[.val (.int p0), .val (.int p1), .val (.int p2), .val (.int p3), .val (.int p4), .val (.int p5), .val (.int ((p0 &&& (2147483647 : Int32)) % (6 : Int32))), .val (.ref b1), .val (.ref r67), .unset] [])) _
              refine XS.aload X76.here hx rfl (hb hby at_110) rfl rfl ?_
              show Steps p.tables e below (T76.setTop (mkF m 112 #[.val (.int p0), .val (.int p1), .val (.int p2), .val (.int p3), .val (.int p4), .val (.int p5), .val (.int ((p0 &&& (2147483647 : Int32)) % (6 : Int32))), .val (.ref b1), .val (.ref r67), .unset] [(.ref r67)])) _
              refine XS.iconst X76.here hx rfl (hb hby at_112) ?_
              show Steps p.tables e below (T76.setTop (mkF m 113 #[.val (.int p0), .val (.int p1), .val (.int p2), .val (.int p3), .val (.int p4), .val (.int p5), .val (.int ((p0 &&& (2147483647 : Int32)) % (6 : Int32))), .val (.ref b1), .val (.ref r67), .unset] [(.int (0 : Int32)), (.ref r67)])) _
              refine XS.iloadN X76.here hx rfl (hb hby at_113) rfl ?_
              show Steps p.tables e below (T76.setTop (mkF m 114 #[.val (.int p0), .val (.int p1), .val (.int p2), .val (.int p3), .val (.int p4), .val (.int p5), .val (.int ((p0 &&& (2147483647 : Int32)) % (6 : Int32))), .val (.ref b1), .val (.ref r67), .unset] [(.int p1), (.int (0 : Int32)), (.ref r67)])) _
              refine XS.iconst X76.here hx rfl (hb hby at_114) ?_
              show Steps p.tables e below (T76.setTop (mkF m 115 #[.val (.int p0), .val (.int p1), .val (.int p2), .val (.int p3), .val (.int p4), .val (.int p5), .val (.int ((p0 &&& (2147483647 : Int32)) % (6 : Int32))), .val (.ref b1), .val (.ref r67), .unset] [(.int (1 : Int32)), (.int p1), (.int (0 : Int32)), (.ref r67)])) _
              refine XS.ixor X76.here hx rfl (hb hby at_115) rfl ?_
              show Steps p.tables e below (T76.setTop (mkF m 116 #[.val (.int p0), .val (.int p1), .val (.int p2), .val (.int p3), .val (.int p4), .val (.int p5), .val (.int ((p0 &&& (2147483647 : Int32)) % (6 : Int32))), .val (.ref b1), .val (.ref r67), .unset] [(.int (p1 ^^^ (1 : Int32))), (.int (0 : Int32)), (.ref r67)])) _
              refine st80 _ ?_
              show Steps p.tables e below (T80.setTop (mkF m 117 #[.val (.int p0), .val (.int p1), .val (.int p2), .val (.int p3), .val (.int p4), .val (.int p5), .val (.int ((p0 &&& (2147483647 : Int32)) % (6 : Int32))), .val (.ref b1), .val (.ref r67), .unset] [])) _
              refine XS.aload X80.here hx rfl (hb hby at_117) rfl rfl ?_
              show Steps p.tables e below (T80.setTop (mkF m 119 #[.val (.int p0), .val (.int p1), .val (.int p2), .val (.int p3), .val (.int p4), .val (.int p5), .val (.int ((p0 &&& (2147483647 : Int32)) % (6 : Int32))), .val (.ref b1), .val (.ref r67), .unset] [(.ref r67)])) _
              refine XS.iload X80.here hx rfl (hb hby at_119) rfl ?_
              show Steps p.tables e below (T80.setTop (mkF m 121 #[.val (.int p0), .val (.int p1), .val (.int p2), .val (.int p3), .val (.int p4), .val (.int p5), .val (.int ((p0 &&& (2147483647 : Int32)) % (6 : Int32))), .val (.ref b1), .val (.ref r67), .unset] [(.int ((p0 &&& (2147483647 : Int32)) % (6 : Int32))), (.ref r67)])) _
              refine XS.iconst X80.here hx rfl (hb hby at_121) ?_
              show Steps p.tables e below (T80.setTop (mkF m 122 #[.val (.int p0), .val (.int p1), .val (.int p2), .val (.int p3), .val (.int p4), .val (.int p5), .val (.int ((p0 &&& (2147483647 : Int32)) % (6 : Int32))), .val (.ref b1), .val (.ref r67), .unset] [(.int (1 : Int32)), (.int ((p0 &&& (2147483647 : Int32)) % (6 : Int32))), (.ref r67)])) _
              refine XS.isub X80.here hx rfl (hb hby at_122) rfl ?_
              show Steps p.tables e below (T80.setTop (mkF m 123 #[.val (.int p0), .val (.int p1), .val (.int p2), .val (.int p3), .val (.int p4), .val (.int p5), .val (.int ((p0 &&& (2147483647 : Int32)) % (6 : Int32))), .val (.ref b1), .val (.ref r67), .unset] [(.int (((p0 &&& (2147483647 : Int32)) % (6 : Int32)) - (1 : Int32))), (.ref r67)])) _
              refine XS.aload X80.here hx rfl (hb hby at_123) rfl rfl ?_
              show Steps p.tables e below (T80.setTop (mkF m 125 #[.val (.int p0), .val (.int p1), .val (.int p2), .val (.int p3), .val (.int p4), .val (.int p5), .val (.int ((p0 &&& (2147483647 : Int32)) % (6 : Int32))), .val (.ref b1), .val (.ref r67), .unset] [(.ref r67), (.int (((p0 &&& (2147483647 : Int32)) % (6 : Int32)) - (1 : Int32))), (.ref r67)])) _
              refine XS.iload X80.here hx rfl (hb hby at_125) rfl ?_
              show Steps p.tables e below (T80.setTop (mkF m 127 #[.val (.int p0), .val (.int p1), .val (.int p2), .val (.int p3), .val (.int p4), .val (.int p5), .val (.int ((p0 &&& (2147483647 : Int32)) % (6 : Int32))), .val (.ref b1), .val (.ref r67), .unset] [(.int ((p0 &&& (2147483647 : Int32)) % (6 : Int32))), (.ref r67), (.int (((p0 &&& (2147483647 : Int32)) % (6 : Int32)) - (1 : Int32))), (.ref r67)])) _
              refine XS.iconst X80.here hx rfl (hb hby at_127) ?_
              show Steps p.tables e below (T80.setTop (mkF m 128 #[.val (.int p0), .val (.int p1), .val (.int p2), .val (.int p3), .val (.int p4), .val (.int p5), .val (.int ((p0 &&& (2147483647 : Int32)) % (6 : Int32))), .val (.ref b1), .val (.ref r67), .unset] [(.int (1 : Int32)), (.int ((p0 &&& (2147483647 : Int32)) % (6 : Int32))), (.ref r67), (.int (((p0 &&& (2147483647 : Int32)) % (6 : Int32)) - (1 : Int32))), (.ref r67)])) _
              refine XS.isub X80.here hx rfl (hb hby at_128) rfl ?_
              show Steps p.tables e below (T80.setTop (mkF m 129 #[.val (.int p0), .val (.int p1), .val (.int p2), .val (.int p3), .val (.int p4), .val (.int p5), .val (.int ((p0 &&& (2147483647 : Int32)) % (6 : Int32))), .val (.ref b1), .val (.ref r67), .unset] [(.int (((p0 &&& (2147483647 : Int32)) % (6 : Int32)) - (1 : Int32))), (.ref r67), (.int (((p0 &&& (2147483647 : Int32)) % (6 : Int32)) - (1 : Int32))), (.ref r67)])) _
              refine X80.iaload hx (j := (((p0 &&& (2147483647 : Int32)) % (6 : Int32)) - (1 : Int32))) (v := (.int ((own_upd (own_upd (own_upd (own_upd (own_upd (own_upd (fun _ => 0) 0 p1) 1 p2) 2 p3) 3 p4) 4 p5) ((0 : Int32)).toNatClampNeg (p1 ^^^ (1 : Int32))) ((((p0 &&& (2147483647 : Int32)) % (6 : Int32)) - (1 : Int32))).toNatClampNeg))) (by rw [e80]; exact Ar90.1) (State.isArrayOf_alike hZ.alike Ar90.2.1) Ar90.2.2 hin90 hat90 (g := (mkF m 129 #[.val (.int p0), .val (.int p1), .val (.int p2), .val (.int p3), .val (.int p4), .val (.int p5), .val (.int ((p0 &&& (2147483647 : Int32)) % (6 : Int32))), .val (.ref b1), .val (.ref r67), .unset] [(.int (((p0 &&& (2147483647 : Int32)) % (6 : Int32)) - (1 : Int32))), (.ref r67), (.int (((p0 &&& (2147483647 : Int32)) % (6 : Int32)) - (1 : Int32))), (.ref r67)])) rfl rfl (hb hby at_129) _ ?_
              show Steps p.tables e below (T80.setTop (mkF m 130 #[.val (.int p0), .val (.int p1), .val (.int p2), .val (.int p3), .val (.int p4), .val (.int p5), .val (.int ((p0 &&& (2147483647 : Int32)) % (6 : Int32))), .val (.ref b1), .val (.ref r67), .unset] [(.int ((own_upd (own_upd (own_upd (own_upd (own_upd (own_upd (fun _ => 0) 0 p1) 1 p2) 2 p3) 3 p4) 4 p5) ((0 : Int32)).toNatClampNeg (p1 ^^^ (1 : Int32))) ((((p0 &&& (2147483647 : Int32)) % (6 : Int32)) - (1 : Int32))).toNatClampNeg)), (.int (((p0 &&& (2147483647 : Int32)) % (6 : Int32)) - (1 : Int32))), (.ref r67)])) _
              refine XS.iconst X80.here hx rfl (hb hby at_130) ?_
              show Steps p.tables e below (T80.setTop (mkF m 131 #[.val (.int p0), .val (.int p1), .val (.int p2), .val (.int p3), .val (.int p4), .val (.int p5), .val (.int ((p0 &&& (2147483647 : Int32)) % (6 : Int32))), .val (.ref b1), .val (.ref r67), .unset] [(.int (2 : Int32)), (.int ((own_upd (own_upd (own_upd (own_upd (own_upd (own_upd (fun _ => 0) 0 p1) 1 p2) 2 p3) 3 p4) 4 p5) ((0 : Int32)).toNatClampNeg (p1 ^^^ (1 : Int32))) ((((p0 &&& (2147483647 : Int32)) % (6 : Int32)) - (1 : Int32))).toNatClampNeg)), (.int (((p0 &&& (2147483647 : Int32)) % (6 : Int32)) - (1 : Int32))), (.ref r67)])) _
              refine XS.ixor X80.here hx rfl (hb hby at_131) rfl ?_
              show Steps p.tables e below (T80.setTop (mkF m 132 #[.val (.int p0), .val (.int p1), .val (.int p2), .val (.int p3), .val (.int p4), .val (.int p5), .val (.int ((p0 &&& (2147483647 : Int32)) % (6 : Int32))), .val (.ref b1), .val (.ref r67), .unset] [(.int (((own_upd (own_upd (own_upd (own_upd (own_upd (own_upd (fun _ => 0) 0 p1) 1 p2) 2 p3) 3 p4) 4 p5) ((0 : Int32)).toNatClampNeg (p1 ^^^ (1 : Int32))) ((((p0 &&& (2147483647 : Int32)) % (6 : Int32)) - (1 : Int32))).toNatClampNeg) ^^^ (2 : Int32))), (.int (((p0 &&& (2147483647 : Int32)) % (6 : Int32)) - (1 : Int32))), (.ref r67)])) _
              refine st92 _ ?_
              show Steps p.tables e below (T92.setTop (mkF m 133 #[.val (.int p0), .val (.int p1), .val (.int p2), .val (.int p3), .val (.int p4), .val (.int p5), .val (.int ((p0 &&& (2147483647 : Int32)) % (6 : Int32))), .val (.ref b1), .val (.ref r67), .unset] [])) _
              refine XS.aload X92.here hx rfl (hb hby at_133) rfl rfl ?_
              show Steps p.tables e below (T92.setTop (mkF m 135 #[.val (.int p0), .val (.int p1), .val (.int p2), .val (.int p3), .val (.int p4), .val (.int p5), .val (.int ((p0 &&& (2147483647 : Int32)) % (6 : Int32))), .val (.ref b1), .val (.ref r67), .unset] [(.ref b1)])) _
              refine st103.trans ?_
              show Steps p.tables e below (T103.setTop (mkF m 138 #[.val (.int p0), .val (.int p1), .val (.int p2), .val (.int p3), .val (.int p4), .val (.int p5), .val (.int ((p0 &&& (2147483647 : Int32)) % (6 : Int32))), .val (.ref b1), .val (.ref r67), .unset] [(.ref r105)])) _
              refine XS.astore X103.here hx rfl (hb hby at_138) rfl rfl (l' := #[.val (.int p0), .val (.int p1), .val (.int p2), .val (.int p3), .val (.int p4), .val (.int p5), .val (.int ((p0 &&& (2147483647 : Int32)) % (6 : Int32))), .val (.ref b1), .val (.ref r67), .val (.ref r105)]) rfl ?_
              show Steps p.tables e below (T103.setTop (mkF m 140 #[.val (.int p0), .val (.int p1), .val (.int p2), .val (.int p3), .val (.int p4), .val (.int p5), .val (.int ((p0 &&& (2147483647 : Int32)) % (6 : Int32))), .val (.ref b1), .val (.ref r67), .val (.ref r105)] [])) _
              refine XS.aload X103.here hx rfl (hb hby at_140) rfl rfl ?_
              show Steps p.tables e below (T103.setTop (mkF m 142 #[.val (.int p0), .val (.int p1), .val (.int p2), .val (.int p3), .val (.int p4), .val (.int p5), .val (.int ((p0 &&& (2147483647 : Int32)) % (6 : Int32))), .val (.ref b1), .val (.ref r67), .val (.ref r105)] [(.ref r105)])) _
              refine XS.iload X103.here hx rfl (hb hby at_142) rfl ?_
              show Steps p.tables e below (T103.setTop (mkF m 144 #[.val (.int p0), .val (.int p1), .val (.int p2), .val (.int p3), .val (.int p4), .val (.int p5), .val (.int ((p0 &&& (2147483647 : Int32)) % (6 : Int32))), .val (.ref b1), .val (.ref r67), .val (.ref r105)] [(.int ((p0 &&& (2147483647 : Int32)) % (6 : Int32))), (.ref r105)])) _
              refine XS.iloadN X103.here hx rfl (hb hby at_144) rfl ?_
              show Steps p.tables e below (T103.setTop (mkF m 145 #[.val (.int p0), .val (.int p1), .val (.int p2), .val (.int p3), .val (.int p4), .val (.int p5), .val (.int ((p0 &&& (2147483647 : Int32)) % (6 : Int32))), .val (.ref b1), .val (.ref r67), .val (.ref r105)] [(.int p1), (.int ((p0 &&& (2147483647 : Int32)) % (6 : Int32))), (.ref r105)])) _
              refine XS.iloadN X103.here hx rfl (hb hby at_145) rfl ?_
              show Steps p.tables e below (T103.setTop (mkF m 146 #[.val (.int p0), .val (.int p1), .val (.int p2), .val (.int p3), .val (.int p4), .val (.int p5), .val (.int ((p0 &&& (2147483647 : Int32)) % (6 : Int32))), .val (.ref b1), .val (.ref r67), .val (.ref r105)] [(.int p2), (.int p1), (.int ((p0 &&& (2147483647 : Int32)) % (6 : Int32))), (.ref r105)])) _
              refine XS.iloadN X103.here hx rfl (hb hby at_146) rfl ?_
              show Steps p.tables e below (T103.setTop (mkF m 147 #[.val (.int p0), .val (.int p1), .val (.int p2), .val (.int p3), .val (.int p4), .val (.int p5), .val (.int ((p0 &&& (2147483647 : Int32)) % (6 : Int32))), .val (.ref b1), .val (.ref r67), .val (.ref r105)] [(.int p3), (.int p2), (.int p1), (.int ((p0 &&& (2147483647 : Int32)) % (6 : Int32))), (.ref r105)])) _
              refine XS.iload X103.here hx rfl (hb hby at_147) rfl ?_
              show Steps p.tables e below (T103.setTop (mkF m 149 #[.val (.int p0), .val (.int p1), .val (.int p2), .val (.int p3), .val (.int p4), .val (.int p5), .val (.int ((p0 &&& (2147483647 : Int32)) % (6 : Int32))), .val (.ref b1), .val (.ref r67), .val (.ref r105)] [(.int p4), (.int p3), (.int p2), (.int p1), (.int ((p0 &&& (2147483647 : Int32)) % (6 : Int32))), (.ref r105)])) _
              refine XS.iload X103.here hx rfl (hb hby at_149) rfl ?_
              show Steps p.tables e below (T103.setTop (mkF m 151 #[.val (.int p0), .val (.int p1), .val (.int p2), .val (.int p3), .val (.int p4), .val (.int p5), .val (.int ((p0 &&& (2147483647 : Int32)) % (6 : Int32))), .val (.ref b1), .val (.ref r67), .val (.ref r105)] [(.int p5), (.int p4), (.int p3), (.int p2), (.int p1), (.int ((p0 &&& (2147483647 : Int32)) % (6 : Int32))), (.ref r105)])) _
              refine st115 _ ?_
              exact kt
            obtain ⟨fs, hr, hrun, hended, hW, hsame⟩ := X115.leave (v := some (.int (1 : Int32))) (fun h => by rw [Bd.returns] at h; cases h)
            refine ⟨_, _, pre118 _ ?_, hrun, hended, _, _, rfl, ?_, ⟨_, rfl⟩, hW, hsame.mono (by decide) (by decide)⟩
            · show Steps p.tables e below (T115.setTop (mkF m 154 #[.val (.int p0), .val (.int p1), .val (.int p2), .val (.int p3), .val (.int p4), .val (.int p5), .val (.int ((p0 &&& (2147483647 : Int32)) % (6 : Int32))), .val (.ref b1), .val (.ref r67), .val (.ref r105)] [(.int (1 : Int32))])) _
              exact retN X115 hx (t := .boolean) Bd.returns (by simp) (hb hby at_154) hr
            · show own_Q_law Z p0 p1 p2 p3 p4 p5 h0 n0 (some (.int (1 : Int32))) T115.heap _
              rw [eq116]
              exact ⟨rfl, nf117⟩
          · have zs119 : n0 ≤ T47.heap.size := Nat.le_trans Z0 k52.1
            obtain ⟨cq121, kq121, q121a, q121b, q121c⟩ := isOf hZ rfl f50
            obtain ⟨_, _, ⟨T120, L120, k120, n120⟩, -, X120, ⟨Lc120, hQ120, l120, y120, z120⟩, st120⟩ := X47.virtualBack hx (y := (⟨"com/example/interleaving/interleaving/store/StateGraph", "initialStates", "()[I"⟩ : MethodName)) (z := (⟨"com/example/interleaving/interleaving/store/StateGraph", "initialStates", "()[I"⟩ : MethodName)) hown (mvT hZ (hw _ (List.mem_of_getElem? (i := 19) rfl))) (mvT hZ (hw _ (List.mem_of_getElem? (i := 20) rfl))) (notFace_of_selects (args := #[]) (mvT hZ (hw _ (List.mem_of_getElem? (i := 22) rfl)))) (mvT hZ (hw _ (List.mem_of_getElem? (i := 22) rfl))) (mvT hZ (hw _ (List.mem_of_getElem? (i := 21) rfl))) (by decide) (backOf (W := 0) (own_rm_ist l Z a0 hw [] b1 bx10 4 16 (own_upd (own_upd (own_upd (own_upd (fun _ => 0) 0 p1) 1 p2) 2 p3) 3 p4) T47.heap n0 zs119 c49_0 c49_1 c49_2 (by decide) (by decide) (by decide)) hZ (hw _ (List.mem_of_getElem? (i := 23) rfl)) (hw _ (List.mem_of_getElem? (i := 3) rfl)) (by decide) (by decide)) q121a q121c (g := (mkF m 81 #[.val (.int p0), .val (.int p1), .val (.int p2), .val (.int p3), .val (.int p4), .val (.int p5), .val (.int ((p0 &&& (2147483647 : Int32)) % (6 : Int32))), .val (.ref b1), .unset, .unset] [(.ref b1)])) rfl (by rw [hml]; rfl) (Steps.refl _) (argsL := []) (rest := []) (lenOf own_pd4 rfl) rfl (by show 2 * 0 + _ ≤ _; exact Nat.le_of_eq rfl) (hb hby at_81) (fun _ _ => ⟨rfl, rfl, (by decide : 4 + 1 ≤ _), (by decide : 2072 + 32 ≤ _)⟩)
            dsimp only [Pt.U, Pt.locs, Pt.cells, Pt.slots] at X120 l120 y120 z120 st120 hQ120
            subst l120 y120 z120
            obtain ⟨r122, rfl, N122, K122, c122_0, c122_1⟩ := hQ120
            have sz_r122 : h0.size ≤ r122 := Nat.le_trans k52.1 c122_0
            have gn_r122 : n0 ≤ r122 := Nat.le_trans Z0 sz_r122
            have ne_b1_r122 : b1 ≠ r122 := Nat.ne_of_lt (Nat.lt_of_lt_of_le c49_1.lt c122_0)
            have ne_bx10_r122 : bx10 ≠ r122 := Nat.ne_of_lt (Nat.lt_of_lt_of_le c49_2.lt c122_0)
            have f123 := f50.keep K122
            have f124 := f51.keep K122
            have f125 := c49_0.keep K122 nin0
            have f126 := c49_1.keep K122 nin0
            have f127 := c49_2.keep K122 nin0
            have k128 := k52.trans K122 all0
            have nf129 := Fr.app nf53 N122
            have zs130 : n0 ≤ T120.heap.size := Nat.le_trans Z0 k128.1
            obtain ⟨_, _, ⟨T131, L131, k131, n131⟩, -, X131, ⟨Lc131, hQ131, l131, y131, z131⟩, st131⟩ := Jvm.LawKit.callS X120 hx (y := (⟨"com/example/interleaving/interleaving/store/StateGraphInitialStatesPinLaw", "matches", "([IIIIIII)Z"⟩ : MethodName)) hown (mvT hZ (hw _ (List.mem_of_getElem? (i := 38) rfl))) (mvT hZ (hw _ (List.mem_of_getElem? (i := 39) rfl))) (mvT hZ (hw _ (List.mem_of_getElem? (i := 40) rfl))) (mvT hZ (hw _ (List.mem_of_getElem? (i := 41) rfl))) (by decide) (backOf (W := 0) (own_rm_mt l Z a0 hw [] r122 ((p0 &&& (2147483647 : Int32)) % (6 : Int32)) p1 p2 p3 p4 p5 4 (own_upd (own_upd (own_upd (own_upd (fun _ => 0) 0 p1) 1 p2) 2 p3) 3 p4) T120.heap n0 zs130 c122_1 (own_kN 3 (by decide) hc45 (own_le 3 (by decide) hc55)) (by decide) (fun j hj => by rcases j with _ | _ | _ | _ | j <;> first | rfl | omega)) hZ (hw _ (List.mem_of_getElem? (i := 41) rfl)) (hw _ (List.mem_of_getElem? (i := 40) rfl)) (by decide) (by decide)) (g := (mkF m 97 #[.val (.int p0), .val (.int p1), .val (.int p2), .val (.int p3), .val (.int p4), .val (.int p5), .val (.int ((p0 &&& (2147483647 : Int32)) % (6 : Int32))), .val (.ref b1), .val (.ref r122), .unset] [(.int p5), (.int p4), (.int p3), (.int p2), (.int p1), (.int ((p0 &&& (2147483647 : Int32)) % (6 : Int32))), (.ref r122)])) rfl (by rw [hml]; rfl) (argsL := [(.ref r122), (.int ((p0 &&& (2147483647 : Int32)) % (6 : Int32))), (.int p1), (.int p2), (.int p3), (.int p4), (.int p5)]) (rest := []) (lenOf own_pd5 rfl) rfl (by show 2 * 0 + _ ≤ _; exact Nat.le_of_eq rfl) (hb hby at_97) (fun _ _ => ⟨rfl, rfl, (by decide : 5 + 0 ≤ _), (by decide : 2104 + 0 ≤ _)⟩)
            dsimp only [Pt.U, Pt.locs, Pt.cells, Pt.slots] at X131 l131 y131 z131 st131 hQ131
            subst l131 y131 z131
            obtain ⟨rfl, N132, eq132⟩ := hQ131
            have nf133 := Fr.app nf129 N132
            obtain ⟨cl134, Ar134, S134, H134⟩ := id c122_1
            have hin134 : ¬ ((0 : Int32) < 0 ∨ cl134.slots.size ≤ ((0 : Int32)).toNatClampNeg) := own_inb S134 (by decide) (by decide)
            obtain ⟨T135, h135, X135, e135, W135, st135⟩ := stI X131 hx hZ eq132 Ar134 (j := (0 : Int32)) hin134 (g := (mkF m 116 #[.val (.int p0), .val (.int p1), .val (.int p2), .val (.int p3), .val (.int p4), .val (.int p5), .val (.int ((p0 &&& (2147483647 : Int32)) % (6 : Int32))), .val (.ref b1), .val (.ref r122), .unset] [(.int (p1 ^^^ (1 : Int32))), (.int (0 : Int32)), (.ref r122)])) rfl rfl (hb hby at_116)
            have f136 := f123.wr W135
            have f137 := f124.wr W135
            have f138 := f125.other W135 (Or.inl ne_b1_r122)
            have f139 := f126.other W135 (Or.inl ne_b1_r122)
            have f140 := f127.other W135 ne_bx10_r122
            have k142 := k128.wr W135 (Or.inr sz_r122)
            have nf143 := Fr.snoc X135 nf133 gn_r122
            have f144 := c122_1.set W135
            obtain ⟨cl145, Ar145, S145, H145⟩ := id f144
            have hin145 : ¬ ((((p0 &&& (2147483647 : Int32)) % (6 : Int32)) - (1 : Int32)) < 0 ∨ cl145.slots.size ≤ ((((p0 &&& (2147483647 : Int32)) % (6 : Int32)) - (1 : Int32))).toNatClampNeg) := own_inb S145 (by rw [(own_kN 3 (by decide) hc45 (own_le 3 (by decide) hc55))]; decide) (by rw [(own_kN 3 (by decide) hc45 (own_le 3 (by decide) hc55))]; decide)
            have hat145 : cl145.slots[((((p0 &&& (2147483647 : Int32)) % (6 : Int32)) - (1 : Int32))).toNatClampNeg]? = some (.int ((own_upd (own_upd (own_upd (own_upd (own_upd (fun _ => 0) 0 p1) 1 p2) 2 p3) 3 p4) ((0 : Int32)).toNatClampNeg (p1 ^^^ (1 : Int32))) ((((p0 &&& (2147483647 : Int32)) % (6 : Int32)) - (1 : Int32))).toNatClampNeg)) := H145 _ (by rw [(own_kN 3 (by decide) hc45 (own_le 3 (by decide) hc55))]; decide)
            obtain ⟨cl146, Ar146, S146, H146⟩ := id f144
            have hin146 : ¬ ((((p0 &&& (2147483647 : Int32)) % (6 : Int32)) - (1 : Int32)) < 0 ∨ cl146.slots.size ≤ ((((p0 &&& (2147483647 : Int32)) % (6 : Int32)) - (1 : Int32))).toNatClampNeg) := own_inb S146 (by rw [(own_kN 3 (by decide) hc45 (own_le 3 (by decide) hc55))]; decide) (by rw [(own_kN 3 (by decide) hc45 (own_le 3 (by decide) hc55))]; decide)
            obtain ⟨T147, h147, X147, e147, W147, st147⟩ := stI X135 hx hZ e135 Ar146 (j := (((p0 &&& (2147483647 : Int32)) % (6 : Int32)) - (1 : Int32))) hin146 (g := (mkF m 132 #[.val (.int p0), .val (.int p1), .val (.int p2), .val (.int p3), .val (.int p4), .val (.int p5), .val (.int ((p0 &&& (2147483647 : Int32)) % (6 : Int32))), .val (.ref b1), .val (.ref r122), .unset] [(.int (((own_upd (own_upd (own_upd (own_upd (own_upd (fun _ => 0) 0 p1) 1 p2) 2 p3) 3 p4) ((0 : Int32)).toNatClampNeg (p1 ^^^ (1 : Int32))) ((((p0 &&& (2147483647 : Int32)) % (6 : Int32)) - (1 : Int32))).toNatClampNeg) ^^^ (2 : Int32))), (.int (((p0 &&& (2147483647 : Int32)) % (6 : Int32)) - (1 : Int32))), (.ref r122)])) rfl rfl (hb hby at_132)
            have f148 := f136.wr W147
            have f149 := f137.wr W147
            have f150 := f138.other W147 (Or.inl ne_b1_r122)
            have f151 := f139.other W147 (Or.inl ne_b1_r122)
            have f152 := f140.other W147 ne_bx10_r122
            have k154 := k142.wr W147 (Or.inr sz_r122)
            have nf155 := Fr.snoc X147 nf143 gn_r122
            have f156 := f144.set W147
            have zs157 : n0 ≤ h147.size := Nat.le_trans Z0 k154.1
            obtain ⟨cq159, kq159, q159a, q159b, q159c⟩ := isOf hZ e147 f148
            obtain ⟨_, _, ⟨T158, L158, k158, n158⟩, -, X158, ⟨Lc158, hQ158, l158, y158, z158⟩, st158⟩ := X147.virtualBack hx (y := (⟨"com/example/interleaving/interleaving/store/StateGraph", "initialStates", "()[I"⟩ : MethodName)) (z := (⟨"com/example/interleaving/interleaving/store/StateGraph", "initialStates", "()[I"⟩ : MethodName)) hown (mvT hZ (hw _ (List.mem_of_getElem? (i := 19) rfl))) (mvT hZ (hw _ (List.mem_of_getElem? (i := 20) rfl))) (notFace_of_selects (args := #[]) (mvT hZ (hw _ (List.mem_of_getElem? (i := 22) rfl)))) (mvT hZ (hw _ (List.mem_of_getElem? (i := 22) rfl))) (mvT hZ (hw _ (List.mem_of_getElem? (i := 21) rfl))) (by decide) (backOf (W := 0) (own_rm_ist l Z a0 hw [] b1 bx10 4 16 (own_upd (own_upd (own_upd (own_upd (fun _ => 0) 0 p1) 1 p2) 2 p3) 3 p4) h147 n0 zs157 f150 f151 f152 (by decide) (by decide) (by decide)) hZ (hw _ (List.mem_of_getElem? (i := 23) rfl)) (hw _ (List.mem_of_getElem? (i := 3) rfl)) (by decide) (by decide)) q159a q159c (g := (mkF m 135 #[.val (.int p0), .val (.int p1), .val (.int p2), .val (.int p3), .val (.int p4), .val (.int p5), .val (.int ((p0 &&& (2147483647 : Int32)) % (6 : Int32))), .val (.ref b1), .val (.ref r122), .unset] [(.ref b1)])) rfl (by rw [hml]; rfl) (Steps.refl _) (argsL := []) (rest := []) (lenOf own_pd4 rfl) rfl (by show 2 * 0 + _ ≤ _; exact Nat.le_of_eq rfl) (hb hby at_135) (fun _ _ => ⟨rfl, e147, (by decide : 5 + 1 ≤ _), (by decide : 2104 + 32 ≤ _)⟩)
            dsimp only [Pt.U, Pt.locs, Pt.cells, Pt.slots] at X158 l158 y158 z158 st158 hQ158
            subst l158 y158 z158
            obtain ⟨r160, rfl, N160, K160, c160_0, c160_1⟩ := hQ158
            have sz_r160 : h0.size ≤ r160 := Nat.le_trans k154.1 c160_0
            have gn_r160 : n0 ≤ r160 := Nat.le_trans Z0 sz_r160
            have ne_b1_r160 : b1 ≠ r160 := Nat.ne_of_lt (Nat.lt_of_lt_of_le f151.lt c160_0)
            have ne_bx10_r160 : bx10 ≠ r160 := Nat.ne_of_lt (Nat.lt_of_lt_of_le f152.lt c160_0)
            have ne_r122_r160 : r122 ≠ r160 := Nat.ne_of_lt (Nat.lt_of_lt_of_le f156.lt c160_0)
            have f161 := f148.keep K160
            have f162 := f149.keep K160
            have f163 := f150.keep K160 nin0
            have f164 := f151.keep K160 nin0
            have f165 := f152.keep K160 nin0
            have f166 := f156.keep K160 nin0
            have k167 := k154.trans K160 all0
            have nf168 := Fr.app nf155 N160
            have zs169 : n0 ≤ T158.heap.size := Nat.le_trans Z0 k167.1
            obtain ⟨_, _, ⟨T170, L170, k170, n170⟩, -, X170, ⟨Lc170, hQ170, l170, y170, z170⟩, st170⟩ := Jvm.LawKit.callS X158 hx (y := (⟨"com/example/interleaving/interleaving/store/StateGraphInitialStatesPinLaw", "matches", "([IIIIIII)Z"⟩ : MethodName)) hown (mvT hZ (hw _ (List.mem_of_getElem? (i := 38) rfl))) (mvT hZ (hw _ (List.mem_of_getElem? (i := 39) rfl))) (mvT hZ (hw _ (List.mem_of_getElem? (i := 40) rfl))) (mvT hZ (hw _ (List.mem_of_getElem? (i := 41) rfl))) (by decide) (backOf (W := 0) (own_rm_mt l Z a0 hw [] r160 ((p0 &&& (2147483647 : Int32)) % (6 : Int32)) p1 p2 p3 p4 p5 4 (own_upd (own_upd (own_upd (own_upd (fun _ => 0) 0 p1) 1 p2) 2 p3) 3 p4) T158.heap n0 zs169 c160_1 (own_kN 3 (by decide) hc45 (own_le 3 (by decide) hc55)) (by decide) (fun j hj => by rcases j with _ | _ | _ | _ | j <;> first | rfl | omega)) hZ (hw _ (List.mem_of_getElem? (i := 41) rfl)) (hw _ (List.mem_of_getElem? (i := 40) rfl)) (by decide) (by decide)) (g := (mkF m 151 #[.val (.int p0), .val (.int p1), .val (.int p2), .val (.int p3), .val (.int p4), .val (.int p5), .val (.int ((p0 &&& (2147483647 : Int32)) % (6 : Int32))), .val (.ref b1), .val (.ref r122), .val (.ref r160)] [(.int p5), (.int p4), (.int p3), (.int p2), (.int p1), (.int ((p0 &&& (2147483647 : Int32)) % (6 : Int32))), (.ref r160)])) rfl (by rw [hml]; rfl) (argsL := [(.ref r160), (.int ((p0 &&& (2147483647 : Int32)) % (6 : Int32))), (.int p1), (.int p2), (.int p3), (.int p4), (.int p5)]) (rest := []) (lenOf own_pd5 rfl) rfl (by show 2 * 0 + _ ≤ _; exact Nat.le_of_eq rfl) (hb hby at_151) (fun _ _ => ⟨rfl, rfl, (by decide : 6 + 0 ≤ _), (by decide : 2136 + 0 ≤ _)⟩)
            dsimp only [Pt.U, Pt.locs, Pt.cells, Pt.slots] at X170 l170 y170 z170 st170 hQ170
            subst l170 y170 z170
            obtain ⟨rfl, N171, eq171⟩ := hQ170
            have nf172 := Fr.app nf168 N171
            have pre173 : ∀ t, Steps p.tables e below (T170.setTop (mkF m 154 #[.val (.int p0), .val (.int p1), .val (.int p2), .val (.int p3), .val (.int p4), .val (.int p5), .val (.int ((p0 &&& (2147483647 : Int32)) % (6 : Int32))), .val (.ref b1), .val (.ref r122), .val (.ref r160)] [(.int (1 : Int32))])) t → Steps p.tables e below (s₁.setTop (entryFrame m #[(.int p0), (.int p1), (.int p2), (.int p3), (.int p4), (.int p5)] maxLocals)) t := by
              intro t kt
              refine pre54 t ?_
              show Steps p.tables e below (T47.setTop (mkF m 69 #[.val (.int p0), .val (.int p1), .val (.int p2), .val (.int p3), .val (.int p4), .val (.int p5), .val (.int ((p0 &&& (2147483647 : Int32)) % (6 : Int32))), .val (.ref b1), .unset, .unset] [(.int (4 : Int32)), (.int ((p0 &&& (2147483647 : Int32)) % (6 : Int32)))])) _
              refine XS.icmpYes X47.here hx rfl (pc0 := 69) (pc' := 79) rfl (hb hby at_69) rfl (flt hc55).2.2.2 (by decide) (by decide) ?_
              show Steps p.tables e below (T47.setTop (mkF m 79 #[.val (.int p0), .val (.int p1), .val (.int p2), .val (.int p3), .val (.int p4), .val (.int p5), .val (.int ((p0 &&& (2147483647 : Int32)) % (6 : Int32))), .val (.ref b1), .unset, .unset] [])) _
              refine XS.aload X47.here hx rfl (hb hby at_79) rfl rfl ?_
              show Steps p.tables e below (T47.setTop (mkF m 81 #[.val (.int p0), .val (.int p1), .val (.int p2), .val (.int p3), .val (.int p4), .val (.int p5), .val (.int ((p0 &&& (2147483647 : Int32)) % (6 : Int32))), .val (.ref b1), .unset, .unset] [(.ref b1)])) _
              refine st120.trans ?_
              show Steps p.tables e below (T120.setTop (mkF m 84 #[.val (.int p0), .val (.int p1), .val (.int p2), .val (.int p3), .val (.int p4), .val (.int p5), .val (.int ((p0 &&& (2147483647 : Int32)) % (6 : Int32))), .val (.ref b1), .unset, .unset] [(.ref r122)])) _
              refine XS.astore X120.here hx rfl (hb hby at_84) rfl rfl (l' := #[.val (.int p0), .val (.int p1), .val (.int p2), .val (.int p3), .val (.int p4), .val (.int p5), .val (.int ((p0 &&& (2147483647 : Int32)) % (6 : Int32))), .val (.ref b1), .val (.ref r122), .unset]) rfl ?_
              show Steps p.tables e below (T120.setTop (mkF m 86 #[.val (.int p0), .val (.int p1), .val (.int p2), .val (.int p3), .val (.int p4), .val (.int p5), .val (.int ((p0 &&& (2147483647 : Int32)) % (6 : Int32))), .val (.ref b1), .val (.ref r122), .unset] [])) _
              refine XS.aload X120.here hx rfl (hb hby at_86) rfl rfl ?_
              show Steps p.tables e below (T120.setTop (mkF m 88 #[.val (.int p0), .val (.int p1), .val (.int p2), .val (.int p3), .val (.int p4), .val (.int p5), .val (.int ((p0 &&& (2147483647 : Int32)) % (6 : Int32))), .val (.ref b1), .val (.ref r122), .unset] [(.ref r122)])) _
              refine XS.iload X120.here hx rfl (hb hby at_88) rfl ?_
              show Steps p.tables e below (T120.setTop (mkF m 90 #[.val (.int p0), .val (.int p1), .val (.int p2), .val (.int p3), .val (.int p4), .val (.int p5), .val (.int ((p0 &&& (2147483647 : Int32)) % (6 : Int32))), .val (.ref b1), .val (.ref r122), .unset] [(.int ((p0 &&& (2147483647 : Int32)) % (6 : Int32))), (.ref r122)])) _
              refine XS.iloadN X120.here hx rfl (hb hby at_90) rfl ?_
              show Steps p.tables e below (T120.setTop (mkF m 91 #[.val (.int p0), .val (.int p1), .val (.int p2), .val (.int p3), .val (.int p4), .val (.int p5), .val (.int ((p0 &&& (2147483647 : Int32)) % (6 : Int32))), .val (.ref b1), .val (.ref r122), .unset] [(.int p1), (.int ((p0 &&& (2147483647 : Int32)) % (6 : Int32))), (.ref r122)])) _
              refine XS.iloadN X120.here hx rfl (hb hby at_91) rfl ?_
              show Steps p.tables e below (T120.setTop (mkF m 92 #[.val (.int p0), .val (.int p1), .val (.int p2), .val (.int p3), .val (.int p4), .val (.int p5), .val (.int ((p0 &&& (2147483647 : Int32)) % (6 : Int32))), .val (.ref b1), .val (.ref r122), .unset] [(.int p2), (.int p1), (.int ((p0 &&& (2147483647 : Int32)) % (6 : Int32))), (.ref r122)])) _
              refine XS.iloadN X120.here hx rfl (hb hby at_92) rfl ?_
              show Steps p.tables e below (T120.setTop (mkF m 93 #[.val (.int p0), .val (.int p1), .val (.int p2), .val (.int p3), .val (.int p4), .val (.int p5), .val (.int ((p0 &&& (2147483647 : Int32)) % (6 : Int32))), .val (.ref b1), .val (.ref r122), .unset] [(.int p3), (.int p2), (.int p1), (.int ((p0 &&& (2147483647 : Int32)) % (6 : Int32))), (.ref r122)])) _
              refine XS.iload X120.here hx rfl (hb hby at_93) rfl ?_
              show Steps p.tables e below (T120.setTop (mkF m 95 #[.val (.int p0), .val (.int p1), .val (.int p2), .val (.int p3), .val (.int p4), .val (.int p5), .val (.int ((p0 &&& (2147483647 : Int32)) % (6 : Int32))), .val (.ref b1), .val (.ref r122), .unset] [(.int p4), (.int p3), (.int p2), (.int p1), (.int ((p0 &&& (2147483647 : Int32)) % (6 : Int32))), (.ref r122)])) _
              refine XS.iload X120.here hx rfl (hb hby at_95) rfl ?_
              show Steps p.tables e below (T120.setTop (mkF m 97 #[.val (.int p0), .val (.int p1), .val (.int p2), .val (.int p3), .val (.int p4), .val (.int p5), .val (.int ((p0 &&& (2147483647 : Int32)) % (6 : Int32))), .val (.ref b1), .val (.ref r122), .unset] [(.int p5), (.int p4), (.int p3), (.int p2), (.int p1), (.int ((p0 &&& (2147483647 : Int32)) % (6 : Int32))), (.ref r122)])) _
              refine st131 _ ?_
              show Steps p.tables e below (T131.setTop (mkF m 100 #[.val (.int p0), .val (.int p1), .val (.int p2), .val (.int p3), .val (.int p4), .val (.int p5), .val (.int ((p0 &&& (2147483647 : Int32)) % (6 : Int32))), .val (.ref b1), .val (.ref r122), .unset] [(.int (1 : Int32))])) _
              refine XS.ifYes X131.here hx rfl (pc0 := 100) (pc' := 105) rfl (hb hby at_100) rfl ((if0 _ _).trans (feq (by decide : ¬ ((1 : Int32) = (0 : Int32)))).2) (by decide) (by decide) ?_
              show Steps p.tables e below (T131.setTop (mkF m 105 #[.val (.int p0), .val (.int p1), .val (.int p2), .val (.int p3), .val (.int p4), .val (.int p5), .val (.int ((p0 &&& (2147483647 : Int32)) % (6 : Int32))), .val (.ref b1), .val (.ref r122), .unset] [])) _
              refine XS.iload X131.here hx rfl (hb hby at_105) rfl ?_
              show Steps p.tables e below (T131.setTop (mkF m 107 #[.val (.int p0), .val (.int p1), .val (.int p2), .val (.int p3), .val (.int p4), .val (.int p5), .val (.int ((p0 &&& (2147483647 : Int32)) % (6 : Int32))), .val (.ref b1), .val (.ref r122), .unset] [(.int ((p0 &&& (2147483647 : Int32)) % (6 : Int32)))])) _
              refine XS.ifNo X131.here hx rfl (hb hby at_107) rfl ((if0 _ _).trans (tlt hc15).2.2.2) ?_
              show Steps p.tables e below (T131.setTop (mkF m 110 #[.val (.int p0), .val (.int p1), .val (.int p2), .val (.int p3), .val (.int p4), .val (.int p5), .val (.int ((p0 &&& (2147483647 : Int32)) % (6 : Int32))), .val (.ref b1), .val (.ref r122), .unset] [])) _
              refine XS.aload X131.here hx rfl (hb hby at_110) rfl rfl ?_
              show Steps p.tables e below (T131.setTop (mkF m 112 #[.val (.int p0), .val (.int p1), .val (.int p2), .val (.int p3), .val (.int p4), .val (.int p5), .val (.int ((p0 &&& (2147483647 : Int32)) % (6 : Int32))), .val (.ref b1), .val (.ref r122), .unset] [(.ref r122)])) _
              refine XS.iconst X131.here hx rfl (hb hby at_112) ?_
              show Steps p.tables e below (T131.setTop (mkF m 113 #[.val (.int p0), .val (.int p1), .val (.int p2), .val (.int p3), .val (.int p4), .val (.int p5), .val (.int ((p0 &&& (2147483647 : Int32)) % (6 : Int32))), .val (.ref b1), .val (.ref r122), .unset] [(.int (0 : Int32)), (.ref r122)])) _
              refine XS.iloadN X131.here hx rfl (hb hby at_113) rfl ?_
              show Steps p.tables e below (T131.setTop (mkF m 114 #[.val (.int p0), .val (.int p1), .val (.int p2), .val (.int p3), .val (.int p4), .val (.int p5), .val (.int ((p0 &&& (2147483647 : Int32)) % (6 : Int32))), .val (.ref b1), .val (.ref r122), .unset] [(.int p1), (.int (0 : Int32)), (.ref r122)])) _
              refine XS.iconst X131.here hx rfl (hb hby at_114) ?_
              show Steps p.tables e below (T131.setTop (mkF m 115 #[.val (.int p0), .val (.int p1), .val (.int p2), .val (.int p3), .val (.int p4), .val (.int p5), .val (.int ((p0 &&& (2147483647 : Int32)) % (6 : Int32))), .val (.ref b1), .val (.ref r122), .unset] [(.int (1 : Int32)), (.int p1), (.int (0 : Int32)), (.ref r122)])) _
              refine XS.ixor X131.here hx rfl (hb hby at_115) rfl ?_
              show Steps p.tables e below (T131.setTop (mkF m 116 #[.val (.int p0), .val (.int p1), .val (.int p2), .val (.int p3), .val (.int p4), .val (.int p5), .val (.int ((p0 &&& (2147483647 : Int32)) % (6 : Int32))), .val (.ref b1), .val (.ref r122), .unset] [(.int (p1 ^^^ (1 : Int32))), (.int (0 : Int32)), (.ref r122)])) _
              refine st135 _ ?_
              show Steps p.tables e below (T135.setTop (mkF m 117 #[.val (.int p0), .val (.int p1), .val (.int p2), .val (.int p3), .val (.int p4), .val (.int p5), .val (.int ((p0 &&& (2147483647 : Int32)) % (6 : Int32))), .val (.ref b1), .val (.ref r122), .unset] [])) _
              refine XS.aload X135.here hx rfl (hb hby at_117) rfl rfl ?_
              show Steps p.tables e below (T135.setTop (mkF m 119 #[.val (.int p0), .val (.int p1), .val (.int p2), .val (.int p3), .val (.int p4), .val (.int p5), .val (.int ((p0 &&& (2147483647 : Int32)) % (6 : Int32))), .val (.ref b1), .val (.ref r122), .unset] [(.ref r122)])) _
              refine XS.iload X135.here hx rfl (hb hby at_119) rfl ?_
              show Steps p.tables e below (T135.setTop (mkF m 121 #[.val (.int p0), .val (.int p1), .val (.int p2), .val (.int p3), .val (.int p4), .val (.int p5), .val (.int ((p0 &&& (2147483647 : Int32)) % (6 : Int32))), .val (.ref b1), .val (.ref r122), .unset] [(.int ((p0 &&& (2147483647 : Int32)) % (6 : Int32))), (.ref r122)])) _
              refine XS.iconst X135.here hx rfl (hb hby at_121) ?_
              show Steps p.tables e below (T135.setTop (mkF m 122 #[.val (.int p0), .val (.int p1), .val (.int p2), .val (.int p3), .val (.int p4), .val (.int p5), .val (.int ((p0 &&& (2147483647 : Int32)) % (6 : Int32))), .val (.ref b1), .val (.ref r122), .unset] [(.int (1 : Int32)), (.int ((p0 &&& (2147483647 : Int32)) % (6 : Int32))), (.ref r122)])) _
              refine XS.isub X135.here hx rfl (hb hby at_122) rfl ?_
              show Steps p.tables e below (T135.setTop (mkF m 123 #[.val (.int p0), .val (.int p1), .val (.int p2), .val (.int p3), .val (.int p4), .val (.int p5), .val (.int ((p0 &&& (2147483647 : Int32)) % (6 : Int32))), .val (.ref b1), .val (.ref r122), .unset] [(.int (((p0 &&& (2147483647 : Int32)) % (6 : Int32)) - (1 : Int32))), (.ref r122)])) _
              refine XS.aload X135.here hx rfl (hb hby at_123) rfl rfl ?_
              show Steps p.tables e below (T135.setTop (mkF m 125 #[.val (.int p0), .val (.int p1), .val (.int p2), .val (.int p3), .val (.int p4), .val (.int p5), .val (.int ((p0 &&& (2147483647 : Int32)) % (6 : Int32))), .val (.ref b1), .val (.ref r122), .unset] [(.ref r122), (.int (((p0 &&& (2147483647 : Int32)) % (6 : Int32)) - (1 : Int32))), (.ref r122)])) _
              refine XS.iload X135.here hx rfl (hb hby at_125) rfl ?_
              show Steps p.tables e below (T135.setTop (mkF m 127 #[.val (.int p0), .val (.int p1), .val (.int p2), .val (.int p3), .val (.int p4), .val (.int p5), .val (.int ((p0 &&& (2147483647 : Int32)) % (6 : Int32))), .val (.ref b1), .val (.ref r122), .unset] [(.int ((p0 &&& (2147483647 : Int32)) % (6 : Int32))), (.ref r122), (.int (((p0 &&& (2147483647 : Int32)) % (6 : Int32)) - (1 : Int32))), (.ref r122)])) _
              refine XS.iconst X135.here hx rfl (hb hby at_127) ?_
              show Steps p.tables e below (T135.setTop (mkF m 128 #[.val (.int p0), .val (.int p1), .val (.int p2), .val (.int p3), .val (.int p4), .val (.int p5), .val (.int ((p0 &&& (2147483647 : Int32)) % (6 : Int32))), .val (.ref b1), .val (.ref r122), .unset] [(.int (1 : Int32)), (.int ((p0 &&& (2147483647 : Int32)) % (6 : Int32))), (.ref r122), (.int (((p0 &&& (2147483647 : Int32)) % (6 : Int32)) - (1 : Int32))), (.ref r122)])) _
              refine XS.isub X135.here hx rfl (hb hby at_128) rfl ?_
              show Steps p.tables e below (T135.setTop (mkF m 129 #[.val (.int p0), .val (.int p1), .val (.int p2), .val (.int p3), .val (.int p4), .val (.int p5), .val (.int ((p0 &&& (2147483647 : Int32)) % (6 : Int32))), .val (.ref b1), .val (.ref r122), .unset] [(.int (((p0 &&& (2147483647 : Int32)) % (6 : Int32)) - (1 : Int32))), (.ref r122), (.int (((p0 &&& (2147483647 : Int32)) % (6 : Int32)) - (1 : Int32))), (.ref r122)])) _
              refine X135.iaload hx (j := (((p0 &&& (2147483647 : Int32)) % (6 : Int32)) - (1 : Int32))) (v := (.int ((own_upd (own_upd (own_upd (own_upd (own_upd (fun _ => 0) 0 p1) 1 p2) 2 p3) 3 p4) ((0 : Int32)).toNatClampNeg (p1 ^^^ (1 : Int32))) ((((p0 &&& (2147483647 : Int32)) % (6 : Int32)) - (1 : Int32))).toNatClampNeg))) (by rw [e135]; exact Ar145.1) (State.isArrayOf_alike hZ.alike Ar145.2.1) Ar145.2.2 hin145 hat145 (g := (mkF m 129 #[.val (.int p0), .val (.int p1), .val (.int p2), .val (.int p3), .val (.int p4), .val (.int p5), .val (.int ((p0 &&& (2147483647 : Int32)) % (6 : Int32))), .val (.ref b1), .val (.ref r122), .unset] [(.int (((p0 &&& (2147483647 : Int32)) % (6 : Int32)) - (1 : Int32))), (.ref r122), (.int (((p0 &&& (2147483647 : Int32)) % (6 : Int32)) - (1 : Int32))), (.ref r122)])) rfl rfl (hb hby at_129) _ ?_
              show Steps p.tables e below (T135.setTop (mkF m 130 #[.val (.int p0), .val (.int p1), .val (.int p2), .val (.int p3), .val (.int p4), .val (.int p5), .val (.int ((p0 &&& (2147483647 : Int32)) % (6 : Int32))), .val (.ref b1), .val (.ref r122), .unset] [(.int ((own_upd (own_upd (own_upd (own_upd (own_upd (fun _ => 0) 0 p1) 1 p2) 2 p3) 3 p4) ((0 : Int32)).toNatClampNeg (p1 ^^^ (1 : Int32))) ((((p0 &&& (2147483647 : Int32)) % (6 : Int32)) - (1 : Int32))).toNatClampNeg)), (.int (((p0 &&& (2147483647 : Int32)) % (6 : Int32)) - (1 : Int32))), (.ref r122)])) _
              refine XS.iconst X135.here hx rfl (hb hby at_130) ?_
              show Steps p.tables e below (T135.setTop (mkF m 131 #[.val (.int p0), .val (.int p1), .val (.int p2), .val (.int p3), .val (.int p4), .val (.int p5), .val (.int ((p0 &&& (2147483647 : Int32)) % (6 : Int32))), .val (.ref b1), .val (.ref r122), .unset] [(.int (2 : Int32)), (.int ((own_upd (own_upd (own_upd (own_upd (own_upd (fun _ => 0) 0 p1) 1 p2) 2 p3) 3 p4) ((0 : Int32)).toNatClampNeg (p1 ^^^ (1 : Int32))) ((((p0 &&& (2147483647 : Int32)) % (6 : Int32)) - (1 : Int32))).toNatClampNeg)), (.int (((p0 &&& (2147483647 : Int32)) % (6 : Int32)) - (1 : Int32))), (.ref r122)])) _
              refine XS.ixor X135.here hx rfl (hb hby at_131) rfl ?_
              show Steps p.tables e below (T135.setTop (mkF m 132 #[.val (.int p0), .val (.int p1), .val (.int p2), .val (.int p3), .val (.int p4), .val (.int p5), .val (.int ((p0 &&& (2147483647 : Int32)) % (6 : Int32))), .val (.ref b1), .val (.ref r122), .unset] [(.int (((own_upd (own_upd (own_upd (own_upd (own_upd (fun _ => 0) 0 p1) 1 p2) 2 p3) 3 p4) ((0 : Int32)).toNatClampNeg (p1 ^^^ (1 : Int32))) ((((p0 &&& (2147483647 : Int32)) % (6 : Int32)) - (1 : Int32))).toNatClampNeg) ^^^ (2 : Int32))), (.int (((p0 &&& (2147483647 : Int32)) % (6 : Int32)) - (1 : Int32))), (.ref r122)])) _
              refine st147 _ ?_
              show Steps p.tables e below (T147.setTop (mkF m 133 #[.val (.int p0), .val (.int p1), .val (.int p2), .val (.int p3), .val (.int p4), .val (.int p5), .val (.int ((p0 &&& (2147483647 : Int32)) % (6 : Int32))), .val (.ref b1), .val (.ref r122), .unset] [])) _
              refine XS.aload X147.here hx rfl (hb hby at_133) rfl rfl ?_
              show Steps p.tables e below (T147.setTop (mkF m 135 #[.val (.int p0), .val (.int p1), .val (.int p2), .val (.int p3), .val (.int p4), .val (.int p5), .val (.int ((p0 &&& (2147483647 : Int32)) % (6 : Int32))), .val (.ref b1), .val (.ref r122), .unset] [(.ref b1)])) _
              refine st158.trans ?_
              show Steps p.tables e below (T158.setTop (mkF m 138 #[.val (.int p0), .val (.int p1), .val (.int p2), .val (.int p3), .val (.int p4), .val (.int p5), .val (.int ((p0 &&& (2147483647 : Int32)) % (6 : Int32))), .val (.ref b1), .val (.ref r122), .unset] [(.ref r160)])) _
              refine XS.astore X158.here hx rfl (hb hby at_138) rfl rfl (l' := #[.val (.int p0), .val (.int p1), .val (.int p2), .val (.int p3), .val (.int p4), .val (.int p5), .val (.int ((p0 &&& (2147483647 : Int32)) % (6 : Int32))), .val (.ref b1), .val (.ref r122), .val (.ref r160)]) rfl ?_
              show Steps p.tables e below (T158.setTop (mkF m 140 #[.val (.int p0), .val (.int p1), .val (.int p2), .val (.int p3), .val (.int p4), .val (.int p5), .val (.int ((p0 &&& (2147483647 : Int32)) % (6 : Int32))), .val (.ref b1), .val (.ref r122), .val (.ref r160)] [])) _
              refine XS.aload X158.here hx rfl (hb hby at_140) rfl rfl ?_
              show Steps p.tables e below (T158.setTop (mkF m 142 #[.val (.int p0), .val (.int p1), .val (.int p2), .val (.int p3), .val (.int p4), .val (.int p5), .val (.int ((p0 &&& (2147483647 : Int32)) % (6 : Int32))), .val (.ref b1), .val (.ref r122), .val (.ref r160)] [(.ref r160)])) _
              refine XS.iload X158.here hx rfl (hb hby at_142) rfl ?_
              show Steps p.tables e below (T158.setTop (mkF m 144 #[.val (.int p0), .val (.int p1), .val (.int p2), .val (.int p3), .val (.int p4), .val (.int p5), .val (.int ((p0 &&& (2147483647 : Int32)) % (6 : Int32))), .val (.ref b1), .val (.ref r122), .val (.ref r160)] [(.int ((p0 &&& (2147483647 : Int32)) % (6 : Int32))), (.ref r160)])) _
              refine XS.iloadN X158.here hx rfl (hb hby at_144) rfl ?_
              show Steps p.tables e below (T158.setTop (mkF m 145 #[.val (.int p0), .val (.int p1), .val (.int p2), .val (.int p3), .val (.int p4), .val (.int p5), .val (.int ((p0 &&& (2147483647 : Int32)) % (6 : Int32))), .val (.ref b1), .val (.ref r122), .val (.ref r160)] [(.int p1), (.int ((p0 &&& (2147483647 : Int32)) % (6 : Int32))), (.ref r160)])) _
              refine XS.iloadN X158.here hx rfl (hb hby at_145) rfl ?_
              show Steps p.tables e below (T158.setTop (mkF m 146 #[.val (.int p0), .val (.int p1), .val (.int p2), .val (.int p3), .val (.int p4), .val (.int p5), .val (.int ((p0 &&& (2147483647 : Int32)) % (6 : Int32))), .val (.ref b1), .val (.ref r122), .val (.ref r160)] [(.int p2), (.int p1), (.int ((p0 &&& (2147483647 : Int32)) % (6 : Int32))), (.ref r160)])) _
              refine XS.iloadN X158.here hx rfl (hb hby at_146) rfl ?_
              show Steps p.tables e below (T158.setTop (mkF m 147 #[.val (.int p0), .val (.int p1), .val (.int p2), .val (.int p3), .val (.int p4), .val (.int p5), .val (.int ((p0 &&& (2147483647 : Int32)) % (6 : Int32))), .val (.ref b1), .val (.ref r122), .val (.ref r160)] [(.int p3), (.int p2), (.int p1), (.int ((p0 &&& (2147483647 : Int32)) % (6 : Int32))), (.ref r160)])) _
              refine XS.iload X158.here hx rfl (hb hby at_147) rfl ?_
              show Steps p.tables e below (T158.setTop (mkF m 149 #[.val (.int p0), .val (.int p1), .val (.int p2), .val (.int p3), .val (.int p4), .val (.int p5), .val (.int ((p0 &&& (2147483647 : Int32)) % (6 : Int32))), .val (.ref b1), .val (.ref r122), .val (.ref r160)] [(.int p4), (.int p3), (.int p2), (.int p1), (.int ((p0 &&& (2147483647 : Int32)) % (6 : Int32))), (.ref r160)])) _
              refine XS.iload X158.here hx rfl (hb hby at_149) rfl ?_
              show Steps p.tables e below (T158.setTop (mkF m 151 #[.val (.int p0), .val (.int p1), .val (.int p2), .val (.int p3), .val (.int p4), .val (.int p5), .val (.int ((p0 &&& (2147483647 : Int32)) % (6 : Int32))), .val (.ref b1), .val (.ref r122), .val (.ref r160)] [(.int p5), (.int p4), (.int p3), (.int p2), (.int p1), (.int ((p0 &&& (2147483647 : Int32)) % (6 : Int32))), (.ref r160)])) _
              refine st170 _ ?_
              exact kt
            obtain ⟨fs, hr, hrun, hended, hW, hsame⟩ := X170.leave (v := some (.int (1 : Int32))) (fun h => by rw [Bd.returns] at h; cases h)
            refine ⟨_, _, pre173 _ ?_, hrun, hended, _, _, rfl, ?_, ⟨_, rfl⟩, hW, hsame.mono (by decide) (by decide)⟩
            · show Steps p.tables e below (T170.setTop (mkF m 154 #[.val (.int p0), .val (.int p1), .val (.int p2), .val (.int p3), .val (.int p4), .val (.int p5), .val (.int ((p0 &&& (2147483647 : Int32)) % (6 : Int32))), .val (.ref b1), .val (.ref r122), .val (.ref r160)] [(.int (1 : Int32))])) _
              exact retN X170 hx (t := .boolean) Bd.returns (by simp) (hb hby at_154) hr
            · show own_Q_law Z p0 p1 p2 p3 p4 p5 h0 n0 (some (.int (1 : Int32))) T170.heap _
              rw [eq171]
              exact ⟨rfl, nf172⟩
        · have zs174 : n0 ≤ T37.heap.size := Nat.le_trans Z0 k42.1
          obtain ⟨cq176, kq176, q176a, q176b, q176c⟩ := isOf hZ rfl f40
          obtain ⟨_, _, ⟨T175, L175, k175, n175⟩, -, X175, ⟨Lc175, hQ175, l175, y175, z175⟩, st175⟩ := X37.virtualBack hx (y := (⟨"com/example/interleaving/interleaving/store/StateGraph", "initialStates", "()[I"⟩ : MethodName)) (z := (⟨"com/example/interleaving/interleaving/store/StateGraph", "initialStates", "()[I"⟩ : MethodName)) hown (mvT hZ (hw _ (List.mem_of_getElem? (i := 19) rfl))) (mvT hZ (hw _ (List.mem_of_getElem? (i := 20) rfl))) (notFace_of_selects (args := #[]) (mvT hZ (hw _ (List.mem_of_getElem? (i := 22) rfl)))) (mvT hZ (hw _ (List.mem_of_getElem? (i := 22) rfl))) (mvT hZ (hw _ (List.mem_of_getElem? (i := 21) rfl))) (by decide) (backOf (W := 0) (own_rm_ist l Z a0 hw [] b1 bx10 3 16 (own_upd (own_upd (own_upd (fun _ => 0) 0 p1) 1 p2) 2 p3) T37.heap n0 zs174 c39_0 c39_1 c39_2 (by decide) (by decide) (by decide)) hZ (hw _ (List.mem_of_getElem? (i := 23) rfl)) (hw _ (List.mem_of_getElem? (i := 3) rfl)) (by decide) (by decide)) q176a q176c (g := (mkF m 81 #[.val (.int p0), .val (.int p1), .val (.int p2), .val (.int p3), .val (.int p4), .val (.int p5), .val (.int ((p0 &&& (2147483647 : Int32)) % (6 : Int32))), .val (.ref b1), .unset, .unset] [(.ref b1)])) rfl (by rw [hml]; rfl) (Steps.refl _) (argsL := []) (rest := []) (lenOf own_pd4 rfl) rfl (by show 2 * 0 + _ ≤ _; exact Nat.le_of_eq rfl) (hb hby at_81) (fun _ _ => ⟨rfl, rfl, (by decide : 4 + 1 ≤ _), (by decide : 2072 + 32 ≤ _)⟩)
          dsimp only [Pt.U, Pt.locs, Pt.cells, Pt.slots] at X175 l175 y175 z175 st175 hQ175
          subst l175 y175 z175
          obtain ⟨r177, rfl, N177, K177, c177_0, c177_1⟩ := hQ175
          have sz_r177 : h0.size ≤ r177 := Nat.le_trans k42.1 c177_0
          have gn_r177 : n0 ≤ r177 := Nat.le_trans Z0 sz_r177
          have ne_b1_r177 : b1 ≠ r177 := Nat.ne_of_lt (Nat.lt_of_lt_of_le c39_1.lt c177_0)
          have ne_bx10_r177 : bx10 ≠ r177 := Nat.ne_of_lt (Nat.lt_of_lt_of_le c39_2.lt c177_0)
          have f178 := f40.keep K177
          have f179 := f41.keep K177
          have f180 := c39_0.keep K177 nin0
          have f181 := c39_1.keep K177 nin0
          have f182 := c39_2.keep K177 nin0
          have k183 := k42.trans K177 all0
          have nf184 := Fr.app nf43 N177
          have zs185 : n0 ≤ T175.heap.size := Nat.le_trans Z0 k183.1
          obtain ⟨_, _, ⟨T186, L186, k186, n186⟩, -, X186, ⟨Lc186, hQ186, l186, y186, z186⟩, st186⟩ := Jvm.LawKit.callS X175 hx (y := (⟨"com/example/interleaving/interleaving/store/StateGraphInitialStatesPinLaw", "matches", "([IIIIIII)Z"⟩ : MethodName)) hown (mvT hZ (hw _ (List.mem_of_getElem? (i := 38) rfl))) (mvT hZ (hw _ (List.mem_of_getElem? (i := 39) rfl))) (mvT hZ (hw _ (List.mem_of_getElem? (i := 40) rfl))) (mvT hZ (hw _ (List.mem_of_getElem? (i := 41) rfl))) (by decide) (backOf (W := 0) (own_rm_mt l Z a0 hw [] r177 ((p0 &&& (2147483647 : Int32)) % (6 : Int32)) p1 p2 p3 p4 p5 3 (own_upd (own_upd (own_upd (fun _ => 0) 0 p1) 1 p2) 2 p3) T175.heap n0 zs185 c177_1 (own_kN 2 (by decide) hc35 (own_le 2 (by decide) hc45)) (by decide) (fun j hj => by rcases j with _ | _ | _ | j <;> first | rfl | omega)) hZ (hw _ (List.mem_of_getElem? (i := 41) rfl)) (hw _ (List.mem_of_getElem? (i := 40) rfl)) (by decide) (by decide)) (g := (mkF m 97 #[.val (.int p0), .val (.int p1), .val (.int p2), .val (.int p3), .val (.int p4), .val (.int p5), .val (.int ((p0 &&& (2147483647 : Int32)) % (6 : Int32))), .val (.ref b1), .val (.ref r177), .unset] [(.int p5), (.int p4), (.int p3), (.int p2), (.int p1), (.int ((p0 &&& (2147483647 : Int32)) % (6 : Int32))), (.ref r177)])) rfl (by rw [hml]; rfl) (argsL := [(.ref r177), (.int ((p0 &&& (2147483647 : Int32)) % (6 : Int32))), (.int p1), (.int p2), (.int p3), (.int p4), (.int p5)]) (rest := []) (lenOf own_pd5 rfl) rfl (by show 2 * 0 + _ ≤ _; exact Nat.le_of_eq rfl) (hb hby at_97) (fun _ _ => ⟨rfl, rfl, (by decide : 5 + 0 ≤ _), (by decide : 2104 + 0 ≤ _)⟩)
          dsimp only [Pt.U, Pt.locs, Pt.cells, Pt.slots] at X186 l186 y186 z186 st186 hQ186
          subst l186 y186 z186
          obtain ⟨rfl, N187, eq187⟩ := hQ186
          have nf188 := Fr.app nf184 N187
          obtain ⟨cl189, Ar189, S189, H189⟩ := id c177_1
          have hin189 : ¬ ((0 : Int32) < 0 ∨ cl189.slots.size ≤ ((0 : Int32)).toNatClampNeg) := own_inb S189 (by decide) (by decide)
          obtain ⟨T190, h190, X190, e190, W190, st190⟩ := stI X186 hx hZ eq187 Ar189 (j := (0 : Int32)) hin189 (g := (mkF m 116 #[.val (.int p0), .val (.int p1), .val (.int p2), .val (.int p3), .val (.int p4), .val (.int p5), .val (.int ((p0 &&& (2147483647 : Int32)) % (6 : Int32))), .val (.ref b1), .val (.ref r177), .unset] [(.int (p1 ^^^ (1 : Int32))), (.int (0 : Int32)), (.ref r177)])) rfl rfl (hb hby at_116)
          have f191 := f178.wr W190
          have f192 := f179.wr W190
          have f193 := f180.other W190 (Or.inl ne_b1_r177)
          have f194 := f181.other W190 (Or.inl ne_b1_r177)
          have f195 := f182.other W190 ne_bx10_r177
          have k197 := k183.wr W190 (Or.inr sz_r177)
          have nf198 := Fr.snoc X190 nf188 gn_r177
          have f199 := c177_1.set W190
          obtain ⟨cl200, Ar200, S200, H200⟩ := id f199
          have hin200 : ¬ ((((p0 &&& (2147483647 : Int32)) % (6 : Int32)) - (1 : Int32)) < 0 ∨ cl200.slots.size ≤ ((((p0 &&& (2147483647 : Int32)) % (6 : Int32)) - (1 : Int32))).toNatClampNeg) := own_inb S200 (by rw [(own_kN 2 (by decide) hc35 (own_le 2 (by decide) hc45))]; decide) (by rw [(own_kN 2 (by decide) hc35 (own_le 2 (by decide) hc45))]; decide)
          have hat200 : cl200.slots[((((p0 &&& (2147483647 : Int32)) % (6 : Int32)) - (1 : Int32))).toNatClampNeg]? = some (.int ((own_upd (own_upd (own_upd (own_upd (fun _ => 0) 0 p1) 1 p2) 2 p3) ((0 : Int32)).toNatClampNeg (p1 ^^^ (1 : Int32))) ((((p0 &&& (2147483647 : Int32)) % (6 : Int32)) - (1 : Int32))).toNatClampNeg)) := H200 _ (by rw [(own_kN 2 (by decide) hc35 (own_le 2 (by decide) hc45))]; decide)
          obtain ⟨cl201, Ar201, S201, H201⟩ := id f199
          have hin201 : ¬ ((((p0 &&& (2147483647 : Int32)) % (6 : Int32)) - (1 : Int32)) < 0 ∨ cl201.slots.size ≤ ((((p0 &&& (2147483647 : Int32)) % (6 : Int32)) - (1 : Int32))).toNatClampNeg) := own_inb S201 (by rw [(own_kN 2 (by decide) hc35 (own_le 2 (by decide) hc45))]; decide) (by rw [(own_kN 2 (by decide) hc35 (own_le 2 (by decide) hc45))]; decide)
          obtain ⟨T202, h202, X202, e202, W202, st202⟩ := stI X190 hx hZ e190 Ar201 (j := (((p0 &&& (2147483647 : Int32)) % (6 : Int32)) - (1 : Int32))) hin201 (g := (mkF m 132 #[.val (.int p0), .val (.int p1), .val (.int p2), .val (.int p3), .val (.int p4), .val (.int p5), .val (.int ((p0 &&& (2147483647 : Int32)) % (6 : Int32))), .val (.ref b1), .val (.ref r177), .unset] [(.int (((own_upd (own_upd (own_upd (own_upd (fun _ => 0) 0 p1) 1 p2) 2 p3) ((0 : Int32)).toNatClampNeg (p1 ^^^ (1 : Int32))) ((((p0 &&& (2147483647 : Int32)) % (6 : Int32)) - (1 : Int32))).toNatClampNeg) ^^^ (2 : Int32))), (.int (((p0 &&& (2147483647 : Int32)) % (6 : Int32)) - (1 : Int32))), (.ref r177)])) rfl rfl (hb hby at_132)
          have f203 := f191.wr W202
          have f204 := f192.wr W202
          have f205 := f193.other W202 (Or.inl ne_b1_r177)
          have f206 := f194.other W202 (Or.inl ne_b1_r177)
          have f207 := f195.other W202 ne_bx10_r177
          have k209 := k197.wr W202 (Or.inr sz_r177)
          have nf210 := Fr.snoc X202 nf198 gn_r177
          have f211 := f199.set W202
          have zs212 : n0 ≤ h202.size := Nat.le_trans Z0 k209.1
          obtain ⟨cq214, kq214, q214a, q214b, q214c⟩ := isOf hZ e202 f203
          obtain ⟨_, _, ⟨T213, L213, k213, n213⟩, -, X213, ⟨Lc213, hQ213, l213, y213, z213⟩, st213⟩ := X202.virtualBack hx (y := (⟨"com/example/interleaving/interleaving/store/StateGraph", "initialStates", "()[I"⟩ : MethodName)) (z := (⟨"com/example/interleaving/interleaving/store/StateGraph", "initialStates", "()[I"⟩ : MethodName)) hown (mvT hZ (hw _ (List.mem_of_getElem? (i := 19) rfl))) (mvT hZ (hw _ (List.mem_of_getElem? (i := 20) rfl))) (notFace_of_selects (args := #[]) (mvT hZ (hw _ (List.mem_of_getElem? (i := 22) rfl)))) (mvT hZ (hw _ (List.mem_of_getElem? (i := 22) rfl))) (mvT hZ (hw _ (List.mem_of_getElem? (i := 21) rfl))) (by decide) (backOf (W := 0) (own_rm_ist l Z a0 hw [] b1 bx10 3 16 (own_upd (own_upd (own_upd (fun _ => 0) 0 p1) 1 p2) 2 p3) h202 n0 zs212 f205 f206 f207 (by decide) (by decide) (by decide)) hZ (hw _ (List.mem_of_getElem? (i := 23) rfl)) (hw _ (List.mem_of_getElem? (i := 3) rfl)) (by decide) (by decide)) q214a q214c (g := (mkF m 135 #[.val (.int p0), .val (.int p1), .val (.int p2), .val (.int p3), .val (.int p4), .val (.int p5), .val (.int ((p0 &&& (2147483647 : Int32)) % (6 : Int32))), .val (.ref b1), .val (.ref r177), .unset] [(.ref b1)])) rfl (by rw [hml]; rfl) (Steps.refl _) (argsL := []) (rest := []) (lenOf own_pd4 rfl) rfl (by show 2 * 0 + _ ≤ _; exact Nat.le_of_eq rfl) (hb hby at_135) (fun _ _ => ⟨rfl, e202, (by decide : 5 + 1 ≤ _), (by decide : 2104 + 32 ≤ _)⟩)
          dsimp only [Pt.U, Pt.locs, Pt.cells, Pt.slots] at X213 l213 y213 z213 st213 hQ213
          subst l213 y213 z213
          obtain ⟨r215, rfl, N215, K215, c215_0, c215_1⟩ := hQ213
          have sz_r215 : h0.size ≤ r215 := Nat.le_trans k209.1 c215_0
          have gn_r215 : n0 ≤ r215 := Nat.le_trans Z0 sz_r215
          have ne_b1_r215 : b1 ≠ r215 := Nat.ne_of_lt (Nat.lt_of_lt_of_le f206.lt c215_0)
          have ne_bx10_r215 : bx10 ≠ r215 := Nat.ne_of_lt (Nat.lt_of_lt_of_le f207.lt c215_0)
          have ne_r177_r215 : r177 ≠ r215 := Nat.ne_of_lt (Nat.lt_of_lt_of_le f211.lt c215_0)
          have f216 := f203.keep K215
          have f217 := f204.keep K215
          have f218 := f205.keep K215 nin0
          have f219 := f206.keep K215 nin0
          have f220 := f207.keep K215 nin0
          have f221 := f211.keep K215 nin0
          have k222 := k209.trans K215 all0
          have nf223 := Fr.app nf210 N215
          have zs224 : n0 ≤ T213.heap.size := Nat.le_trans Z0 k222.1
          obtain ⟨_, _, ⟨T225, L225, k225, n225⟩, -, X225, ⟨Lc225, hQ225, l225, y225, z225⟩, st225⟩ := Jvm.LawKit.callS X213 hx (y := (⟨"com/example/interleaving/interleaving/store/StateGraphInitialStatesPinLaw", "matches", "([IIIIIII)Z"⟩ : MethodName)) hown (mvT hZ (hw _ (List.mem_of_getElem? (i := 38) rfl))) (mvT hZ (hw _ (List.mem_of_getElem? (i := 39) rfl))) (mvT hZ (hw _ (List.mem_of_getElem? (i := 40) rfl))) (mvT hZ (hw _ (List.mem_of_getElem? (i := 41) rfl))) (by decide) (backOf (W := 0) (own_rm_mt l Z a0 hw [] r215 ((p0 &&& (2147483647 : Int32)) % (6 : Int32)) p1 p2 p3 p4 p5 3 (own_upd (own_upd (own_upd (fun _ => 0) 0 p1) 1 p2) 2 p3) T213.heap n0 zs224 c215_1 (own_kN 2 (by decide) hc35 (own_le 2 (by decide) hc45)) (by decide) (fun j hj => by rcases j with _ | _ | _ | j <;> first | rfl | omega)) hZ (hw _ (List.mem_of_getElem? (i := 41) rfl)) (hw _ (List.mem_of_getElem? (i := 40) rfl)) (by decide) (by decide)) (g := (mkF m 151 #[.val (.int p0), .val (.int p1), .val (.int p2), .val (.int p3), .val (.int p4), .val (.int p5), .val (.int ((p0 &&& (2147483647 : Int32)) % (6 : Int32))), .val (.ref b1), .val (.ref r177), .val (.ref r215)] [(.int p5), (.int p4), (.int p3), (.int p2), (.int p1), (.int ((p0 &&& (2147483647 : Int32)) % (6 : Int32))), (.ref r215)])) rfl (by rw [hml]; rfl) (argsL := [(.ref r215), (.int ((p0 &&& (2147483647 : Int32)) % (6 : Int32))), (.int p1), (.int p2), (.int p3), (.int p4), (.int p5)]) (rest := []) (lenOf own_pd5 rfl) rfl (by show 2 * 0 + _ ≤ _; exact Nat.le_of_eq rfl) (hb hby at_151) (fun _ _ => ⟨rfl, rfl, (by decide : 6 + 0 ≤ _), (by decide : 2136 + 0 ≤ _)⟩)
          dsimp only [Pt.U, Pt.locs, Pt.cells, Pt.slots] at X225 l225 y225 z225 st225 hQ225
          subst l225 y225 z225
          obtain ⟨rfl, N226, eq226⟩ := hQ225
          have nf227 := Fr.app nf223 N226
          have pre228 : ∀ t, Steps p.tables e below (T225.setTop (mkF m 154 #[.val (.int p0), .val (.int p1), .val (.int p2), .val (.int p3), .val (.int p4), .val (.int p5), .val (.int ((p0 &&& (2147483647 : Int32)) % (6 : Int32))), .val (.ref b1), .val (.ref r177), .val (.ref r215)] [(.int (1 : Int32))])) t → Steps p.tables e below (s₁.setTop (entryFrame m #[(.int p0), (.int p1), (.int p2), (.int p3), (.int p4), (.int p5)] maxLocals)) t := by
            intro t kt
            refine pre44 t ?_
            show Steps p.tables e below (T37.setTop (mkF m 56 #[.val (.int p0), .val (.int p1), .val (.int p2), .val (.int p3), .val (.int p4), .val (.int p5), .val (.int ((p0 &&& (2147483647 : Int32)) % (6 : Int32))), .val (.ref b1), .unset, .unset] [(.int (3 : Int32)), (.int ((p0 &&& (2147483647 : Int32)) % (6 : Int32)))])) _
            refine XS.icmpYes X37.here hx rfl (pc0 := 56) (pc' := 66) rfl (hb hby at_56) rfl (flt hc45).2.2.2 (by decide) (by decide) ?_
            show Steps p.tables e below (T37.setTop (mkF m 66 #[.val (.int p0), .val (.int p1), .val (.int p2), .val (.int p3), .val (.int p4), .val (.int p5), .val (.int ((p0 &&& (2147483647 : Int32)) % (6 : Int32))), .val (.ref b1), .unset, .unset] [])) _
            refine XS.iload X37.here hx rfl (hb hby at_66) rfl ?_
            show Steps p.tables e below (T37.setTop (mkF m 68 #[.val (.int p0), .val (.int p1), .val (.int p2), .val (.int p3), .val (.int p4), .val (.int p5), .val (.int ((p0 &&& (2147483647 : Int32)) % (6 : Int32))), .val (.ref b1), .unset, .unset] [(.int ((p0 &&& (2147483647 : Int32)) % (6 : Int32)))])) _
            refine XS.iconst X37.here hx rfl (hb hby at_68) ?_
            show Steps p.tables e below (T37.setTop (mkF m 69 #[.val (.int p0), .val (.int p1), .val (.int p2), .val (.int p3), .val (.int p4), .val (.int p5), .val (.int ((p0 &&& (2147483647 : Int32)) % (6 : Int32))), .val (.ref b1), .unset, .unset] [(.int (4 : Int32)), (.int ((p0 &&& (2147483647 : Int32)) % (6 : Int32)))])) _
            refine XS.icmpYes X37.here hx rfl (pc0 := 69) (pc' := 79) rfl (hb hby at_69) rfl (flt (own_no (3 : Int32) (4 : Int32) hc45 (by decide))).2.2.2 (by decide) (by decide) ?_
            show Steps p.tables e below (T37.setTop (mkF m 79 #[.val (.int p0), .val (.int p1), .val (.int p2), .val (.int p3), .val (.int p4), .val (.int p5), .val (.int ((p0 &&& (2147483647 : Int32)) % (6 : Int32))), .val (.ref b1), .unset, .unset] [])) _
            refine XS.aload X37.here hx rfl (hb hby at_79) rfl rfl ?_
            show Steps p.tables e below (T37.setTop (mkF m 81 #[.val (.int p0), .val (.int p1), .val (.int p2), .val (.int p3), .val (.int p4), .val (.int p5), .val (.int ((p0 &&& (2147483647 : Int32)) % (6 : Int32))), .val (.ref b1), .unset, .unset] [(.ref b1)])) _
            refine st175.trans ?_
            show Steps p.tables e below (T175.setTop (mkF m 84 #[.val (.int p0), .val (.int p1), .val (.int p2), .val (.int p3), .val (.int p4), .val (.int p5), .val (.int ((p0 &&& (2147483647 : Int32)) % (6 : Int32))), .val (.ref b1), .unset, .unset] [(.ref r177)])) _
            refine XS.astore X175.here hx rfl (hb hby at_84) rfl rfl (l' := #[.val (.int p0), .val (.int p1), .val (.int p2), .val (.int p3), .val (.int p4), .val (.int p5), .val (.int ((p0 &&& (2147483647 : Int32)) % (6 : Int32))), .val (.ref b1), .val (.ref r177), .unset]) rfl ?_
            show Steps p.tables e below (T175.setTop (mkF m 86 #[.val (.int p0), .val (.int p1), .val (.int p2), .val (.int p3), .val (.int p4), .val (.int p5), .val (.int ((p0 &&& (2147483647 : Int32)) % (6 : Int32))), .val (.ref b1), .val (.ref r177), .unset] [])) _
            refine XS.aload X175.here hx rfl (hb hby at_86) rfl rfl ?_
            show Steps p.tables e below (T175.setTop (mkF m 88 #[.val (.int p0), .val (.int p1), .val (.int p2), .val (.int p3), .val (.int p4), .val (.int p5), .val (.int ((p0 &&& (2147483647 : Int32)) % (6 : Int32))), .val (.ref b1), .val (.ref r177), .unset] [(.ref r177)])) _
            refine XS.iload X175.here hx rfl (hb hby at_88) rfl ?_
            show Steps p.tables e below (T175.setTop (mkF m 90 #[.val (.int p0), .val (.int p1), .val (.int p2), .val (.int p3), .val (.int p4), .val (.int p5), .val (.int ((p0 &&& (2147483647 : Int32)) % (6 : Int32))), .val (.ref b1), .val (.ref r177), .unset] [(.int ((p0 &&& (2147483647 : Int32)) % (6 : Int32))), (.ref r177)])) _
            refine XS.iloadN X175.here hx rfl (hb hby at_90) rfl ?_
            show Steps p.tables e below (T175.setTop (mkF m 91 #[.val (.int p0), .val (.int p1), .val (.int p2), .val (.int p3), .val (.int p4), .val (.int p5), .val (.int ((p0 &&& (2147483647 : Int32)) % (6 : Int32))), .val (.ref b1), .val (.ref r177), .unset] [(.int p1), (.int ((p0 &&& (2147483647 : Int32)) % (6 : Int32))), (.ref r177)])) _
            refine XS.iloadN X175.here hx rfl (hb hby at_91) rfl ?_
            show Steps p.tables e below (T175.setTop (mkF m 92 #[.val (.int p0), .val (.int p1), .val (.int p2), .val (.int p3), .val (.int p4), .val (.int p5), .val (.int ((p0 &&& (2147483647 : Int32)) % (6 : Int32))), .val (.ref b1), .val (.ref r177), .unset] [(.int p2), (.int p1), (.int ((p0 &&& (2147483647 : Int32)) % (6 : Int32))), (.ref r177)])) _
            refine XS.iloadN X175.here hx rfl (hb hby at_92) rfl ?_
            show Steps p.tables e below (T175.setTop (mkF m 93 #[.val (.int p0), .val (.int p1), .val (.int p2), .val (.int p3), .val (.int p4), .val (.int p5), .val (.int ((p0 &&& (2147483647 : Int32)) % (6 : Int32))), .val (.ref b1), .val (.ref r177), .unset] [(.int p3), (.int p2), (.int p1), (.int ((p0 &&& (2147483647 : Int32)) % (6 : Int32))), (.ref r177)])) _
            refine XS.iload X175.here hx rfl (hb hby at_93) rfl ?_
            show Steps p.tables e below (T175.setTop (mkF m 95 #[.val (.int p0), .val (.int p1), .val (.int p2), .val (.int p3), .val (.int p4), .val (.int p5), .val (.int ((p0 &&& (2147483647 : Int32)) % (6 : Int32))), .val (.ref b1), .val (.ref r177), .unset] [(.int p4), (.int p3), (.int p2), (.int p1), (.int ((p0 &&& (2147483647 : Int32)) % (6 : Int32))), (.ref r177)])) _
            refine XS.iload X175.here hx rfl (hb hby at_95) rfl ?_
            show Steps p.tables e below (T175.setTop (mkF m 97 #[.val (.int p0), .val (.int p1), .val (.int p2), .val (.int p3), .val (.int p4), .val (.int p5), .val (.int ((p0 &&& (2147483647 : Int32)) % (6 : Int32))), .val (.ref b1), .val (.ref r177), .unset] [(.int p5), (.int p4), (.int p3), (.int p2), (.int p1), (.int ((p0 &&& (2147483647 : Int32)) % (6 : Int32))), (.ref r177)])) _
            refine st186 _ ?_
            show Steps p.tables e below (T186.setTop (mkF m 100 #[.val (.int p0), .val (.int p1), .val (.int p2), .val (.int p3), .val (.int p4), .val (.int p5), .val (.int ((p0 &&& (2147483647 : Int32)) % (6 : Int32))), .val (.ref b1), .val (.ref r177), .unset] [(.int (1 : Int32))])) _
            refine XS.ifYes X186.here hx rfl (pc0 := 100) (pc' := 105) rfl (hb hby at_100) rfl ((if0 _ _).trans (feq (by decide : ¬ ((1 : Int32) = (0 : Int32)))).2) (by decide) (by decide) ?_
            show Steps p.tables e below (T186.setTop (mkF m 105 #[.val (.int p0), .val (.int p1), .val (.int p2), .val (.int p3), .val (.int p4), .val (.int p5), .val (.int ((p0 &&& (2147483647 : Int32)) % (6 : Int32))), .val (.ref b1), .val (.ref r177), .unset] [])) _
            refine XS.iload X186.here hx rfl (hb hby at_105) rfl ?_
            show Steps p.tables e below (T186.setTop (mkF m 107 #[.val (.int p0), .val (.int p1), .val (.int p2), .val (.int p3), .val (.int p4), .val (.int p5), .val (.int ((p0 &&& (2147483647 : Int32)) % (6 : Int32))), .val (.ref b1), .val (.ref r177), .unset] [(.int ((p0 &&& (2147483647 : Int32)) % (6 : Int32)))])) _
            refine XS.ifNo X186.here hx rfl (hb hby at_107) rfl ((if0 _ _).trans (tlt hc15).2.2.2) ?_
            show Steps p.tables e below (T186.setTop (mkF m 110 #[.val (.int p0), .val (.int p1), .val (.int p2), .val (.int p3), .val (.int p4), .val (.int p5), .val (.int ((p0 &&& (2147483647 : Int32)) % (6 : Int32))), .val (.ref b1), .val (.ref r177), .unset] [])) _
            refine XS.aload X186.here hx rfl (hb hby at_110) rfl rfl ?_
            show Steps p.tables e below (T186.setTop (mkF m 112 #[.val (.int p0), .val (.int p1), .val (.int p2), .val (.int p3), .val (.int p4), .val (.int p5), .val (.int ((p0 &&& (2147483647 : Int32)) % (6 : Int32))), .val (.ref b1), .val (.ref r177), .unset] [(.ref r177)])) _
            refine XS.iconst X186.here hx rfl (hb hby at_112) ?_
            show Steps p.tables e below (T186.setTop (mkF m 113 #[.val (.int p0), .val (.int p1), .val (.int p2), .val (.int p3), .val (.int p4), .val (.int p5), .val (.int ((p0 &&& (2147483647 : Int32)) % (6 : Int32))), .val (.ref b1), .val (.ref r177), .unset] [(.int (0 : Int32)), (.ref r177)])) _
            refine XS.iloadN X186.here hx rfl (hb hby at_113) rfl ?_
            show Steps p.tables e below (T186.setTop (mkF m 114 #[.val (.int p0), .val (.int p1), .val (.int p2), .val (.int p3), .val (.int p4), .val (.int p5), .val (.int ((p0 &&& (2147483647 : Int32)) % (6 : Int32))), .val (.ref b1), .val (.ref r177), .unset] [(.int p1), (.int (0 : Int32)), (.ref r177)])) _
            refine XS.iconst X186.here hx rfl (hb hby at_114) ?_
            show Steps p.tables e below (T186.setTop (mkF m 115 #[.val (.int p0), .val (.int p1), .val (.int p2), .val (.int p3), .val (.int p4), .val (.int p5), .val (.int ((p0 &&& (2147483647 : Int32)) % (6 : Int32))), .val (.ref b1), .val (.ref r177), .unset] [(.int (1 : Int32)), (.int p1), (.int (0 : Int32)), (.ref r177)])) _
            refine XS.ixor X186.here hx rfl (hb hby at_115) rfl ?_
            show Steps p.tables e below (T186.setTop (mkF m 116 #[.val (.int p0), .val (.int p1), .val (.int p2), .val (.int p3), .val (.int p4), .val (.int p5), .val (.int ((p0 &&& (2147483647 : Int32)) % (6 : Int32))), .val (.ref b1), .val (.ref r177), .unset] [(.int (p1 ^^^ (1 : Int32))), (.int (0 : Int32)), (.ref r177)])) _
            refine st190 _ ?_
            show Steps p.tables e below (T190.setTop (mkF m 117 #[.val (.int p0), .val (.int p1), .val (.int p2), .val (.int p3), .val (.int p4), .val (.int p5), .val (.int ((p0 &&& (2147483647 : Int32)) % (6 : Int32))), .val (.ref b1), .val (.ref r177), .unset] [])) _
            refine XS.aload X190.here hx rfl (hb hby at_117) rfl rfl ?_
            show Steps p.tables e below (T190.setTop (mkF m 119 #[.val (.int p0), .val (.int p1), .val (.int p2), .val (.int p3), .val (.int p4), .val (.int p5), .val (.int ((p0 &&& (2147483647 : Int32)) % (6 : Int32))), .val (.ref b1), .val (.ref r177), .unset] [(.ref r177)])) _
            refine XS.iload X190.here hx rfl (hb hby at_119) rfl ?_
            show Steps p.tables e below (T190.setTop (mkF m 121 #[.val (.int p0), .val (.int p1), .val (.int p2), .val (.int p3), .val (.int p4), .val (.int p5), .val (.int ((p0 &&& (2147483647 : Int32)) % (6 : Int32))), .val (.ref b1), .val (.ref r177), .unset] [(.int ((p0 &&& (2147483647 : Int32)) % (6 : Int32))), (.ref r177)])) _
            refine XS.iconst X190.here hx rfl (hb hby at_121) ?_
            show Steps p.tables e below (T190.setTop (mkF m 122 #[.val (.int p0), .val (.int p1), .val (.int p2), .val (.int p3), .val (.int p4), .val (.int p5), .val (.int ((p0 &&& (2147483647 : Int32)) % (6 : Int32))), .val (.ref b1), .val (.ref r177), .unset] [(.int (1 : Int32)), (.int ((p0 &&& (2147483647 : Int32)) % (6 : Int32))), (.ref r177)])) _
            refine XS.isub X190.here hx rfl (hb hby at_122) rfl ?_
            show Steps p.tables e below (T190.setTop (mkF m 123 #[.val (.int p0), .val (.int p1), .val (.int p2), .val (.int p3), .val (.int p4), .val (.int p5), .val (.int ((p0 &&& (2147483647 : Int32)) % (6 : Int32))), .val (.ref b1), .val (.ref r177), .unset] [(.int (((p0 &&& (2147483647 : Int32)) % (6 : Int32)) - (1 : Int32))), (.ref r177)])) _
            refine XS.aload X190.here hx rfl (hb hby at_123) rfl rfl ?_
            show Steps p.tables e below (T190.setTop (mkF m 125 #[.val (.int p0), .val (.int p1), .val (.int p2), .val (.int p3), .val (.int p4), .val (.int p5), .val (.int ((p0 &&& (2147483647 : Int32)) % (6 : Int32))), .val (.ref b1), .val (.ref r177), .unset] [(.ref r177), (.int (((p0 &&& (2147483647 : Int32)) % (6 : Int32)) - (1 : Int32))), (.ref r177)])) _
            refine XS.iload X190.here hx rfl (hb hby at_125) rfl ?_
            show Steps p.tables e below (T190.setTop (mkF m 127 #[.val (.int p0), .val (.int p1), .val (.int p2), .val (.int p3), .val (.int p4), .val (.int p5), .val (.int ((p0 &&& (2147483647 : Int32)) % (6 : Int32))), .val (.ref b1), .val (.ref r177), .unset] [(.int ((p0 &&& (2147483647 : Int32)) % (6 : Int32))), (.ref r177), (.int (((p0 &&& (2147483647 : Int32)) % (6 : Int32)) - (1 : Int32))), (.ref r177)])) _
            refine XS.iconst X190.here hx rfl (hb hby at_127) ?_
            show Steps p.tables e below (T190.setTop (mkF m 128 #[.val (.int p0), .val (.int p1), .val (.int p2), .val (.int p3), .val (.int p4), .val (.int p5), .val (.int ((p0 &&& (2147483647 : Int32)) % (6 : Int32))), .val (.ref b1), .val (.ref r177), .unset] [(.int (1 : Int32)), (.int ((p0 &&& (2147483647 : Int32)) % (6 : Int32))), (.ref r177), (.int (((p0 &&& (2147483647 : Int32)) % (6 : Int32)) - (1 : Int32))), (.ref r177)])) _
            refine XS.isub X190.here hx rfl (hb hby at_128) rfl ?_
            show Steps p.tables e below (T190.setTop (mkF m 129 #[.val (.int p0), .val (.int p1), .val (.int p2), .val (.int p3), .val (.int p4), .val (.int p5), .val (.int ((p0 &&& (2147483647 : Int32)) % (6 : Int32))), .val (.ref b1), .val (.ref r177), .unset] [(.int (((p0 &&& (2147483647 : Int32)) % (6 : Int32)) - (1 : Int32))), (.ref r177), (.int (((p0 &&& (2147483647 : Int32)) % (6 : Int32)) - (1 : Int32))), (.ref r177)])) _
            refine X190.iaload hx (j := (((p0 &&& (2147483647 : Int32)) % (6 : Int32)) - (1 : Int32))) (v := (.int ((own_upd (own_upd (own_upd (own_upd (fun _ => 0) 0 p1) 1 p2) 2 p3) ((0 : Int32)).toNatClampNeg (p1 ^^^ (1 : Int32))) ((((p0 &&& (2147483647 : Int32)) % (6 : Int32)) - (1 : Int32))).toNatClampNeg))) (by rw [e190]; exact Ar200.1) (State.isArrayOf_alike hZ.alike Ar200.2.1) Ar200.2.2 hin200 hat200 (g := (mkF m 129 #[.val (.int p0), .val (.int p1), .val (.int p2), .val (.int p3), .val (.int p4), .val (.int p5), .val (.int ((p0 &&& (2147483647 : Int32)) % (6 : Int32))), .val (.ref b1), .val (.ref r177), .unset] [(.int (((p0 &&& (2147483647 : Int32)) % (6 : Int32)) - (1 : Int32))), (.ref r177), (.int (((p0 &&& (2147483647 : Int32)) % (6 : Int32)) - (1 : Int32))), (.ref r177)])) rfl rfl (hb hby at_129) _ ?_
            show Steps p.tables e below (T190.setTop (mkF m 130 #[.val (.int p0), .val (.int p1), .val (.int p2), .val (.int p3), .val (.int p4), .val (.int p5), .val (.int ((p0 &&& (2147483647 : Int32)) % (6 : Int32))), .val (.ref b1), .val (.ref r177), .unset] [(.int ((own_upd (own_upd (own_upd (own_upd (fun _ => 0) 0 p1) 1 p2) 2 p3) ((0 : Int32)).toNatClampNeg (p1 ^^^ (1 : Int32))) ((((p0 &&& (2147483647 : Int32)) % (6 : Int32)) - (1 : Int32))).toNatClampNeg)), (.int (((p0 &&& (2147483647 : Int32)) % (6 : Int32)) - (1 : Int32))), (.ref r177)])) _
            refine XS.iconst X190.here hx rfl (hb hby at_130) ?_
            show Steps p.tables e below (T190.setTop (mkF m 131 #[.val (.int p0), .val (.int p1), .val (.int p2), .val (.int p3), .val (.int p4), .val (.int p5), .val (.int ((p0 &&& (2147483647 : Int32)) % (6 : Int32))), .val (.ref b1), .val (.ref r177), .unset] [(.int (2 : Int32)), (.int ((own_upd (own_upd (own_upd (own_upd (fun _ => 0) 0 p1) 1 p2) 2 p3) ((0 : Int32)).toNatClampNeg (p1 ^^^ (1 : Int32))) ((((p0 &&& (2147483647 : Int32)) % (6 : Int32)) - (1 : Int32))).toNatClampNeg)), (.int (((p0 &&& (2147483647 : Int32)) % (6 : Int32)) - (1 : Int32))), (.ref r177)])) _
            refine XS.ixor X190.here hx rfl (hb hby at_131) rfl ?_
            show Steps p.tables e below (T190.setTop (mkF m 132 #[.val (.int p0), .val (.int p1), .val (.int p2), .val (.int p3), .val (.int p4), .val (.int p5), .val (.int ((p0 &&& (2147483647 : Int32)) % (6 : Int32))), .val (.ref b1), .val (.ref r177), .unset] [(.int (((own_upd (own_upd (own_upd (own_upd (fun _ => 0) 0 p1) 1 p2) 2 p3) ((0 : Int32)).toNatClampNeg (p1 ^^^ (1 : Int32))) ((((p0 &&& (2147483647 : Int32)) % (6 : Int32)) - (1 : Int32))).toNatClampNeg) ^^^ (2 : Int32))), (.int (((p0 &&& (2147483647 : Int32)) % (6 : Int32)) - (1 : Int32))), (.ref r177)])) _
            refine st202 _ ?_
            show Steps p.tables e below (T202.setTop (mkF m 133 #[.val (.int p0), .val (.int p1), .val (.int p2), .val (.int p3), .val (.int p4), .val (.int p5), .val (.int ((p0 &&& (2147483647 : Int32)) % (6 : Int32))), .val (.ref b1), .val (.ref r177), .unset] [])) _
            refine XS.aload X202.here hx rfl (hb hby at_133) rfl rfl ?_
            show Steps p.tables e below (T202.setTop (mkF m 135 #[.val (.int p0), .val (.int p1), .val (.int p2), .val (.int p3), .val (.int p4), .val (.int p5), .val (.int ((p0 &&& (2147483647 : Int32)) % (6 : Int32))), .val (.ref b1), .val (.ref r177), .unset] [(.ref b1)])) _
            refine st213.trans ?_
            show Steps p.tables e below (T213.setTop (mkF m 138 #[.val (.int p0), .val (.int p1), .val (.int p2), .val (.int p3), .val (.int p4), .val (.int p5), .val (.int ((p0 &&& (2147483647 : Int32)) % (6 : Int32))), .val (.ref b1), .val (.ref r177), .unset] [(.ref r215)])) _
            refine XS.astore X213.here hx rfl (hb hby at_138) rfl rfl (l' := #[.val (.int p0), .val (.int p1), .val (.int p2), .val (.int p3), .val (.int p4), .val (.int p5), .val (.int ((p0 &&& (2147483647 : Int32)) % (6 : Int32))), .val (.ref b1), .val (.ref r177), .val (.ref r215)]) rfl ?_
            show Steps p.tables e below (T213.setTop (mkF m 140 #[.val (.int p0), .val (.int p1), .val (.int p2), .val (.int p3), .val (.int p4), .val (.int p5), .val (.int ((p0 &&& (2147483647 : Int32)) % (6 : Int32))), .val (.ref b1), .val (.ref r177), .val (.ref r215)] [])) _
            refine XS.aload X213.here hx rfl (hb hby at_140) rfl rfl ?_
            show Steps p.tables e below (T213.setTop (mkF m 142 #[.val (.int p0), .val (.int p1), .val (.int p2), .val (.int p3), .val (.int p4), .val (.int p5), .val (.int ((p0 &&& (2147483647 : Int32)) % (6 : Int32))), .val (.ref b1), .val (.ref r177), .val (.ref r215)] [(.ref r215)])) _
            refine XS.iload X213.here hx rfl (hb hby at_142) rfl ?_
            show Steps p.tables e below (T213.setTop (mkF m 144 #[.val (.int p0), .val (.int p1), .val (.int p2), .val (.int p3), .val (.int p4), .val (.int p5), .val (.int ((p0 &&& (2147483647 : Int32)) % (6 : Int32))), .val (.ref b1), .val (.ref r177), .val (.ref r215)] [(.int ((p0 &&& (2147483647 : Int32)) % (6 : Int32))), (.ref r215)])) _
            refine XS.iloadN X213.here hx rfl (hb hby at_144) rfl ?_
            show Steps p.tables e below (T213.setTop (mkF m 145 #[.val (.int p0), .val (.int p1), .val (.int p2), .val (.int p3), .val (.int p4), .val (.int p5), .val (.int ((p0 &&& (2147483647 : Int32)) % (6 : Int32))), .val (.ref b1), .val (.ref r177), .val (.ref r215)] [(.int p1), (.int ((p0 &&& (2147483647 : Int32)) % (6 : Int32))), (.ref r215)])) _
            refine XS.iloadN X213.here hx rfl (hb hby at_145) rfl ?_
            show Steps p.tables e below (T213.setTop (mkF m 146 #[.val (.int p0), .val (.int p1), .val (.int p2), .val (.int p3), .val (.int p4), .val (.int p5), .val (.int ((p0 &&& (2147483647 : Int32)) % (6 : Int32))), .val (.ref b1), .val (.ref r177), .val (.ref r215)] [(.int p2), (.int p1), (.int ((p0 &&& (2147483647 : Int32)) % (6 : Int32))), (.ref r215)])) _
            refine XS.iloadN X213.here hx rfl (hb hby at_146) rfl ?_
            show Steps p.tables e below (T213.setTop (mkF m 147 #[.val (.int p0), .val (.int p1), .val (.int p2), .val (.int p3), .val (.int p4), .val (.int p5), .val (.int ((p0 &&& (2147483647 : Int32)) % (6 : Int32))), .val (.ref b1), .val (.ref r177), .val (.ref r215)] [(.int p3), (.int p2), (.int p1), (.int ((p0 &&& (2147483647 : Int32)) % (6 : Int32))), (.ref r215)])) _
            refine XS.iload X213.here hx rfl (hb hby at_147) rfl ?_
            show Steps p.tables e below (T213.setTop (mkF m 149 #[.val (.int p0), .val (.int p1), .val (.int p2), .val (.int p3), .val (.int p4), .val (.int p5), .val (.int ((p0 &&& (2147483647 : Int32)) % (6 : Int32))), .val (.ref b1), .val (.ref r177), .val (.ref r215)] [(.int p4), (.int p3), (.int p2), (.int p1), (.int ((p0 &&& (2147483647 : Int32)) % (6 : Int32))), (.ref r215)])) _
            refine XS.iload X213.here hx rfl (hb hby at_149) rfl ?_
            show Steps p.tables e below (T213.setTop (mkF m 151 #[.val (.int p0), .val (.int p1), .val (.int p2), .val (.int p3), .val (.int p4), .val (.int p5), .val (.int ((p0 &&& (2147483647 : Int32)) % (6 : Int32))), .val (.ref b1), .val (.ref r177), .val (.ref r215)] [(.int p5), (.int p4), (.int p3), (.int p2), (.int p1), (.int ((p0 &&& (2147483647 : Int32)) % (6 : Int32))), (.ref r215)])) _
            refine st225 _ ?_
            exact kt
          obtain ⟨fs, hr, hrun, hended, hW, hsame⟩ := X225.leave (v := some (.int (1 : Int32))) (fun h => by rw [Bd.returns] at h; cases h)
          refine ⟨_, _, pre228 _ ?_, hrun, hended, _, _, rfl, ?_, ⟨_, rfl⟩, hW, hsame.mono (by decide) (by decide)⟩
          · show Steps p.tables e below (T225.setTop (mkF m 154 #[.val (.int p0), .val (.int p1), .val (.int p2), .val (.int p3), .val (.int p4), .val (.int p5), .val (.int ((p0 &&& (2147483647 : Int32)) % (6 : Int32))), .val (.ref b1), .val (.ref r177), .val (.ref r215)] [(.int (1 : Int32))])) _
            exact retN X225 hx (t := .boolean) Bd.returns (by simp) (hb hby at_154) hr
          · show own_Q_law Z p0 p1 p2 p3 p4 p5 h0 n0 (some (.int (1 : Int32))) T225.heap _
            rw [eq226]
            exact ⟨rfl, nf227⟩
      · have zs229 : n0 ≤ T27.heap.size := Nat.le_trans Z0 k32.1
        obtain ⟨cq231, kq231, q231a, q231b, q231c⟩ := isOf hZ rfl f30
        obtain ⟨_, _, ⟨T230, L230, k230, n230⟩, -, X230, ⟨Lc230, hQ230, l230, y230, z230⟩, st230⟩ := X27.virtualBack hx (y := (⟨"com/example/interleaving/interleaving/store/StateGraph", "initialStates", "()[I"⟩ : MethodName)) (z := (⟨"com/example/interleaving/interleaving/store/StateGraph", "initialStates", "()[I"⟩ : MethodName)) hown (mvT hZ (hw _ (List.mem_of_getElem? (i := 19) rfl))) (mvT hZ (hw _ (List.mem_of_getElem? (i := 20) rfl))) (notFace_of_selects (args := #[]) (mvT hZ (hw _ (List.mem_of_getElem? (i := 22) rfl)))) (mvT hZ (hw _ (List.mem_of_getElem? (i := 22) rfl))) (mvT hZ (hw _ (List.mem_of_getElem? (i := 21) rfl))) (by decide) (backOf (W := 0) (own_rm_ist l Z a0 hw [] b1 bx10 2 16 (own_upd (own_upd (fun _ => 0) 0 p1) 1 p2) T27.heap n0 zs229 c29_0 c29_1 c29_2 (by decide) (by decide) (by decide)) hZ (hw _ (List.mem_of_getElem? (i := 23) rfl)) (hw _ (List.mem_of_getElem? (i := 3) rfl)) (by decide) (by decide)) q231a q231c (g := (mkF m 81 #[.val (.int p0), .val (.int p1), .val (.int p2), .val (.int p3), .val (.int p4), .val (.int p5), .val (.int ((p0 &&& (2147483647 : Int32)) % (6 : Int32))), .val (.ref b1), .unset, .unset] [(.ref b1)])) rfl (by rw [hml]; rfl) (Steps.refl _) (argsL := []) (rest := []) (lenOf own_pd4 rfl) rfl (by show 2 * 0 + _ ≤ _; exact Nat.le_of_eq rfl) (hb hby at_81) (fun _ _ => ⟨rfl, rfl, (by decide : 4 + 1 ≤ _), (by decide : 2072 + 32 ≤ _)⟩)
        dsimp only [Pt.U, Pt.locs, Pt.cells, Pt.slots] at X230 l230 y230 z230 st230 hQ230
        subst l230 y230 z230
        obtain ⟨r232, rfl, N232, K232, c232_0, c232_1⟩ := hQ230
        have sz_r232 : h0.size ≤ r232 := Nat.le_trans k32.1 c232_0
        have gn_r232 : n0 ≤ r232 := Nat.le_trans Z0 sz_r232
        have ne_b1_r232 : b1 ≠ r232 := Nat.ne_of_lt (Nat.lt_of_lt_of_le c29_1.lt c232_0)
        have ne_bx10_r232 : bx10 ≠ r232 := Nat.ne_of_lt (Nat.lt_of_lt_of_le c29_2.lt c232_0)
        have f233 := f30.keep K232
        have f234 := f31.keep K232
        have f235 := c29_0.keep K232 nin0
        have f236 := c29_1.keep K232 nin0
        have f237 := c29_2.keep K232 nin0
        have k238 := k32.trans K232 all0
        have nf239 := Fr.app nf33 N232
        have zs240 : n0 ≤ T230.heap.size := Nat.le_trans Z0 k238.1
        obtain ⟨_, _, ⟨T241, L241, k241, n241⟩, -, X241, ⟨Lc241, hQ241, l241, y241, z241⟩, st241⟩ := Jvm.LawKit.callS X230 hx (y := (⟨"com/example/interleaving/interleaving/store/StateGraphInitialStatesPinLaw", "matches", "([IIIIIII)Z"⟩ : MethodName)) hown (mvT hZ (hw _ (List.mem_of_getElem? (i := 38) rfl))) (mvT hZ (hw _ (List.mem_of_getElem? (i := 39) rfl))) (mvT hZ (hw _ (List.mem_of_getElem? (i := 40) rfl))) (mvT hZ (hw _ (List.mem_of_getElem? (i := 41) rfl))) (by decide) (backOf (W := 0) (own_rm_mt l Z a0 hw [] r232 ((p0 &&& (2147483647 : Int32)) % (6 : Int32)) p1 p2 p3 p4 p5 2 (own_upd (own_upd (fun _ => 0) 0 p1) 1 p2) T230.heap n0 zs240 c232_1 (own_kN 1 (by decide) hc25 (own_le 1 (by decide) hc35)) (by decide) (fun j hj => by rcases j with _ | _ | j <;> first | rfl | omega)) hZ (hw _ (List.mem_of_getElem? (i := 41) rfl)) (hw _ (List.mem_of_getElem? (i := 40) rfl)) (by decide) (by decide)) (g := (mkF m 97 #[.val (.int p0), .val (.int p1), .val (.int p2), .val (.int p3), .val (.int p4), .val (.int p5), .val (.int ((p0 &&& (2147483647 : Int32)) % (6 : Int32))), .val (.ref b1), .val (.ref r232), .unset] [(.int p5), (.int p4), (.int p3), (.int p2), (.int p1), (.int ((p0 &&& (2147483647 : Int32)) % (6 : Int32))), (.ref r232)])) rfl (by rw [hml]; rfl) (argsL := [(.ref r232), (.int ((p0 &&& (2147483647 : Int32)) % (6 : Int32))), (.int p1), (.int p2), (.int p3), (.int p4), (.int p5)]) (rest := []) (lenOf own_pd5 rfl) rfl (by show 2 * 0 + _ ≤ _; exact Nat.le_of_eq rfl) (hb hby at_97) (fun _ _ => ⟨rfl, rfl, (by decide : 5 + 0 ≤ _), (by decide : 2104 + 0 ≤ _)⟩)
        dsimp only [Pt.U, Pt.locs, Pt.cells, Pt.slots] at X241 l241 y241 z241 st241 hQ241
        subst l241 y241 z241
        obtain ⟨rfl, N242, eq242⟩ := hQ241
        have nf243 := Fr.app nf239 N242
        obtain ⟨cl244, Ar244, S244, H244⟩ := id c232_1
        have hin244 : ¬ ((0 : Int32) < 0 ∨ cl244.slots.size ≤ ((0 : Int32)).toNatClampNeg) := own_inb S244 (by decide) (by decide)
        obtain ⟨T245, h245, X245, e245, W245, st245⟩ := stI X241 hx hZ eq242 Ar244 (j := (0 : Int32)) hin244 (g := (mkF m 116 #[.val (.int p0), .val (.int p1), .val (.int p2), .val (.int p3), .val (.int p4), .val (.int p5), .val (.int ((p0 &&& (2147483647 : Int32)) % (6 : Int32))), .val (.ref b1), .val (.ref r232), .unset] [(.int (p1 ^^^ (1 : Int32))), (.int (0 : Int32)), (.ref r232)])) rfl rfl (hb hby at_116)
        have f246 := f233.wr W245
        have f247 := f234.wr W245
        have f248 := f235.other W245 (Or.inl ne_b1_r232)
        have f249 := f236.other W245 (Or.inl ne_b1_r232)
        have f250 := f237.other W245 ne_bx10_r232
        have k252 := k238.wr W245 (Or.inr sz_r232)
        have nf253 := Fr.snoc X245 nf243 gn_r232
        have f254 := c232_1.set W245
        obtain ⟨cl255, Ar255, S255, H255⟩ := id f254
        have hin255 : ¬ ((((p0 &&& (2147483647 : Int32)) % (6 : Int32)) - (1 : Int32)) < 0 ∨ cl255.slots.size ≤ ((((p0 &&& (2147483647 : Int32)) % (6 : Int32)) - (1 : Int32))).toNatClampNeg) := own_inb S255 (by rw [(own_kN 1 (by decide) hc25 (own_le 1 (by decide) hc35))]; decide) (by rw [(own_kN 1 (by decide) hc25 (own_le 1 (by decide) hc35))]; decide)
        have hat255 : cl255.slots[((((p0 &&& (2147483647 : Int32)) % (6 : Int32)) - (1 : Int32))).toNatClampNeg]? = some (.int ((own_upd (own_upd (own_upd (fun _ => 0) 0 p1) 1 p2) ((0 : Int32)).toNatClampNeg (p1 ^^^ (1 : Int32))) ((((p0 &&& (2147483647 : Int32)) % (6 : Int32)) - (1 : Int32))).toNatClampNeg)) := H255 _ (by rw [(own_kN 1 (by decide) hc25 (own_le 1 (by decide) hc35))]; decide)
        obtain ⟨cl256, Ar256, S256, H256⟩ := id f254
        have hin256 : ¬ ((((p0 &&& (2147483647 : Int32)) % (6 : Int32)) - (1 : Int32)) < 0 ∨ cl256.slots.size ≤ ((((p0 &&& (2147483647 : Int32)) % (6 : Int32)) - (1 : Int32))).toNatClampNeg) := own_inb S256 (by rw [(own_kN 1 (by decide) hc25 (own_le 1 (by decide) hc35))]; decide) (by rw [(own_kN 1 (by decide) hc25 (own_le 1 (by decide) hc35))]; decide)
        obtain ⟨T257, h257, X257, e257, W257, st257⟩ := stI X245 hx hZ e245 Ar256 (j := (((p0 &&& (2147483647 : Int32)) % (6 : Int32)) - (1 : Int32))) hin256 (g := (mkF m 132 #[.val (.int p0), .val (.int p1), .val (.int p2), .val (.int p3), .val (.int p4), .val (.int p5), .val (.int ((p0 &&& (2147483647 : Int32)) % (6 : Int32))), .val (.ref b1), .val (.ref r232), .unset] [(.int (((own_upd (own_upd (own_upd (fun _ => 0) 0 p1) 1 p2) ((0 : Int32)).toNatClampNeg (p1 ^^^ (1 : Int32))) ((((p0 &&& (2147483647 : Int32)) % (6 : Int32)) - (1 : Int32))).toNatClampNeg) ^^^ (2 : Int32))), (.int (((p0 &&& (2147483647 : Int32)) % (6 : Int32)) - (1 : Int32))), (.ref r232)])) rfl rfl (hb hby at_132)
        have f258 := f246.wr W257
        have f259 := f247.wr W257
        have f260 := f248.other W257 (Or.inl ne_b1_r232)
        have f261 := f249.other W257 (Or.inl ne_b1_r232)
        have f262 := f250.other W257 ne_bx10_r232
        have k264 := k252.wr W257 (Or.inr sz_r232)
        have nf265 := Fr.snoc X257 nf253 gn_r232
        have f266 := f254.set W257
        have zs267 : n0 ≤ h257.size := Nat.le_trans Z0 k264.1
        obtain ⟨cq269, kq269, q269a, q269b, q269c⟩ := isOf hZ e257 f258
        obtain ⟨_, _, ⟨T268, L268, k268, n268⟩, -, X268, ⟨Lc268, hQ268, l268, y268, z268⟩, st268⟩ := X257.virtualBack hx (y := (⟨"com/example/interleaving/interleaving/store/StateGraph", "initialStates", "()[I"⟩ : MethodName)) (z := (⟨"com/example/interleaving/interleaving/store/StateGraph", "initialStates", "()[I"⟩ : MethodName)) hown (mvT hZ (hw _ (List.mem_of_getElem? (i := 19) rfl))) (mvT hZ (hw _ (List.mem_of_getElem? (i := 20) rfl))) (notFace_of_selects (args := #[]) (mvT hZ (hw _ (List.mem_of_getElem? (i := 22) rfl)))) (mvT hZ (hw _ (List.mem_of_getElem? (i := 22) rfl))) (mvT hZ (hw _ (List.mem_of_getElem? (i := 21) rfl))) (by decide) (backOf (W := 0) (own_rm_ist l Z a0 hw [] b1 bx10 2 16 (own_upd (own_upd (fun _ => 0) 0 p1) 1 p2) h257 n0 zs267 f260 f261 f262 (by decide) (by decide) (by decide)) hZ (hw _ (List.mem_of_getElem? (i := 23) rfl)) (hw _ (List.mem_of_getElem? (i := 3) rfl)) (by decide) (by decide)) q269a q269c (g := (mkF m 135 #[.val (.int p0), .val (.int p1), .val (.int p2), .val (.int p3), .val (.int p4), .val (.int p5), .val (.int ((p0 &&& (2147483647 : Int32)) % (6 : Int32))), .val (.ref b1), .val (.ref r232), .unset] [(.ref b1)])) rfl (by rw [hml]; rfl) (Steps.refl _) (argsL := []) (rest := []) (lenOf own_pd4 rfl) rfl (by show 2 * 0 + _ ≤ _; exact Nat.le_of_eq rfl) (hb hby at_135) (fun _ _ => ⟨rfl, e257, (by decide : 5 + 1 ≤ _), (by decide : 2104 + 32 ≤ _)⟩)
        dsimp only [Pt.U, Pt.locs, Pt.cells, Pt.slots] at X268 l268 y268 z268 st268 hQ268
        subst l268 y268 z268
        obtain ⟨r270, rfl, N270, K270, c270_0, c270_1⟩ := hQ268
        have sz_r270 : h0.size ≤ r270 := Nat.le_trans k264.1 c270_0
        have gn_r270 : n0 ≤ r270 := Nat.le_trans Z0 sz_r270
        have ne_b1_r270 : b1 ≠ r270 := Nat.ne_of_lt (Nat.lt_of_lt_of_le f261.lt c270_0)
        have ne_bx10_r270 : bx10 ≠ r270 := Nat.ne_of_lt (Nat.lt_of_lt_of_le f262.lt c270_0)
        have ne_r232_r270 : r232 ≠ r270 := Nat.ne_of_lt (Nat.lt_of_lt_of_le f266.lt c270_0)
        have f271 := f258.keep K270
        have f272 := f259.keep K270
        have f273 := f260.keep K270 nin0
        have f274 := f261.keep K270 nin0
        have f275 := f262.keep K270 nin0
        have f276 := f266.keep K270 nin0
        have k277 := k264.trans K270 all0
        have nf278 := Fr.app nf265 N270
        have zs279 : n0 ≤ T268.heap.size := Nat.le_trans Z0 k277.1
        obtain ⟨_, _, ⟨T280, L280, k280, n280⟩, -, X280, ⟨Lc280, hQ280, l280, y280, z280⟩, st280⟩ := Jvm.LawKit.callS X268 hx (y := (⟨"com/example/interleaving/interleaving/store/StateGraphInitialStatesPinLaw", "matches", "([IIIIIII)Z"⟩ : MethodName)) hown (mvT hZ (hw _ (List.mem_of_getElem? (i := 38) rfl))) (mvT hZ (hw _ (List.mem_of_getElem? (i := 39) rfl))) (mvT hZ (hw _ (List.mem_of_getElem? (i := 40) rfl))) (mvT hZ (hw _ (List.mem_of_getElem? (i := 41) rfl))) (by decide) (backOf (W := 0) (own_rm_mt l Z a0 hw [] r270 ((p0 &&& (2147483647 : Int32)) % (6 : Int32)) p1 p2 p3 p4 p5 2 (own_upd (own_upd (fun _ => 0) 0 p1) 1 p2) T268.heap n0 zs279 c270_1 (own_kN 1 (by decide) hc25 (own_le 1 (by decide) hc35)) (by decide) (fun j hj => by rcases j with _ | _ | j <;> first | rfl | omega)) hZ (hw _ (List.mem_of_getElem? (i := 41) rfl)) (hw _ (List.mem_of_getElem? (i := 40) rfl)) (by decide) (by decide)) (g := (mkF m 151 #[.val (.int p0), .val (.int p1), .val (.int p2), .val (.int p3), .val (.int p4), .val (.int p5), .val (.int ((p0 &&& (2147483647 : Int32)) % (6 : Int32))), .val (.ref b1), .val (.ref r232), .val (.ref r270)] [(.int p5), (.int p4), (.int p3), (.int p2), (.int p1), (.int ((p0 &&& (2147483647 : Int32)) % (6 : Int32))), (.ref r270)])) rfl (by rw [hml]; rfl) (argsL := [(.ref r270), (.int ((p0 &&& (2147483647 : Int32)) % (6 : Int32))), (.int p1), (.int p2), (.int p3), (.int p4), (.int p5)]) (rest := []) (lenOf own_pd5 rfl) rfl (by show 2 * 0 + _ ≤ _; exact Nat.le_of_eq rfl) (hb hby at_151) (fun _ _ => ⟨rfl, rfl, (by decide : 6 + 0 ≤ _), (by decide : 2136 + 0 ≤ _)⟩)
        dsimp only [Pt.U, Pt.locs, Pt.cells, Pt.slots] at X280 l280 y280 z280 st280 hQ280
        subst l280 y280 z280
        obtain ⟨rfl, N281, eq281⟩ := hQ280
        have nf282 := Fr.app nf278 N281
        have pre283 : ∀ t, Steps p.tables e below (T280.setTop (mkF m 154 #[.val (.int p0), .val (.int p1), .val (.int p2), .val (.int p3), .val (.int p4), .val (.int p5), .val (.int ((p0 &&& (2147483647 : Int32)) % (6 : Int32))), .val (.ref b1), .val (.ref r232), .val (.ref r270)] [(.int (1 : Int32))])) t → Steps p.tables e below (s₁.setTop (entryFrame m #[(.int p0), (.int p1), (.int p2), (.int p3), (.int p4), (.int p5)] maxLocals)) t := by
          intro t kt
          refine pre34 t ?_
          show Steps p.tables e below (T27.setTop (mkF m 44 #[.val (.int p0), .val (.int p1), .val (.int p2), .val (.int p3), .val (.int p4), .val (.int p5), .val (.int ((p0 &&& (2147483647 : Int32)) % (6 : Int32))), .val (.ref b1), .unset, .unset] [(.int (2 : Int32)), (.int ((p0 &&& (2147483647 : Int32)) % (6 : Int32)))])) _
          refine XS.icmpYes X27.here hx rfl (pc0 := 44) (pc' := 53) rfl (hb hby at_44) rfl (flt hc35).2.2.2 (by decide) (by decide) ?_
          show Steps p.tables e below (T27.setTop (mkF m 53 #[.val (.int p0), .val (.int p1), .val (.int p2), .val (.int p3), .val (.int p4), .val (.int p5), .val (.int ((p0 &&& (2147483647 : Int32)) % (6 : Int32))), .val (.ref b1), .unset, .unset] [])) _
          refine XS.iload X27.here hx rfl (hb hby at_53) rfl ?_
          show Steps p.tables e below (T27.setTop (mkF m 55 #[.val (.int p0), .val (.int p1), .val (.int p2), .val (.int p3), .val (.int p4), .val (.int p5), .val (.int ((p0 &&& (2147483647 : Int32)) % (6 : Int32))), .val (.ref b1), .unset, .unset] [(.int ((p0 &&& (2147483647 : Int32)) % (6 : Int32)))])) _
          refine XS.iconst X27.here hx rfl (hb hby at_55) ?_
          show Steps p.tables e below (T27.setTop (mkF m 56 #[.val (.int p0), .val (.int p1), .val (.int p2), .val (.int p3), .val (.int p4), .val (.int p5), .val (.int ((p0 &&& (2147483647 : Int32)) % (6 : Int32))), .val (.ref b1), .unset, .unset] [(.int (3 : Int32)), (.int ((p0 &&& (2147483647 : Int32)) % (6 : Int32)))])) _
          refine XS.icmpYes X27.here hx rfl (pc0 := 56) (pc' := 66) rfl (hb hby at_56) rfl (flt (own_no (2 : Int32) (3 : Int32) hc35 (by decide))).2.2.2 (by decide) (by decide) ?_
          show Steps p.tables e below (T27.setTop (mkF m 66 #[.val (.int p0), .val (.int p1), .val (.int p2), .val (.int p3), .val (.int p4), .val (.int p5), .val (.int ((p0 &&& (2147483647 : Int32)) % (6 : Int32))), .val (.ref b1), .unset, .unset] [])) _
          refine XS.iload X27.here hx rfl (hb hby at_66) rfl ?_
          show Steps p.tables e below (T27.setTop (mkF m 68 #[.val (.int p0), .val (.int p1), .val (.int p2), .val (.int p3), .val (.int p4), .val (.int p5), .val (.int ((p0 &&& (2147483647 : Int32)) % (6 : Int32))), .val (.ref b1), .unset, .unset] [(.int ((p0 &&& (2147483647 : Int32)) % (6 : Int32)))])) _
          refine XS.iconst X27.here hx rfl (hb hby at_68) ?_
          show Steps p.tables e below (T27.setTop (mkF m 69 #[.val (.int p0), .val (.int p1), .val (.int p2), .val (.int p3), .val (.int p4), .val (.int p5), .val (.int ((p0 &&& (2147483647 : Int32)) % (6 : Int32))), .val (.ref b1), .unset, .unset] [(.int (4 : Int32)), (.int ((p0 &&& (2147483647 : Int32)) % (6 : Int32)))])) _
          refine XS.icmpYes X27.here hx rfl (pc0 := 69) (pc' := 79) rfl (hb hby at_69) rfl (flt (own_no (3 : Int32) (4 : Int32) (own_no (2 : Int32) (3 : Int32) hc35 (by decide)) (by decide))).2.2.2 (by decide) (by decide) ?_
          show Steps p.tables e below (T27.setTop (mkF m 79 #[.val (.int p0), .val (.int p1), .val (.int p2), .val (.int p3), .val (.int p4), .val (.int p5), .val (.int ((p0 &&& (2147483647 : Int32)) % (6 : Int32))), .val (.ref b1), .unset, .unset] [])) _
          refine XS.aload X27.here hx rfl (hb hby at_79) rfl rfl ?_
          show Steps p.tables e below (T27.setTop (mkF m 81 #[.val (.int p0), .val (.int p1), .val (.int p2), .val (.int p3), .val (.int p4), .val (.int p5), .val (.int ((p0 &&& (2147483647 : Int32)) % (6 : Int32))), .val (.ref b1), .unset, .unset] [(.ref b1)])) _
          refine st230.trans ?_
          show Steps p.tables e below (T230.setTop (mkF m 84 #[.val (.int p0), .val (.int p1), .val (.int p2), .val (.int p3), .val (.int p4), .val (.int p5), .val (.int ((p0 &&& (2147483647 : Int32)) % (6 : Int32))), .val (.ref b1), .unset, .unset] [(.ref r232)])) _
          refine XS.astore X230.here hx rfl (hb hby at_84) rfl rfl (l' := #[.val (.int p0), .val (.int p1), .val (.int p2), .val (.int p3), .val (.int p4), .val (.int p5), .val (.int ((p0 &&& (2147483647 : Int32)) % (6 : Int32))), .val (.ref b1), .val (.ref r232), .unset]) rfl ?_
          show Steps p.tables e below (T230.setTop (mkF m 86 #[.val (.int p0), .val (.int p1), .val (.int p2), .val (.int p3), .val (.int p4), .val (.int p5), .val (.int ((p0 &&& (2147483647 : Int32)) % (6 : Int32))), .val (.ref b1), .val (.ref r232), .unset] [])) _
          refine XS.aload X230.here hx rfl (hb hby at_86) rfl rfl ?_
          show Steps p.tables e below (T230.setTop (mkF m 88 #[.val (.int p0), .val (.int p1), .val (.int p2), .val (.int p3), .val (.int p4), .val (.int p5), .val (.int ((p0 &&& (2147483647 : Int32)) % (6 : Int32))), .val (.ref b1), .val (.ref r232), .unset] [(.ref r232)])) _
          refine XS.iload X230.here hx rfl (hb hby at_88) rfl ?_
          show Steps p.tables e below (T230.setTop (mkF m 90 #[.val (.int p0), .val (.int p1), .val (.int p2), .val (.int p3), .val (.int p4), .val (.int p5), .val (.int ((p0 &&& (2147483647 : Int32)) % (6 : Int32))), .val (.ref b1), .val (.ref r232), .unset] [(.int ((p0 &&& (2147483647 : Int32)) % (6 : Int32))), (.ref r232)])) _
          refine XS.iloadN X230.here hx rfl (hb hby at_90) rfl ?_
          show Steps p.tables e below (T230.setTop (mkF m 91 #[.val (.int p0), .val (.int p1), .val (.int p2), .val (.int p3), .val (.int p4), .val (.int p5), .val (.int ((p0 &&& (2147483647 : Int32)) % (6 : Int32))), .val (.ref b1), .val (.ref r232), .unset] [(.int p1), (.int ((p0 &&& (2147483647 : Int32)) % (6 : Int32))), (.ref r232)])) _
          refine XS.iloadN X230.here hx rfl (hb hby at_91) rfl ?_
          show Steps p.tables e below (T230.setTop (mkF m 92 #[.val (.int p0), .val (.int p1), .val (.int p2), .val (.int p3), .val (.int p4), .val (.int p5), .val (.int ((p0 &&& (2147483647 : Int32)) % (6 : Int32))), .val (.ref b1), .val (.ref r232), .unset] [(.int p2), (.int p1), (.int ((p0 &&& (2147483647 : Int32)) % (6 : Int32))), (.ref r232)])) _
          refine XS.iloadN X230.here hx rfl (hb hby at_92) rfl ?_
          show Steps p.tables e below (T230.setTop (mkF m 93 #[.val (.int p0), .val (.int p1), .val (.int p2), .val (.int p3), .val (.int p4), .val (.int p5), .val (.int ((p0 &&& (2147483647 : Int32)) % (6 : Int32))), .val (.ref b1), .val (.ref r232), .unset] [(.int p3), (.int p2), (.int p1), (.int ((p0 &&& (2147483647 : Int32)) % (6 : Int32))), (.ref r232)])) _
          refine XS.iload X230.here hx rfl (hb hby at_93) rfl ?_
          show Steps p.tables e below (T230.setTop (mkF m 95 #[.val (.int p0), .val (.int p1), .val (.int p2), .val (.int p3), .val (.int p4), .val (.int p5), .val (.int ((p0 &&& (2147483647 : Int32)) % (6 : Int32))), .val (.ref b1), .val (.ref r232), .unset] [(.int p4), (.int p3), (.int p2), (.int p1), (.int ((p0 &&& (2147483647 : Int32)) % (6 : Int32))), (.ref r232)])) _
          refine XS.iload X230.here hx rfl (hb hby at_95) rfl ?_
          show Steps p.tables e below (T230.setTop (mkF m 97 #[.val (.int p0), .val (.int p1), .val (.int p2), .val (.int p3), .val (.int p4), .val (.int p5), .val (.int ((p0 &&& (2147483647 : Int32)) % (6 : Int32))), .val (.ref b1), .val (.ref r232), .unset] [(.int p5), (.int p4), (.int p3), (.int p2), (.int p1), (.int ((p0 &&& (2147483647 : Int32)) % (6 : Int32))), (.ref r232)])) _
          refine st241 _ ?_
          show Steps p.tables e below (T241.setTop (mkF m 100 #[.val (.int p0), .val (.int p1), .val (.int p2), .val (.int p3), .val (.int p4), .val (.int p5), .val (.int ((p0 &&& (2147483647 : Int32)) % (6 : Int32))), .val (.ref b1), .val (.ref r232), .unset] [(.int (1 : Int32))])) _
          refine XS.ifYes X241.here hx rfl (pc0 := 100) (pc' := 105) rfl (hb hby at_100) rfl ((if0 _ _).trans (feq (by decide : ¬ ((1 : Int32) = (0 : Int32)))).2) (by decide) (by decide) ?_
          show Steps p.tables e below (T241.setTop (mkF m 105 #[.val (.int p0), .val (.int p1), .val (.int p2), .val (.int p3), .val (.int p4), .val (.int p5), .val (.int ((p0 &&& (2147483647 : Int32)) % (6 : Int32))), .val (.ref b1), .val (.ref r232), .unset] [])) _
          refine XS.iload X241.here hx rfl (hb hby at_105) rfl ?_
          show Steps p.tables e below (T241.setTop (mkF m 107 #[.val (.int p0), .val (.int p1), .val (.int p2), .val (.int p3), .val (.int p4), .val (.int p5), .val (.int ((p0 &&& (2147483647 : Int32)) % (6 : Int32))), .val (.ref b1), .val (.ref r232), .unset] [(.int ((p0 &&& (2147483647 : Int32)) % (6 : Int32)))])) _
          refine XS.ifNo X241.here hx rfl (hb hby at_107) rfl ((if0 _ _).trans (tlt hc15).2.2.2) ?_
          show Steps p.tables e below (T241.setTop (mkF m 110 #[.val (.int p0), .val (.int p1), .val (.int p2), .val (.int p3), .val (.int p4), .val (.int p5), .val (.int ((p0 &&& (2147483647 : Int32)) % (6 : Int32))), .val (.ref b1), .val (.ref r232), .unset] [])) _
          refine XS.aload X241.here hx rfl (hb hby at_110) rfl rfl ?_
          show Steps p.tables e below (T241.setTop (mkF m 112 #[.val (.int p0), .val (.int p1), .val (.int p2), .val (.int p3), .val (.int p4), .val (.int p5), .val (.int ((p0 &&& (2147483647 : Int32)) % (6 : Int32))), .val (.ref b1), .val (.ref r232), .unset] [(.ref r232)])) _
          refine XS.iconst X241.here hx rfl (hb hby at_112) ?_
          show Steps p.tables e below (T241.setTop (mkF m 113 #[.val (.int p0), .val (.int p1), .val (.int p2), .val (.int p3), .val (.int p4), .val (.int p5), .val (.int ((p0 &&& (2147483647 : Int32)) % (6 : Int32))), .val (.ref b1), .val (.ref r232), .unset] [(.int (0 : Int32)), (.ref r232)])) _
          refine XS.iloadN X241.here hx rfl (hb hby at_113) rfl ?_
          show Steps p.tables e below (T241.setTop (mkF m 114 #[.val (.int p0), .val (.int p1), .val (.int p2), .val (.int p3), .val (.int p4), .val (.int p5), .val (.int ((p0 &&& (2147483647 : Int32)) % (6 : Int32))), .val (.ref b1), .val (.ref r232), .unset] [(.int p1), (.int (0 : Int32)), (.ref r232)])) _
          refine XS.iconst X241.here hx rfl (hb hby at_114) ?_
          show Steps p.tables e below (T241.setTop (mkF m 115 #[.val (.int p0), .val (.int p1), .val (.int p2), .val (.int p3), .val (.int p4), .val (.int p5), .val (.int ((p0 &&& (2147483647 : Int32)) % (6 : Int32))), .val (.ref b1), .val (.ref r232), .unset] [(.int (1 : Int32)), (.int p1), (.int (0 : Int32)), (.ref r232)])) _
          refine XS.ixor X241.here hx rfl (hb hby at_115) rfl ?_
          show Steps p.tables e below (T241.setTop (mkF m 116 #[.val (.int p0), .val (.int p1), .val (.int p2), .val (.int p3), .val (.int p4), .val (.int p5), .val (.int ((p0 &&& (2147483647 : Int32)) % (6 : Int32))), .val (.ref b1), .val (.ref r232), .unset] [(.int (p1 ^^^ (1 : Int32))), (.int (0 : Int32)), (.ref r232)])) _
          refine st245 _ ?_
          show Steps p.tables e below (T245.setTop (mkF m 117 #[.val (.int p0), .val (.int p1), .val (.int p2), .val (.int p3), .val (.int p4), .val (.int p5), .val (.int ((p0 &&& (2147483647 : Int32)) % (6 : Int32))), .val (.ref b1), .val (.ref r232), .unset] [])) _
          refine XS.aload X245.here hx rfl (hb hby at_117) rfl rfl ?_
          show Steps p.tables e below (T245.setTop (mkF m 119 #[.val (.int p0), .val (.int p1), .val (.int p2), .val (.int p3), .val (.int p4), .val (.int p5), .val (.int ((p0 &&& (2147483647 : Int32)) % (6 : Int32))), .val (.ref b1), .val (.ref r232), .unset] [(.ref r232)])) _
          refine XS.iload X245.here hx rfl (hb hby at_119) rfl ?_
          show Steps p.tables e below (T245.setTop (mkF m 121 #[.val (.int p0), .val (.int p1), .val (.int p2), .val (.int p3), .val (.int p4), .val (.int p5), .val (.int ((p0 &&& (2147483647 : Int32)) % (6 : Int32))), .val (.ref b1), .val (.ref r232), .unset] [(.int ((p0 &&& (2147483647 : Int32)) % (6 : Int32))), (.ref r232)])) _
          refine XS.iconst X245.here hx rfl (hb hby at_121) ?_
          show Steps p.tables e below (T245.setTop (mkF m 122 #[.val (.int p0), .val (.int p1), .val (.int p2), .val (.int p3), .val (.int p4), .val (.int p5), .val (.int ((p0 &&& (2147483647 : Int32)) % (6 : Int32))), .val (.ref b1), .val (.ref r232), .unset] [(.int (1 : Int32)), (.int ((p0 &&& (2147483647 : Int32)) % (6 : Int32))), (.ref r232)])) _
          refine XS.isub X245.here hx rfl (hb hby at_122) rfl ?_
          show Steps p.tables e below (T245.setTop (mkF m 123 #[.val (.int p0), .val (.int p1), .val (.int p2), .val (.int p3), .val (.int p4), .val (.int p5), .val (.int ((p0 &&& (2147483647 : Int32)) % (6 : Int32))), .val (.ref b1), .val (.ref r232), .unset] [(.int (((p0 &&& (2147483647 : Int32)) % (6 : Int32)) - (1 : Int32))), (.ref r232)])) _
          refine XS.aload X245.here hx rfl (hb hby at_123) rfl rfl ?_
          show Steps p.tables e below (T245.setTop (mkF m 125 #[.val (.int p0), .val (.int p1), .val (.int p2), .val (.int p3), .val (.int p4), .val (.int p5), .val (.int ((p0 &&& (2147483647 : Int32)) % (6 : Int32))), .val (.ref b1), .val (.ref r232), .unset] [(.ref r232), (.int (((p0 &&& (2147483647 : Int32)) % (6 : Int32)) - (1 : Int32))), (.ref r232)])) _
          refine XS.iload X245.here hx rfl (hb hby at_125) rfl ?_
          show Steps p.tables e below (T245.setTop (mkF m 127 #[.val (.int p0), .val (.int p1), .val (.int p2), .val (.int p3), .val (.int p4), .val (.int p5), .val (.int ((p0 &&& (2147483647 : Int32)) % (6 : Int32))), .val (.ref b1), .val (.ref r232), .unset] [(.int ((p0 &&& (2147483647 : Int32)) % (6 : Int32))), (.ref r232), (.int (((p0 &&& (2147483647 : Int32)) % (6 : Int32)) - (1 : Int32))), (.ref r232)])) _
          refine XS.iconst X245.here hx rfl (hb hby at_127) ?_
          show Steps p.tables e below (T245.setTop (mkF m 128 #[.val (.int p0), .val (.int p1), .val (.int p2), .val (.int p3), .val (.int p4), .val (.int p5), .val (.int ((p0 &&& (2147483647 : Int32)) % (6 : Int32))), .val (.ref b1), .val (.ref r232), .unset] [(.int (1 : Int32)), (.int ((p0 &&& (2147483647 : Int32)) % (6 : Int32))), (.ref r232), (.int (((p0 &&& (2147483647 : Int32)) % (6 : Int32)) - (1 : Int32))), (.ref r232)])) _
          refine XS.isub X245.here hx rfl (hb hby at_128) rfl ?_
          show Steps p.tables e below (T245.setTop (mkF m 129 #[.val (.int p0), .val (.int p1), .val (.int p2), .val (.int p3), .val (.int p4), .val (.int p5), .val (.int ((p0 &&& (2147483647 : Int32)) % (6 : Int32))), .val (.ref b1), .val (.ref r232), .unset] [(.int (((p0 &&& (2147483647 : Int32)) % (6 : Int32)) - (1 : Int32))), (.ref r232), (.int (((p0 &&& (2147483647 : Int32)) % (6 : Int32)) - (1 : Int32))), (.ref r232)])) _
          refine X245.iaload hx (j := (((p0 &&& (2147483647 : Int32)) % (6 : Int32)) - (1 : Int32))) (v := (.int ((own_upd (own_upd (own_upd (fun _ => 0) 0 p1) 1 p2) ((0 : Int32)).toNatClampNeg (p1 ^^^ (1 : Int32))) ((((p0 &&& (2147483647 : Int32)) % (6 : Int32)) - (1 : Int32))).toNatClampNeg))) (by rw [e245]; exact Ar255.1) (State.isArrayOf_alike hZ.alike Ar255.2.1) Ar255.2.2 hin255 hat255 (g := (mkF m 129 #[.val (.int p0), .val (.int p1), .val (.int p2), .val (.int p3), .val (.int p4), .val (.int p5), .val (.int ((p0 &&& (2147483647 : Int32)) % (6 : Int32))), .val (.ref b1), .val (.ref r232), .unset] [(.int (((p0 &&& (2147483647 : Int32)) % (6 : Int32)) - (1 : Int32))), (.ref r232), (.int (((p0 &&& (2147483647 : Int32)) % (6 : Int32)) - (1 : Int32))), (.ref r232)])) rfl rfl (hb hby at_129) _ ?_
          show Steps p.tables e below (T245.setTop (mkF m 130 #[.val (.int p0), .val (.int p1), .val (.int p2), .val (.int p3), .val (.int p4), .val (.int p5), .val (.int ((p0 &&& (2147483647 : Int32)) % (6 : Int32))), .val (.ref b1), .val (.ref r232), .unset] [(.int ((own_upd (own_upd (own_upd (fun _ => 0) 0 p1) 1 p2) ((0 : Int32)).toNatClampNeg (p1 ^^^ (1 : Int32))) ((((p0 &&& (2147483647 : Int32)) % (6 : Int32)) - (1 : Int32))).toNatClampNeg)), (.int (((p0 &&& (2147483647 : Int32)) % (6 : Int32)) - (1 : Int32))), (.ref r232)])) _
          refine XS.iconst X245.here hx rfl (hb hby at_130) ?_
          show Steps p.tables e below (T245.setTop (mkF m 131 #[.val (.int p0), .val (.int p1), .val (.int p2), .val (.int p3), .val (.int p4), .val (.int p5), .val (.int ((p0 &&& (2147483647 : Int32)) % (6 : Int32))), .val (.ref b1), .val (.ref r232), .unset] [(.int (2 : Int32)), (.int ((own_upd (own_upd (own_upd (fun _ => 0) 0 p1) 1 p2) ((0 : Int32)).toNatClampNeg (p1 ^^^ (1 : Int32))) ((((p0 &&& (2147483647 : Int32)) % (6 : Int32)) - (1 : Int32))).toNatClampNeg)), (.int (((p0 &&& (2147483647 : Int32)) % (6 : Int32)) - (1 : Int32))), (.ref r232)])) _
          refine XS.ixor X245.here hx rfl (hb hby at_131) rfl ?_
          show Steps p.tables e below (T245.setTop (mkF m 132 #[.val (.int p0), .val (.int p1), .val (.int p2), .val (.int p3), .val (.int p4), .val (.int p5), .val (.int ((p0 &&& (2147483647 : Int32)) % (6 : Int32))), .val (.ref b1), .val (.ref r232), .unset] [(.int (((own_upd (own_upd (own_upd (fun _ => 0) 0 p1) 1 p2) ((0 : Int32)).toNatClampNeg (p1 ^^^ (1 : Int32))) ((((p0 &&& (2147483647 : Int32)) % (6 : Int32)) - (1 : Int32))).toNatClampNeg) ^^^ (2 : Int32))), (.int (((p0 &&& (2147483647 : Int32)) % (6 : Int32)) - (1 : Int32))), (.ref r232)])) _
          refine st257 _ ?_
          show Steps p.tables e below (T257.setTop (mkF m 133 #[.val (.int p0), .val (.int p1), .val (.int p2), .val (.int p3), .val (.int p4), .val (.int p5), .val (.int ((p0 &&& (2147483647 : Int32)) % (6 : Int32))), .val (.ref b1), .val (.ref r232), .unset] [])) _
          refine XS.aload X257.here hx rfl (hb hby at_133) rfl rfl ?_
          show Steps p.tables e below (T257.setTop (mkF m 135 #[.val (.int p0), .val (.int p1), .val (.int p2), .val (.int p3), .val (.int p4), .val (.int p5), .val (.int ((p0 &&& (2147483647 : Int32)) % (6 : Int32))), .val (.ref b1), .val (.ref r232), .unset] [(.ref b1)])) _
          refine st268.trans ?_
          show Steps p.tables e below (T268.setTop (mkF m 138 #[.val (.int p0), .val (.int p1), .val (.int p2), .val (.int p3), .val (.int p4), .val (.int p5), .val (.int ((p0 &&& (2147483647 : Int32)) % (6 : Int32))), .val (.ref b1), .val (.ref r232), .unset] [(.ref r270)])) _
          refine XS.astore X268.here hx rfl (hb hby at_138) rfl rfl (l' := #[.val (.int p0), .val (.int p1), .val (.int p2), .val (.int p3), .val (.int p4), .val (.int p5), .val (.int ((p0 &&& (2147483647 : Int32)) % (6 : Int32))), .val (.ref b1), .val (.ref r232), .val (.ref r270)]) rfl ?_
          show Steps p.tables e below (T268.setTop (mkF m 140 #[.val (.int p0), .val (.int p1), .val (.int p2), .val (.int p3), .val (.int p4), .val (.int p5), .val (.int ((p0 &&& (2147483647 : Int32)) % (6 : Int32))), .val (.ref b1), .val (.ref r232), .val (.ref r270)] [])) _
          refine XS.aload X268.here hx rfl (hb hby at_140) rfl rfl ?_
          show Steps p.tables e below (T268.setTop (mkF m 142 #[.val (.int p0), .val (.int p1), .val (.int p2), .val (.int p3), .val (.int p4), .val (.int p5), .val (.int ((p0 &&& (2147483647 : Int32)) % (6 : Int32))), .val (.ref b1), .val (.ref r232), .val (.ref r270)] [(.ref r270)])) _
          refine XS.iload X268.here hx rfl (hb hby at_142) rfl ?_
          show Steps p.tables e below (T268.setTop (mkF m 144 #[.val (.int p0), .val (.int p1), .val (.int p2), .val (.int p3), .val (.int p4), .val (.int p5), .val (.int ((p0 &&& (2147483647 : Int32)) % (6 : Int32))), .val (.ref b1), .val (.ref r232), .val (.ref r270)] [(.int ((p0 &&& (2147483647 : Int32)) % (6 : Int32))), (.ref r270)])) _
          refine XS.iloadN X268.here hx rfl (hb hby at_144) rfl ?_
          show Steps p.tables e below (T268.setTop (mkF m 145 #[.val (.int p0), .val (.int p1), .val (.int p2), .val (.int p3), .val (.int p4), .val (.int p5), .val (.int ((p0 &&& (2147483647 : Int32)) % (6 : Int32))), .val (.ref b1), .val (.ref r232), .val (.ref r270)] [(.int p1), (.int ((p0 &&& (2147483647 : Int32)) % (6 : Int32))), (.ref r270)])) _
          refine XS.iloadN X268.here hx rfl (hb hby at_145) rfl ?_
          show Steps p.tables e below (T268.setTop (mkF m 146 #[.val (.int p0), .val (.int p1), .val (.int p2), .val (.int p3), .val (.int p4), .val (.int p5), .val (.int ((p0 &&& (2147483647 : Int32)) % (6 : Int32))), .val (.ref b1), .val (.ref r232), .val (.ref r270)] [(.int p2), (.int p1), (.int ((p0 &&& (2147483647 : Int32)) % (6 : Int32))), (.ref r270)])) _
          refine XS.iloadN X268.here hx rfl (hb hby at_146) rfl ?_
          show Steps p.tables e below (T268.setTop (mkF m 147 #[.val (.int p0), .val (.int p1), .val (.int p2), .val (.int p3), .val (.int p4), .val (.int p5), .val (.int ((p0 &&& (2147483647 : Int32)) % (6 : Int32))), .val (.ref b1), .val (.ref r232), .val (.ref r270)] [(.int p3), (.int p2), (.int p1), (.int ((p0 &&& (2147483647 : Int32)) % (6 : Int32))), (.ref r270)])) _
          refine XS.iload X268.here hx rfl (hb hby at_147) rfl ?_
          show Steps p.tables e below (T268.setTop (mkF m 149 #[.val (.int p0), .val (.int p1), .val (.int p2), .val (.int p3), .val (.int p4), .val (.int p5), .val (.int ((p0 &&& (2147483647 : Int32)) % (6 : Int32))), .val (.ref b1), .val (.ref r232), .val (.ref r270)] [(.int p4), (.int p3), (.int p2), (.int p1), (.int ((p0 &&& (2147483647 : Int32)) % (6 : Int32))), (.ref r270)])) _
          refine XS.iload X268.here hx rfl (hb hby at_149) rfl ?_
          show Steps p.tables e below (T268.setTop (mkF m 151 #[.val (.int p0), .val (.int p1), .val (.int p2), .val (.int p3), .val (.int p4), .val (.int p5), .val (.int ((p0 &&& (2147483647 : Int32)) % (6 : Int32))), .val (.ref b1), .val (.ref r232), .val (.ref r270)] [(.int p5), (.int p4), (.int p3), (.int p2), (.int p1), (.int ((p0 &&& (2147483647 : Int32)) % (6 : Int32))), (.ref r270)])) _
          refine st280 _ ?_
          exact kt
        obtain ⟨fs, hr, hrun, hended, hW, hsame⟩ := X280.leave (v := some (.int (1 : Int32))) (fun h => by rw [Bd.returns] at h; cases h)
        refine ⟨_, _, pre283 _ ?_, hrun, hended, _, _, rfl, ?_, ⟨_, rfl⟩, hW, hsame.mono (by decide) (by decide)⟩
        · show Steps p.tables e below (T280.setTop (mkF m 154 #[.val (.int p0), .val (.int p1), .val (.int p2), .val (.int p3), .val (.int p4), .val (.int p5), .val (.int ((p0 &&& (2147483647 : Int32)) % (6 : Int32))), .val (.ref b1), .val (.ref r232), .val (.ref r270)] [(.int (1 : Int32))])) _
          exact retN X280 hx (t := .boolean) Bd.returns (by simp) (hb hby at_154) hr
        · show own_Q_law Z p0 p1 p2 p3 p4 p5 h0 n0 (some (.int (1 : Int32))) T280.heap _
          rw [eq281]
          exact ⟨rfl, nf282⟩
    · have zs284 : n0 ≤ T17.heap.size := Nat.le_trans Z0 k22.1
      obtain ⟨cq286, kq286, q286a, q286b, q286c⟩ := isOf hZ rfl f20
      obtain ⟨_, _, ⟨T285, L285, k285, n285⟩, -, X285, ⟨Lc285, hQ285, l285, y285, z285⟩, st285⟩ := X17.virtualBack hx (y := (⟨"com/example/interleaving/interleaving/store/StateGraph", "initialStates", "()[I"⟩ : MethodName)) (z := (⟨"com/example/interleaving/interleaving/store/StateGraph", "initialStates", "()[I"⟩ : MethodName)) hown (mvT hZ (hw _ (List.mem_of_getElem? (i := 19) rfl))) (mvT hZ (hw _ (List.mem_of_getElem? (i := 20) rfl))) (notFace_of_selects (args := #[]) (mvT hZ (hw _ (List.mem_of_getElem? (i := 22) rfl)))) (mvT hZ (hw _ (List.mem_of_getElem? (i := 22) rfl))) (mvT hZ (hw _ (List.mem_of_getElem? (i := 21) rfl))) (by decide) (backOf (W := 0) (own_rm_ist l Z a0 hw [] b1 bx10 1 16 (own_upd (fun _ => 0) 0 p1) T17.heap n0 zs284 c19_0 c19_1 c19_2 (by decide) (by decide) (by decide)) hZ (hw _ (List.mem_of_getElem? (i := 23) rfl)) (hw _ (List.mem_of_getElem? (i := 3) rfl)) (by decide) (by decide)) q286a q286c (g := (mkF m 81 #[.val (.int p0), .val (.int p1), .val (.int p2), .val (.int p3), .val (.int p4), .val (.int p5), .val (.int ((p0 &&& (2147483647 : Int32)) % (6 : Int32))), .val (.ref b1), .unset, .unset] [(.ref b1)])) rfl (by rw [hml]; rfl) (Steps.refl _) (argsL := []) (rest := []) (lenOf own_pd4 rfl) rfl (by show 2 * 0 + _ ≤ _; exact Nat.le_of_eq rfl) (hb hby at_81) (fun _ _ => ⟨rfl, rfl, (by decide : 4 + 1 ≤ _), (by decide : 2072 + 32 ≤ _)⟩)
      dsimp only [Pt.U, Pt.locs, Pt.cells, Pt.slots] at X285 l285 y285 z285 st285 hQ285
      subst l285 y285 z285
      obtain ⟨r287, rfl, N287, K287, c287_0, c287_1⟩ := hQ285
      have sz_r287 : h0.size ≤ r287 := Nat.le_trans k22.1 c287_0
      have gn_r287 : n0 ≤ r287 := Nat.le_trans Z0 sz_r287
      have ne_b1_r287 : b1 ≠ r287 := Nat.ne_of_lt (Nat.lt_of_lt_of_le c19_1.lt c287_0)
      have ne_bx10_r287 : bx10 ≠ r287 := Nat.ne_of_lt (Nat.lt_of_lt_of_le c19_2.lt c287_0)
      have f288 := f20.keep K287
      have f289 := f21.keep K287
      have f290 := c19_0.keep K287 nin0
      have f291 := c19_1.keep K287 nin0
      have f292 := c19_2.keep K287 nin0
      have k293 := k22.trans K287 all0
      have nf294 := Fr.app nf23 N287
      have zs295 : n0 ≤ T285.heap.size := Nat.le_trans Z0 k293.1
      obtain ⟨_, _, ⟨T296, L296, k296, n296⟩, -, X296, ⟨Lc296, hQ296, l296, y296, z296⟩, st296⟩ := Jvm.LawKit.callS X285 hx (y := (⟨"com/example/interleaving/interleaving/store/StateGraphInitialStatesPinLaw", "matches", "([IIIIIII)Z"⟩ : MethodName)) hown (mvT hZ (hw _ (List.mem_of_getElem? (i := 38) rfl))) (mvT hZ (hw _ (List.mem_of_getElem? (i := 39) rfl))) (mvT hZ (hw _ (List.mem_of_getElem? (i := 40) rfl))) (mvT hZ (hw _ (List.mem_of_getElem? (i := 41) rfl))) (by decide) (backOf (W := 0) (own_rm_mt l Z a0 hw [] r287 ((p0 &&& (2147483647 : Int32)) % (6 : Int32)) p1 p2 p3 p4 p5 1 (own_upd (fun _ => 0) 0 p1) T285.heap n0 zs295 c287_1 (own_kN 0 (by decide) hc15 (own_le 0 (by decide) hc25)) (by decide) (fun j hj => by rcases j with _ | j <;> first | rfl | omega)) hZ (hw _ (List.mem_of_getElem? (i := 41) rfl)) (hw _ (List.mem_of_getElem? (i := 40) rfl)) (by decide) (by decide)) (g := (mkF m 97 #[.val (.int p0), .val (.int p1), .val (.int p2), .val (.int p3), .val (.int p4), .val (.int p5), .val (.int ((p0 &&& (2147483647 : Int32)) % (6 : Int32))), .val (.ref b1), .val (.ref r287), .unset] [(.int p5), (.int p4), (.int p3), (.int p2), (.int p1), (.int ((p0 &&& (2147483647 : Int32)) % (6 : Int32))), (.ref r287)])) rfl (by rw [hml]; rfl) (argsL := [(.ref r287), (.int ((p0 &&& (2147483647 : Int32)) % (6 : Int32))), (.int p1), (.int p2), (.int p3), (.int p4), (.int p5)]) (rest := []) (lenOf own_pd5 rfl) rfl (by show 2 * 0 + _ ≤ _; exact Nat.le_of_eq rfl) (hb hby at_97) (fun _ _ => ⟨rfl, rfl, (by decide : 5 + 0 ≤ _), (by decide : 2104 + 0 ≤ _)⟩)
      dsimp only [Pt.U, Pt.locs, Pt.cells, Pt.slots] at X296 l296 y296 z296 st296 hQ296
      subst l296 y296 z296
      obtain ⟨rfl, N297, eq297⟩ := hQ296
      have nf298 := Fr.app nf294 N297
      obtain ⟨cl299, Ar299, S299, H299⟩ := id c287_1
      have hin299 : ¬ ((0 : Int32) < 0 ∨ cl299.slots.size ≤ ((0 : Int32)).toNatClampNeg) := own_inb S299 (by decide) (by decide)
      obtain ⟨T300, h300, X300, e300, W300, st300⟩ := stI X296 hx hZ eq297 Ar299 (j := (0 : Int32)) hin299 (g := (mkF m 116 #[.val (.int p0), .val (.int p1), .val (.int p2), .val (.int p3), .val (.int p4), .val (.int p5), .val (.int ((p0 &&& (2147483647 : Int32)) % (6 : Int32))), .val (.ref b1), .val (.ref r287), .unset] [(.int (p1 ^^^ (1 : Int32))), (.int (0 : Int32)), (.ref r287)])) rfl rfl (hb hby at_116)
      have f301 := f288.wr W300
      have f302 := f289.wr W300
      have f303 := f290.other W300 (Or.inl ne_b1_r287)
      have f304 := f291.other W300 (Or.inl ne_b1_r287)
      have f305 := f292.other W300 ne_bx10_r287
      have k307 := k293.wr W300 (Or.inr sz_r287)
      have nf308 := Fr.snoc X300 nf298 gn_r287
      have f309 := c287_1.set W300
      obtain ⟨cl310, Ar310, S310, H310⟩ := id f309
      have hin310 : ¬ ((((p0 &&& (2147483647 : Int32)) % (6 : Int32)) - (1 : Int32)) < 0 ∨ cl310.slots.size ≤ ((((p0 &&& (2147483647 : Int32)) % (6 : Int32)) - (1 : Int32))).toNatClampNeg) := own_inb S310 (by rw [(own_kN 0 (by decide) hc15 (own_le 0 (by decide) hc25))]; decide) (by rw [(own_kN 0 (by decide) hc15 (own_le 0 (by decide) hc25))]; decide)
      have hat310 : cl310.slots[((((p0 &&& (2147483647 : Int32)) % (6 : Int32)) - (1 : Int32))).toNatClampNeg]? = some (.int ((own_upd (own_upd (fun _ => 0) 0 p1) ((0 : Int32)).toNatClampNeg (p1 ^^^ (1 : Int32))) ((((p0 &&& (2147483647 : Int32)) % (6 : Int32)) - (1 : Int32))).toNatClampNeg)) := H310 _ (by rw [(own_kN 0 (by decide) hc15 (own_le 0 (by decide) hc25))]; decide)
      obtain ⟨cl311, Ar311, S311, H311⟩ := id f309
      have hin311 : ¬ ((((p0 &&& (2147483647 : Int32)) % (6 : Int32)) - (1 : Int32)) < 0 ∨ cl311.slots.size ≤ ((((p0 &&& (2147483647 : Int32)) % (6 : Int32)) - (1 : Int32))).toNatClampNeg) := own_inb S311 (by rw [(own_kN 0 (by decide) hc15 (own_le 0 (by decide) hc25))]; decide) (by rw [(own_kN 0 (by decide) hc15 (own_le 0 (by decide) hc25))]; decide)
      obtain ⟨T312, h312, X312, e312, W312, st312⟩ := stI X300 hx hZ e300 Ar311 (j := (((p0 &&& (2147483647 : Int32)) % (6 : Int32)) - (1 : Int32))) hin311 (g := (mkF m 132 #[.val (.int p0), .val (.int p1), .val (.int p2), .val (.int p3), .val (.int p4), .val (.int p5), .val (.int ((p0 &&& (2147483647 : Int32)) % (6 : Int32))), .val (.ref b1), .val (.ref r287), .unset] [(.int (((own_upd (own_upd (fun _ => 0) 0 p1) ((0 : Int32)).toNatClampNeg (p1 ^^^ (1 : Int32))) ((((p0 &&& (2147483647 : Int32)) % (6 : Int32)) - (1 : Int32))).toNatClampNeg) ^^^ (2 : Int32))), (.int (((p0 &&& (2147483647 : Int32)) % (6 : Int32)) - (1 : Int32))), (.ref r287)])) rfl rfl (hb hby at_132)
      have f313 := f301.wr W312
      have f314 := f302.wr W312
      have f315 := f303.other W312 (Or.inl ne_b1_r287)
      have f316 := f304.other W312 (Or.inl ne_b1_r287)
      have f317 := f305.other W312 ne_bx10_r287
      have k319 := k307.wr W312 (Or.inr sz_r287)
      have nf320 := Fr.snoc X312 nf308 gn_r287
      have f321 := f309.set W312
      have zs322 : n0 ≤ h312.size := Nat.le_trans Z0 k319.1
      obtain ⟨cq324, kq324, q324a, q324b, q324c⟩ := isOf hZ e312 f313
      obtain ⟨_, _, ⟨T323, L323, k323, n323⟩, -, X323, ⟨Lc323, hQ323, l323, y323, z323⟩, st323⟩ := X312.virtualBack hx (y := (⟨"com/example/interleaving/interleaving/store/StateGraph", "initialStates", "()[I"⟩ : MethodName)) (z := (⟨"com/example/interleaving/interleaving/store/StateGraph", "initialStates", "()[I"⟩ : MethodName)) hown (mvT hZ (hw _ (List.mem_of_getElem? (i := 19) rfl))) (mvT hZ (hw _ (List.mem_of_getElem? (i := 20) rfl))) (notFace_of_selects (args := #[]) (mvT hZ (hw _ (List.mem_of_getElem? (i := 22) rfl)))) (mvT hZ (hw _ (List.mem_of_getElem? (i := 22) rfl))) (mvT hZ (hw _ (List.mem_of_getElem? (i := 21) rfl))) (by decide) (backOf (W := 0) (own_rm_ist l Z a0 hw [] b1 bx10 1 16 (own_upd (fun _ => 0) 0 p1) h312 n0 zs322 f315 f316 f317 (by decide) (by decide) (by decide)) hZ (hw _ (List.mem_of_getElem? (i := 23) rfl)) (hw _ (List.mem_of_getElem? (i := 3) rfl)) (by decide) (by decide)) q324a q324c (g := (mkF m 135 #[.val (.int p0), .val (.int p1), .val (.int p2), .val (.int p3), .val (.int p4), .val (.int p5), .val (.int ((p0 &&& (2147483647 : Int32)) % (6 : Int32))), .val (.ref b1), .val (.ref r287), .unset] [(.ref b1)])) rfl (by rw [hml]; rfl) (Steps.refl _) (argsL := []) (rest := []) (lenOf own_pd4 rfl) rfl (by show 2 * 0 + _ ≤ _; exact Nat.le_of_eq rfl) (hb hby at_135) (fun _ _ => ⟨rfl, e312, (by decide : 5 + 1 ≤ _), (by decide : 2104 + 32 ≤ _)⟩)
      dsimp only [Pt.U, Pt.locs, Pt.cells, Pt.slots] at X323 l323 y323 z323 st323 hQ323
      subst l323 y323 z323
      obtain ⟨r325, rfl, N325, K325, c325_0, c325_1⟩ := hQ323
      have sz_r325 : h0.size ≤ r325 := Nat.le_trans k319.1 c325_0
      have gn_r325 : n0 ≤ r325 := Nat.le_trans Z0 sz_r325
      have ne_b1_r325 : b1 ≠ r325 := Nat.ne_of_lt (Nat.lt_of_lt_of_le f316.lt c325_0)
      have ne_bx10_r325 : bx10 ≠ r325 := Nat.ne_of_lt (Nat.lt_of_lt_of_le f317.lt c325_0)
      have ne_r287_r325 : r287 ≠ r325 := Nat.ne_of_lt (Nat.lt_of_lt_of_le f321.lt c325_0)
      have f326 := f313.keep K325
      have f327 := f314.keep K325
      have f328 := f315.keep K325 nin0
      have f329 := f316.keep K325 nin0
      have f330 := f317.keep K325 nin0
      have f331 := f321.keep K325 nin0
      have k332 := k319.trans K325 all0
      have nf333 := Fr.app nf320 N325
      have zs334 : n0 ≤ T323.heap.size := Nat.le_trans Z0 k332.1
      obtain ⟨_, _, ⟨T335, L335, k335, n335⟩, -, X335, ⟨Lc335, hQ335, l335, y335, z335⟩, st335⟩ := Jvm.LawKit.callS X323 hx (y := (⟨"com/example/interleaving/interleaving/store/StateGraphInitialStatesPinLaw", "matches", "([IIIIIII)Z"⟩ : MethodName)) hown (mvT hZ (hw _ (List.mem_of_getElem? (i := 38) rfl))) (mvT hZ (hw _ (List.mem_of_getElem? (i := 39) rfl))) (mvT hZ (hw _ (List.mem_of_getElem? (i := 40) rfl))) (mvT hZ (hw _ (List.mem_of_getElem? (i := 41) rfl))) (by decide) (backOf (W := 0) (own_rm_mt l Z a0 hw [] r325 ((p0 &&& (2147483647 : Int32)) % (6 : Int32)) p1 p2 p3 p4 p5 1 (own_upd (fun _ => 0) 0 p1) T323.heap n0 zs334 c325_1 (own_kN 0 (by decide) hc15 (own_le 0 (by decide) hc25)) (by decide) (fun j hj => by rcases j with _ | j <;> first | rfl | omega)) hZ (hw _ (List.mem_of_getElem? (i := 41) rfl)) (hw _ (List.mem_of_getElem? (i := 40) rfl)) (by decide) (by decide)) (g := (mkF m 151 #[.val (.int p0), .val (.int p1), .val (.int p2), .val (.int p3), .val (.int p4), .val (.int p5), .val (.int ((p0 &&& (2147483647 : Int32)) % (6 : Int32))), .val (.ref b1), .val (.ref r287), .val (.ref r325)] [(.int p5), (.int p4), (.int p3), (.int p2), (.int p1), (.int ((p0 &&& (2147483647 : Int32)) % (6 : Int32))), (.ref r325)])) rfl (by rw [hml]; rfl) (argsL := [(.ref r325), (.int ((p0 &&& (2147483647 : Int32)) % (6 : Int32))), (.int p1), (.int p2), (.int p3), (.int p4), (.int p5)]) (rest := []) (lenOf own_pd5 rfl) rfl (by show 2 * 0 + _ ≤ _; exact Nat.le_of_eq rfl) (hb hby at_151) (fun _ _ => ⟨rfl, rfl, (by decide : 6 + 0 ≤ _), (by decide : 2136 + 0 ≤ _)⟩)
      dsimp only [Pt.U, Pt.locs, Pt.cells, Pt.slots] at X335 l335 y335 z335 st335 hQ335
      subst l335 y335 z335
      obtain ⟨rfl, N336, eq336⟩ := hQ335
      have nf337 := Fr.app nf333 N336
      have pre338 : ∀ t, Steps p.tables e below (T335.setTop (mkF m 154 #[.val (.int p0), .val (.int p1), .val (.int p2), .val (.int p3), .val (.int p4), .val (.int p5), .val (.int ((p0 &&& (2147483647 : Int32)) % (6 : Int32))), .val (.ref b1), .val (.ref r287), .val (.ref r325)] [(.int (1 : Int32))])) t → Steps p.tables e below (s₁.setTop (entryFrame m #[(.int p0), (.int p1), (.int p2), (.int p3), (.int p4), (.int p5)] maxLocals)) t := by
        intro t kt
        refine pre24 t ?_
        show Steps p.tables e below (T17.setTop (mkF m 32 #[.val (.int p0), .val (.int p1), .val (.int p2), .val (.int p3), .val (.int p4), .val (.int p5), .val (.int ((p0 &&& (2147483647 : Int32)) % (6 : Int32))), .val (.ref b1), .unset, .unset] [(.int (1 : Int32)), (.int ((p0 &&& (2147483647 : Int32)) % (6 : Int32)))])) _
        refine XS.icmpYes X17.here hx rfl (pc0 := 32) (pc' := 41) rfl (hb hby at_32) rfl (flt hc25).2.2.2 (by decide) (by decide) ?_
        show Steps p.tables e below (T17.setTop (mkF m 41 #[.val (.int p0), .val (.int p1), .val (.int p2), .val (.int p3), .val (.int p4), .val (.int p5), .val (.int ((p0 &&& (2147483647 : Int32)) % (6 : Int32))), .val (.ref b1), .unset, .unset] [])) _
        refine XS.iload X17.here hx rfl (hb hby at_41) rfl ?_
        show Steps p.tables e below (T17.setTop (mkF m 43 #[.val (.int p0), .val (.int p1), .val (.int p2), .val (.int p3), .val (.int p4), .val (.int p5), .val (.int ((p0 &&& (2147483647 : Int32)) % (6 : Int32))), .val (.ref b1), .unset, .unset] [(.int ((p0 &&& (2147483647 : Int32)) % (6 : Int32)))])) _
        refine XS.iconst X17.here hx rfl (hb hby at_43) ?_
        show Steps p.tables e below (T17.setTop (mkF m 44 #[.val (.int p0), .val (.int p1), .val (.int p2), .val (.int p3), .val (.int p4), .val (.int p5), .val (.int ((p0 &&& (2147483647 : Int32)) % (6 : Int32))), .val (.ref b1), .unset, .unset] [(.int (2 : Int32)), (.int ((p0 &&& (2147483647 : Int32)) % (6 : Int32)))])) _
        refine XS.icmpYes X17.here hx rfl (pc0 := 44) (pc' := 53) rfl (hb hby at_44) rfl (flt (own_no (1 : Int32) (2 : Int32) hc25 (by decide))).2.2.2 (by decide) (by decide) ?_
        show Steps p.tables e below (T17.setTop (mkF m 53 #[.val (.int p0), .val (.int p1), .val (.int p2), .val (.int p3), .val (.int p4), .val (.int p5), .val (.int ((p0 &&& (2147483647 : Int32)) % (6 : Int32))), .val (.ref b1), .unset, .unset] [])) _
        refine XS.iload X17.here hx rfl (hb hby at_53) rfl ?_
        show Steps p.tables e below (T17.setTop (mkF m 55 #[.val (.int p0), .val (.int p1), .val (.int p2), .val (.int p3), .val (.int p4), .val (.int p5), .val (.int ((p0 &&& (2147483647 : Int32)) % (6 : Int32))), .val (.ref b1), .unset, .unset] [(.int ((p0 &&& (2147483647 : Int32)) % (6 : Int32)))])) _
        refine XS.iconst X17.here hx rfl (hb hby at_55) ?_
        show Steps p.tables e below (T17.setTop (mkF m 56 #[.val (.int p0), .val (.int p1), .val (.int p2), .val (.int p3), .val (.int p4), .val (.int p5), .val (.int ((p0 &&& (2147483647 : Int32)) % (6 : Int32))), .val (.ref b1), .unset, .unset] [(.int (3 : Int32)), (.int ((p0 &&& (2147483647 : Int32)) % (6 : Int32)))])) _
        refine XS.icmpYes X17.here hx rfl (pc0 := 56) (pc' := 66) rfl (hb hby at_56) rfl (flt (own_no (2 : Int32) (3 : Int32) (own_no (1 : Int32) (2 : Int32) hc25 (by decide)) (by decide))).2.2.2 (by decide) (by decide) ?_
        show Steps p.tables e below (T17.setTop (mkF m 66 #[.val (.int p0), .val (.int p1), .val (.int p2), .val (.int p3), .val (.int p4), .val (.int p5), .val (.int ((p0 &&& (2147483647 : Int32)) % (6 : Int32))), .val (.ref b1), .unset, .unset] [])) _
        refine XS.iload X17.here hx rfl (hb hby at_66) rfl ?_
        show Steps p.tables e below (T17.setTop (mkF m 68 #[.val (.int p0), .val (.int p1), .val (.int p2), .val (.int p3), .val (.int p4), .val (.int p5), .val (.int ((p0 &&& (2147483647 : Int32)) % (6 : Int32))), .val (.ref b1), .unset, .unset] [(.int ((p0 &&& (2147483647 : Int32)) % (6 : Int32)))])) _
        refine XS.iconst X17.here hx rfl (hb hby at_68) ?_
        show Steps p.tables e below (T17.setTop (mkF m 69 #[.val (.int p0), .val (.int p1), .val (.int p2), .val (.int p3), .val (.int p4), .val (.int p5), .val (.int ((p0 &&& (2147483647 : Int32)) % (6 : Int32))), .val (.ref b1), .unset, .unset] [(.int (4 : Int32)), (.int ((p0 &&& (2147483647 : Int32)) % (6 : Int32)))])) _
        refine XS.icmpYes X17.here hx rfl (pc0 := 69) (pc' := 79) rfl (hb hby at_69) rfl (flt (own_no (3 : Int32) (4 : Int32) (own_no (2 : Int32) (3 : Int32) (own_no (1 : Int32) (2 : Int32) hc25 (by decide)) (by decide)) (by decide))).2.2.2 (by decide) (by decide) ?_
        show Steps p.tables e below (T17.setTop (mkF m 79 #[.val (.int p0), .val (.int p1), .val (.int p2), .val (.int p3), .val (.int p4), .val (.int p5), .val (.int ((p0 &&& (2147483647 : Int32)) % (6 : Int32))), .val (.ref b1), .unset, .unset] [])) _
        refine XS.aload X17.here hx rfl (hb hby at_79) rfl rfl ?_
        show Steps p.tables e below (T17.setTop (mkF m 81 #[.val (.int p0), .val (.int p1), .val (.int p2), .val (.int p3), .val (.int p4), .val (.int p5), .val (.int ((p0 &&& (2147483647 : Int32)) % (6 : Int32))), .val (.ref b1), .unset, .unset] [(.ref b1)])) _
        refine st285.trans ?_
        show Steps p.tables e below (T285.setTop (mkF m 84 #[.val (.int p0), .val (.int p1), .val (.int p2), .val (.int p3), .val (.int p4), .val (.int p5), .val (.int ((p0 &&& (2147483647 : Int32)) % (6 : Int32))), .val (.ref b1), .unset, .unset] [(.ref r287)])) _
        refine XS.astore X285.here hx rfl (hb hby at_84) rfl rfl (l' := #[.val (.int p0), .val (.int p1), .val (.int p2), .val (.int p3), .val (.int p4), .val (.int p5), .val (.int ((p0 &&& (2147483647 : Int32)) % (6 : Int32))), .val (.ref b1), .val (.ref r287), .unset]) rfl ?_
        show Steps p.tables e below (T285.setTop (mkF m 86 #[.val (.int p0), .val (.int p1), .val (.int p2), .val (.int p3), .val (.int p4), .val (.int p5), .val (.int ((p0 &&& (2147483647 : Int32)) % (6 : Int32))), .val (.ref b1), .val (.ref r287), .unset] [])) _
        refine XS.aload X285.here hx rfl (hb hby at_86) rfl rfl ?_
        show Steps p.tables e below (T285.setTop (mkF m 88 #[.val (.int p0), .val (.int p1), .val (.int p2), .val (.int p3), .val (.int p4), .val (.int p5), .val (.int ((p0 &&& (2147483647 : Int32)) % (6 : Int32))), .val (.ref b1), .val (.ref r287), .unset] [(.ref r287)])) _
        refine XS.iload X285.here hx rfl (hb hby at_88) rfl ?_
        show Steps p.tables e below (T285.setTop (mkF m 90 #[.val (.int p0), .val (.int p1), .val (.int p2), .val (.int p3), .val (.int p4), .val (.int p5), .val (.int ((p0 &&& (2147483647 : Int32)) % (6 : Int32))), .val (.ref b1), .val (.ref r287), .unset] [(.int ((p0 &&& (2147483647 : Int32)) % (6 : Int32))), (.ref r287)])) _
        refine XS.iloadN X285.here hx rfl (hb hby at_90) rfl ?_
        show Steps p.tables e below (T285.setTop (mkF m 91 #[.val (.int p0), .val (.int p1), .val (.int p2), .val (.int p3), .val (.int p4), .val (.int p5), .val (.int ((p0 &&& (2147483647 : Int32)) % (6 : Int32))), .val (.ref b1), .val (.ref r287), .unset] [(.int p1), (.int ((p0 &&& (2147483647 : Int32)) % (6 : Int32))), (.ref r287)])) _
        refine XS.iloadN X285.here hx rfl (hb hby at_91) rfl ?_
        show Steps p.tables e below (T285.setTop (mkF m 92 #[.val (.int p0), .val (.int p1), .val (.int p2), .val (.int p3), .val (.int p4), .val (.int p5), .val (.int ((p0 &&& (2147483647 : Int32)) % (6 : Int32))), .val (.ref b1), .val (.ref r287), .unset] [(.int p2), (.int p1), (.int ((p0 &&& (2147483647 : Int32)) % (6 : Int32))), (.ref r287)])) _
        refine XS.iloadN X285.here hx rfl (hb hby at_92) rfl ?_
        show Steps p.tables e below (T285.setTop (mkF m 93 #[.val (.int p0), .val (.int p1), .val (.int p2), .val (.int p3), .val (.int p4), .val (.int p5), .val (.int ((p0 &&& (2147483647 : Int32)) % (6 : Int32))), .val (.ref b1), .val (.ref r287), .unset] [(.int p3), (.int p2), (.int p1), (.int ((p0 &&& (2147483647 : Int32)) % (6 : Int32))), (.ref r287)])) _
        refine XS.iload X285.here hx rfl (hb hby at_93) rfl ?_
        show Steps p.tables e below (T285.setTop (mkF m 95 #[.val (.int p0), .val (.int p1), .val (.int p2), .val (.int p3), .val (.int p4), .val (.int p5), .val (.int ((p0 &&& (2147483647 : Int32)) % (6 : Int32))), .val (.ref b1), .val (.ref r287), .unset] [(.int p4), (.int p3), (.int p2), (.int p1), (.int ((p0 &&& (2147483647 : Int32)) % (6 : Int32))), (.ref r287)])) _
        refine XS.iload X285.here hx rfl (hb hby at_95) rfl ?_
        show Steps p.tables e below (T285.setTop (mkF m 97 #[.val (.int p0), .val (.int p1), .val (.int p2), .val (.int p3), .val (.int p4), .val (.int p5), .val (.int ((p0 &&& (2147483647 : Int32)) % (6 : Int32))), .val (.ref b1), .val (.ref r287), .unset] [(.int p5), (.int p4), (.int p3), (.int p2), (.int p1), (.int ((p0 &&& (2147483647 : Int32)) % (6 : Int32))), (.ref r287)])) _
        refine st296 _ ?_
        show Steps p.tables e below (T296.setTop (mkF m 100 #[.val (.int p0), .val (.int p1), .val (.int p2), .val (.int p3), .val (.int p4), .val (.int p5), .val (.int ((p0 &&& (2147483647 : Int32)) % (6 : Int32))), .val (.ref b1), .val (.ref r287), .unset] [(.int (1 : Int32))])) _
        refine XS.ifYes X296.here hx rfl (pc0 := 100) (pc' := 105) rfl (hb hby at_100) rfl ((if0 _ _).trans (feq (by decide : ¬ ((1 : Int32) = (0 : Int32)))).2) (by decide) (by decide) ?_
        show Steps p.tables e below (T296.setTop (mkF m 105 #[.val (.int p0), .val (.int p1), .val (.int p2), .val (.int p3), .val (.int p4), .val (.int p5), .val (.int ((p0 &&& (2147483647 : Int32)) % (6 : Int32))), .val (.ref b1), .val (.ref r287), .unset] [])) _
        refine XS.iload X296.here hx rfl (hb hby at_105) rfl ?_
        show Steps p.tables e below (T296.setTop (mkF m 107 #[.val (.int p0), .val (.int p1), .val (.int p2), .val (.int p3), .val (.int p4), .val (.int p5), .val (.int ((p0 &&& (2147483647 : Int32)) % (6 : Int32))), .val (.ref b1), .val (.ref r287), .unset] [(.int ((p0 &&& (2147483647 : Int32)) % (6 : Int32)))])) _
        refine XS.ifNo X296.here hx rfl (hb hby at_107) rfl ((if0 _ _).trans (tlt hc15).2.2.2) ?_
        show Steps p.tables e below (T296.setTop (mkF m 110 #[.val (.int p0), .val (.int p1), .val (.int p2), .val (.int p3), .val (.int p4), .val (.int p5), .val (.int ((p0 &&& (2147483647 : Int32)) % (6 : Int32))), .val (.ref b1), .val (.ref r287), .unset] [])) _
        refine XS.aload X296.here hx rfl (hb hby at_110) rfl rfl ?_
        show Steps p.tables e below (T296.setTop (mkF m 112 #[.val (.int p0), .val (.int p1), .val (.int p2), .val (.int p3), .val (.int p4), .val (.int p5), .val (.int ((p0 &&& (2147483647 : Int32)) % (6 : Int32))), .val (.ref b1), .val (.ref r287), .unset] [(.ref r287)])) _
        refine XS.iconst X296.here hx rfl (hb hby at_112) ?_
        show Steps p.tables e below (T296.setTop (mkF m 113 #[.val (.int p0), .val (.int p1), .val (.int p2), .val (.int p3), .val (.int p4), .val (.int p5), .val (.int ((p0 &&& (2147483647 : Int32)) % (6 : Int32))), .val (.ref b1), .val (.ref r287), .unset] [(.int (0 : Int32)), (.ref r287)])) _
        refine XS.iloadN X296.here hx rfl (hb hby at_113) rfl ?_
        show Steps p.tables e below (T296.setTop (mkF m 114 #[.val (.int p0), .val (.int p1), .val (.int p2), .val (.int p3), .val (.int p4), .val (.int p5), .val (.int ((p0 &&& (2147483647 : Int32)) % (6 : Int32))), .val (.ref b1), .val (.ref r287), .unset] [(.int p1), (.int (0 : Int32)), (.ref r287)])) _
        refine XS.iconst X296.here hx rfl (hb hby at_114) ?_
        show Steps p.tables e below (T296.setTop (mkF m 115 #[.val (.int p0), .val (.int p1), .val (.int p2), .val (.int p3), .val (.int p4), .val (.int p5), .val (.int ((p0 &&& (2147483647 : Int32)) % (6 : Int32))), .val (.ref b1), .val (.ref r287), .unset] [(.int (1 : Int32)), (.int p1), (.int (0 : Int32)), (.ref r287)])) _
        refine XS.ixor X296.here hx rfl (hb hby at_115) rfl ?_
        show Steps p.tables e below (T296.setTop (mkF m 116 #[.val (.int p0), .val (.int p1), .val (.int p2), .val (.int p3), .val (.int p4), .val (.int p5), .val (.int ((p0 &&& (2147483647 : Int32)) % (6 : Int32))), .val (.ref b1), .val (.ref r287), .unset] [(.int (p1 ^^^ (1 : Int32))), (.int (0 : Int32)), (.ref r287)])) _
        refine st300 _ ?_
        show Steps p.tables e below (T300.setTop (mkF m 117 #[.val (.int p0), .val (.int p1), .val (.int p2), .val (.int p3), .val (.int p4), .val (.int p5), .val (.int ((p0 &&& (2147483647 : Int32)) % (6 : Int32))), .val (.ref b1), .val (.ref r287), .unset] [])) _
        refine XS.aload X300.here hx rfl (hb hby at_117) rfl rfl ?_
        show Steps p.tables e below (T300.setTop (mkF m 119 #[.val (.int p0), .val (.int p1), .val (.int p2), .val (.int p3), .val (.int p4), .val (.int p5), .val (.int ((p0 &&& (2147483647 : Int32)) % (6 : Int32))), .val (.ref b1), .val (.ref r287), .unset] [(.ref r287)])) _
        refine XS.iload X300.here hx rfl (hb hby at_119) rfl ?_
        show Steps p.tables e below (T300.setTop (mkF m 121 #[.val (.int p0), .val (.int p1), .val (.int p2), .val (.int p3), .val (.int p4), .val (.int p5), .val (.int ((p0 &&& (2147483647 : Int32)) % (6 : Int32))), .val (.ref b1), .val (.ref r287), .unset] [(.int ((p0 &&& (2147483647 : Int32)) % (6 : Int32))), (.ref r287)])) _
        refine XS.iconst X300.here hx rfl (hb hby at_121) ?_
        show Steps p.tables e below (T300.setTop (mkF m 122 #[.val (.int p0), .val (.int p1), .val (.int p2), .val (.int p3), .val (.int p4), .val (.int p5), .val (.int ((p0 &&& (2147483647 : Int32)) % (6 : Int32))), .val (.ref b1), .val (.ref r287), .unset] [(.int (1 : Int32)), (.int ((p0 &&& (2147483647 : Int32)) % (6 : Int32))), (.ref r287)])) _
        refine XS.isub X300.here hx rfl (hb hby at_122) rfl ?_
        show Steps p.tables e below (T300.setTop (mkF m 123 #[.val (.int p0), .val (.int p1), .val (.int p2), .val (.int p3), .val (.int p4), .val (.int p5), .val (.int ((p0 &&& (2147483647 : Int32)) % (6 : Int32))), .val (.ref b1), .val (.ref r287), .unset] [(.int (((p0 &&& (2147483647 : Int32)) % (6 : Int32)) - (1 : Int32))), (.ref r287)])) _
        refine XS.aload X300.here hx rfl (hb hby at_123) rfl rfl ?_
        show Steps p.tables e below (T300.setTop (mkF m 125 #[.val (.int p0), .val (.int p1), .val (.int p2), .val (.int p3), .val (.int p4), .val (.int p5), .val (.int ((p0 &&& (2147483647 : Int32)) % (6 : Int32))), .val (.ref b1), .val (.ref r287), .unset] [(.ref r287), (.int (((p0 &&& (2147483647 : Int32)) % (6 : Int32)) - (1 : Int32))), (.ref r287)])) _
        refine XS.iload X300.here hx rfl (hb hby at_125) rfl ?_
        show Steps p.tables e below (T300.setTop (mkF m 127 #[.val (.int p0), .val (.int p1), .val (.int p2), .val (.int p3), .val (.int p4), .val (.int p5), .val (.int ((p0 &&& (2147483647 : Int32)) % (6 : Int32))), .val (.ref b1), .val (.ref r287), .unset] [(.int ((p0 &&& (2147483647 : Int32)) % (6 : Int32))), (.ref r287), (.int (((p0 &&& (2147483647 : Int32)) % (6 : Int32)) - (1 : Int32))), (.ref r287)])) _
        refine XS.iconst X300.here hx rfl (hb hby at_127) ?_
        show Steps p.tables e below (T300.setTop (mkF m 128 #[.val (.int p0), .val (.int p1), .val (.int p2), .val (.int p3), .val (.int p4), .val (.int p5), .val (.int ((p0 &&& (2147483647 : Int32)) % (6 : Int32))), .val (.ref b1), .val (.ref r287), .unset] [(.int (1 : Int32)), (.int ((p0 &&& (2147483647 : Int32)) % (6 : Int32))), (.ref r287), (.int (((p0 &&& (2147483647 : Int32)) % (6 : Int32)) - (1 : Int32))), (.ref r287)])) _
        refine XS.isub X300.here hx rfl (hb hby at_128) rfl ?_
        show Steps p.tables e below (T300.setTop (mkF m 129 #[.val (.int p0), .val (.int p1), .val (.int p2), .val (.int p3), .val (.int p4), .val (.int p5), .val (.int ((p0 &&& (2147483647 : Int32)) % (6 : Int32))), .val (.ref b1), .val (.ref r287), .unset] [(.int (((p0 &&& (2147483647 : Int32)) % (6 : Int32)) - (1 : Int32))), (.ref r287), (.int (((p0 &&& (2147483647 : Int32)) % (6 : Int32)) - (1 : Int32))), (.ref r287)])) _
        refine X300.iaload hx (j := (((p0 &&& (2147483647 : Int32)) % (6 : Int32)) - (1 : Int32))) (v := (.int ((own_upd (own_upd (fun _ => 0) 0 p1) ((0 : Int32)).toNatClampNeg (p1 ^^^ (1 : Int32))) ((((p0 &&& (2147483647 : Int32)) % (6 : Int32)) - (1 : Int32))).toNatClampNeg))) (by rw [e300]; exact Ar310.1) (State.isArrayOf_alike hZ.alike Ar310.2.1) Ar310.2.2 hin310 hat310 (g := (mkF m 129 #[.val (.int p0), .val (.int p1), .val (.int p2), .val (.int p3), .val (.int p4), .val (.int p5), .val (.int ((p0 &&& (2147483647 : Int32)) % (6 : Int32))), .val (.ref b1), .val (.ref r287), .unset] [(.int (((p0 &&& (2147483647 : Int32)) % (6 : Int32)) - (1 : Int32))), (.ref r287), (.int (((p0 &&& (2147483647 : Int32)) % (6 : Int32)) - (1 : Int32))), (.ref r287)])) rfl rfl (hb hby at_129) _ ?_
        show Steps p.tables e below (T300.setTop (mkF m 130 #[.val (.int p0), .val (.int p1), .val (.int p2), .val (.int p3), .val (.int p4), .val (.int p5), .val (.int ((p0 &&& (2147483647 : Int32)) % (6 : Int32))), .val (.ref b1), .val (.ref r287), .unset] [(.int ((own_upd (own_upd (fun _ => 0) 0 p1) ((0 : Int32)).toNatClampNeg (p1 ^^^ (1 : Int32))) ((((p0 &&& (2147483647 : Int32)) % (6 : Int32)) - (1 : Int32))).toNatClampNeg)), (.int (((p0 &&& (2147483647 : Int32)) % (6 : Int32)) - (1 : Int32))), (.ref r287)])) _
        refine XS.iconst X300.here hx rfl (hb hby at_130) ?_
        show Steps p.tables e below (T300.setTop (mkF m 131 #[.val (.int p0), .val (.int p1), .val (.int p2), .val (.int p3), .val (.int p4), .val (.int p5), .val (.int ((p0 &&& (2147483647 : Int32)) % (6 : Int32))), .val (.ref b1), .val (.ref r287), .unset] [(.int (2 : Int32)), (.int ((own_upd (own_upd (fun _ => 0) 0 p1) ((0 : Int32)).toNatClampNeg (p1 ^^^ (1 : Int32))) ((((p0 &&& (2147483647 : Int32)) % (6 : Int32)) - (1 : Int32))).toNatClampNeg)), (.int (((p0 &&& (2147483647 : Int32)) % (6 : Int32)) - (1 : Int32))), (.ref r287)])) _
        refine XS.ixor X300.here hx rfl (hb hby at_131) rfl ?_
        show Steps p.tables e below (T300.setTop (mkF m 132 #[.val (.int p0), .val (.int p1), .val (.int p2), .val (.int p3), .val (.int p4), .val (.int p5), .val (.int ((p0 &&& (2147483647 : Int32)) % (6 : Int32))), .val (.ref b1), .val (.ref r287), .unset] [(.int (((own_upd (own_upd (fun _ => 0) 0 p1) ((0 : Int32)).toNatClampNeg (p1 ^^^ (1 : Int32))) ((((p0 &&& (2147483647 : Int32)) % (6 : Int32)) - (1 : Int32))).toNatClampNeg) ^^^ (2 : Int32))), (.int (((p0 &&& (2147483647 : Int32)) % (6 : Int32)) - (1 : Int32))), (.ref r287)])) _
        refine st312 _ ?_
        show Steps p.tables e below (T312.setTop (mkF m 133 #[.val (.int p0), .val (.int p1), .val (.int p2), .val (.int p3), .val (.int p4), .val (.int p5), .val (.int ((p0 &&& (2147483647 : Int32)) % (6 : Int32))), .val (.ref b1), .val (.ref r287), .unset] [])) _
        refine XS.aload X312.here hx rfl (hb hby at_133) rfl rfl ?_
        show Steps p.tables e below (T312.setTop (mkF m 135 #[.val (.int p0), .val (.int p1), .val (.int p2), .val (.int p3), .val (.int p4), .val (.int p5), .val (.int ((p0 &&& (2147483647 : Int32)) % (6 : Int32))), .val (.ref b1), .val (.ref r287), .unset] [(.ref b1)])) _
        refine st323.trans ?_
        show Steps p.tables e below (T323.setTop (mkF m 138 #[.val (.int p0), .val (.int p1), .val (.int p2), .val (.int p3), .val (.int p4), .val (.int p5), .val (.int ((p0 &&& (2147483647 : Int32)) % (6 : Int32))), .val (.ref b1), .val (.ref r287), .unset] [(.ref r325)])) _
        refine XS.astore X323.here hx rfl (hb hby at_138) rfl rfl (l' := #[.val (.int p0), .val (.int p1), .val (.int p2), .val (.int p3), .val (.int p4), .val (.int p5), .val (.int ((p0 &&& (2147483647 : Int32)) % (6 : Int32))), .val (.ref b1), .val (.ref r287), .val (.ref r325)]) rfl ?_
        show Steps p.tables e below (T323.setTop (mkF m 140 #[.val (.int p0), .val (.int p1), .val (.int p2), .val (.int p3), .val (.int p4), .val (.int p5), .val (.int ((p0 &&& (2147483647 : Int32)) % (6 : Int32))), .val (.ref b1), .val (.ref r287), .val (.ref r325)] [])) _
        refine XS.aload X323.here hx rfl (hb hby at_140) rfl rfl ?_
        show Steps p.tables e below (T323.setTop (mkF m 142 #[.val (.int p0), .val (.int p1), .val (.int p2), .val (.int p3), .val (.int p4), .val (.int p5), .val (.int ((p0 &&& (2147483647 : Int32)) % (6 : Int32))), .val (.ref b1), .val (.ref r287), .val (.ref r325)] [(.ref r325)])) _
        refine XS.iload X323.here hx rfl (hb hby at_142) rfl ?_
        show Steps p.tables e below (T323.setTop (mkF m 144 #[.val (.int p0), .val (.int p1), .val (.int p2), .val (.int p3), .val (.int p4), .val (.int p5), .val (.int ((p0 &&& (2147483647 : Int32)) % (6 : Int32))), .val (.ref b1), .val (.ref r287), .val (.ref r325)] [(.int ((p0 &&& (2147483647 : Int32)) % (6 : Int32))), (.ref r325)])) _
        refine XS.iloadN X323.here hx rfl (hb hby at_144) rfl ?_
        show Steps p.tables e below (T323.setTop (mkF m 145 #[.val (.int p0), .val (.int p1), .val (.int p2), .val (.int p3), .val (.int p4), .val (.int p5), .val (.int ((p0 &&& (2147483647 : Int32)) % (6 : Int32))), .val (.ref b1), .val (.ref r287), .val (.ref r325)] [(.int p1), (.int ((p0 &&& (2147483647 : Int32)) % (6 : Int32))), (.ref r325)])) _
        refine XS.iloadN X323.here hx rfl (hb hby at_145) rfl ?_
        show Steps p.tables e below (T323.setTop (mkF m 146 #[.val (.int p0), .val (.int p1), .val (.int p2), .val (.int p3), .val (.int p4), .val (.int p5), .val (.int ((p0 &&& (2147483647 : Int32)) % (6 : Int32))), .val (.ref b1), .val (.ref r287), .val (.ref r325)] [(.int p2), (.int p1), (.int ((p0 &&& (2147483647 : Int32)) % (6 : Int32))), (.ref r325)])) _
        refine XS.iloadN X323.here hx rfl (hb hby at_146) rfl ?_
        show Steps p.tables e below (T323.setTop (mkF m 147 #[.val (.int p0), .val (.int p1), .val (.int p2), .val (.int p3), .val (.int p4), .val (.int p5), .val (.int ((p0 &&& (2147483647 : Int32)) % (6 : Int32))), .val (.ref b1), .val (.ref r287), .val (.ref r325)] [(.int p3), (.int p2), (.int p1), (.int ((p0 &&& (2147483647 : Int32)) % (6 : Int32))), (.ref r325)])) _
        refine XS.iload X323.here hx rfl (hb hby at_147) rfl ?_
        show Steps p.tables e below (T323.setTop (mkF m 149 #[.val (.int p0), .val (.int p1), .val (.int p2), .val (.int p3), .val (.int p4), .val (.int p5), .val (.int ((p0 &&& (2147483647 : Int32)) % (6 : Int32))), .val (.ref b1), .val (.ref r287), .val (.ref r325)] [(.int p4), (.int p3), (.int p2), (.int p1), (.int ((p0 &&& (2147483647 : Int32)) % (6 : Int32))), (.ref r325)])) _
        refine XS.iload X323.here hx rfl (hb hby at_149) rfl ?_
        show Steps p.tables e below (T323.setTop (mkF m 151 #[.val (.int p0), .val (.int p1), .val (.int p2), .val (.int p3), .val (.int p4), .val (.int p5), .val (.int ((p0 &&& (2147483647 : Int32)) % (6 : Int32))), .val (.ref b1), .val (.ref r287), .val (.ref r325)] [(.int p5), (.int p4), (.int p3), (.int p2), (.int p1), (.int ((p0 &&& (2147483647 : Int32)) % (6 : Int32))), (.ref r325)])) _
        refine st335 _ ?_
        exact kt
      obtain ⟨fs, hr, hrun, hended, hW, hsame⟩ := X335.leave (v := some (.int (1 : Int32))) (fun h => by rw [Bd.returns] at h; cases h)
      refine ⟨_, _, pre338 _ ?_, hrun, hended, _, _, rfl, ?_, ⟨_, rfl⟩, hW, hsame.mono (by decide) (by decide)⟩
      · show Steps p.tables e below (T335.setTop (mkF m 154 #[.val (.int p0), .val (.int p1), .val (.int p2), .val (.int p3), .val (.int p4), .val (.int p5), .val (.int ((p0 &&& (2147483647 : Int32)) % (6 : Int32))), .val (.ref b1), .val (.ref r287), .val (.ref r325)] [(.int (1 : Int32))])) _
        exact retN X335 hx (t := .boolean) Bd.returns (by simp) (hb hby at_154) hr
      · show own_Q_law Z p0 p1 p2 p3 p4 p5 h0 n0 (some (.int (1 : Int32))) T335.heap _
        rw [eq336]
        exact ⟨rfl, nf337⟩
  · have zs339 : n0 ≤ T9.heap.size := Nat.le_trans Z0 k12.1
    obtain ⟨cq341, kq341, q341a, q341b, q341c⟩ := isOf hZ rfl f11
    obtain ⟨_, _, ⟨T340, L340, k340, n340⟩, -, X340, ⟨Lc340, hQ340, l340, y340, z340⟩, st340⟩ := X9.virtualBack hx (y := (⟨"com/example/interleaving/interleaving/store/StateGraph", "initialStates", "()[I"⟩ : MethodName)) (z := (⟨"com/example/interleaving/interleaving/store/StateGraph", "initialStates", "()[I"⟩ : MethodName)) hown (mvT hZ (hw _ (List.mem_of_getElem? (i := 19) rfl))) (mvT hZ (hw _ (List.mem_of_getElem? (i := 20) rfl))) (notFace_of_selects (args := #[]) (mvT hZ (hw _ (List.mem_of_getElem? (i := 22) rfl)))) (mvT hZ (hw _ (List.mem_of_getElem? (i := 22) rfl))) (mvT hZ (hw _ (List.mem_of_getElem? (i := 21) rfl))) (by decide) (backOf (W := 0) (own_rm_ist l Z a0 hw [] b1 bx10 0 16 (fun _ => 0) T9.heap n0 zs339 c10_1 c10_2 c10_3 (by decide) (by decide) (by decide)) hZ (hw _ (List.mem_of_getElem? (i := 23) rfl)) (hw _ (List.mem_of_getElem? (i := 3) rfl)) (by decide) (by decide)) q341a q341c (g := (mkF m 81 #[.val (.int p0), .val (.int p1), .val (.int p2), .val (.int p3), .val (.int p4), .val (.int p5), .val (.int ((p0 &&& (2147483647 : Int32)) % (6 : Int32))), .val (.ref b1), .unset, .unset] [(.ref b1)])) rfl (by rw [hml]; rfl) (Steps.refl _) (argsL := []) (rest := []) (lenOf own_pd4 rfl) rfl (by show 2 * 0 + _ ≤ _; exact Nat.le_of_eq rfl) (hb hby at_81) (fun _ _ => ⟨rfl, rfl, (by decide : 4 + 1 ≤ _), (by decide : 2072 + 32 ≤ _)⟩)
    dsimp only [Pt.U, Pt.locs, Pt.cells, Pt.slots] at X340 l340 y340 z340 st340 hQ340
    subst l340 y340 z340
    obtain ⟨r342, rfl, N342, K342, c342_0, c342_1⟩ := hQ340
    have sz_r342 : h0.size ≤ r342 := Nat.le_trans k12.1 c342_0
    have gn_r342 : n0 ≤ r342 := Nat.le_trans Z0 sz_r342
    have ne_b1_r342 : b1 ≠ r342 := Nat.ne_of_lt (Nat.lt_of_lt_of_le c10_2.lt c342_0)
    have ne_bx10_r342 : bx10 ≠ r342 := Nat.ne_of_lt (Nat.lt_of_lt_of_le c10_4.lt c342_0)
    have f343 := f11.keep K342
    have f344 := c10_1.keep K342 nin0
    have f345 := c10_2.keep K342 nin0
    have f346 := c10_3.keep K342 nin0
    have f347 := c10_4.keep K342
    have k348 := k12.trans K342 all0
    have nf349 := Fr.app nf13 N342
    have zs350 : n0 ≤ T340.heap.size := Nat.le_trans Z0 k348.1
    obtain ⟨_, _, ⟨T351, L351, k351, n351⟩, -, X351, ⟨Lc351, hQ351, l351, y351, z351⟩, st351⟩ := Jvm.LawKit.callS X340 hx (y := (⟨"com/example/interleaving/interleaving/store/StateGraphInitialStatesPinLaw", "matches", "([IIIIIII)Z"⟩ : MethodName)) hown (mvT hZ (hw _ (List.mem_of_getElem? (i := 38) rfl))) (mvT hZ (hw _ (List.mem_of_getElem? (i := 39) rfl))) (mvT hZ (hw _ (List.mem_of_getElem? (i := 40) rfl))) (mvT hZ (hw _ (List.mem_of_getElem? (i := 41) rfl))) (by decide) (backOf (W := 0) (own_rm_mt l Z a0 hw [] r342 ((p0 &&& (2147483647 : Int32)) % (6 : Int32)) p1 p2 p3 p4 p5 0 (fun _ => 0) T340.heap n0 zs350 c342_1 (own_k0 (own_kr p0).1 hc15) (by decide) (fun j hj => by rcases j with j <;> first | rfl | omega)) hZ (hw _ (List.mem_of_getElem? (i := 41) rfl)) (hw _ (List.mem_of_getElem? (i := 40) rfl)) (by decide) (by decide)) (g := (mkF m 97 #[.val (.int p0), .val (.int p1), .val (.int p2), .val (.int p3), .val (.int p4), .val (.int p5), .val (.int ((p0 &&& (2147483647 : Int32)) % (6 : Int32))), .val (.ref b1), .val (.ref r342), .unset] [(.int p5), (.int p4), (.int p3), (.int p2), (.int p1), (.int ((p0 &&& (2147483647 : Int32)) % (6 : Int32))), (.ref r342)])) rfl (by rw [hml]; rfl) (argsL := [(.ref r342), (.int ((p0 &&& (2147483647 : Int32)) % (6 : Int32))), (.int p1), (.int p2), (.int p3), (.int p4), (.int p5)]) (rest := []) (lenOf own_pd5 rfl) rfl (by show 2 * 0 + _ ≤ _; exact Nat.le_of_eq rfl) (hb hby at_97) (fun _ _ => ⟨rfl, rfl, (by decide : 5 + 0 ≤ _), (by decide : 2104 + 0 ≤ _)⟩)
    dsimp only [Pt.U, Pt.locs, Pt.cells, Pt.slots] at X351 l351 y351 z351 st351 hQ351
    subst l351 y351 z351
    obtain ⟨rfl, N352, eq352⟩ := hQ351
    have nf353 := Fr.app nf349 N352
    have zs354 : n0 ≤ T340.heap.size := Nat.le_trans Z0 k348.1
    obtain ⟨cq356, kq356, q356a, q356b, q356c⟩ := isOf hZ eq352 f343
    obtain ⟨_, _, ⟨T355, L355, k355, n355⟩, -, X355, ⟨Lc355, hQ355, l355, y355, z355⟩, st355⟩ := X351.virtualBack hx (y := (⟨"com/example/interleaving/interleaving/store/StateGraph", "initialStates", "()[I"⟩ : MethodName)) (z := (⟨"com/example/interleaving/interleaving/store/StateGraph", "initialStates", "()[I"⟩ : MethodName)) hown (mvT hZ (hw _ (List.mem_of_getElem? (i := 19) rfl))) (mvT hZ (hw _ (List.mem_of_getElem? (i := 20) rfl))) (notFace_of_selects (args := #[]) (mvT hZ (hw _ (List.mem_of_getElem? (i := 22) rfl)))) (mvT hZ (hw _ (List.mem_of_getElem? (i := 22) rfl))) (mvT hZ (hw _ (List.mem_of_getElem? (i := 21) rfl))) (by decide) (backOf (W := 0) (own_rm_ist l Z a0 hw [] b1 bx10 0 16 (fun _ => 0) T340.heap n0 zs354 f344 f345 f346 (by decide) (by decide) (by decide)) hZ (hw _ (List.mem_of_getElem? (i := 23) rfl)) (hw _ (List.mem_of_getElem? (i := 3) rfl)) (by decide) (by decide)) q356a q356c (g := (mkF m 135 #[.val (.int p0), .val (.int p1), .val (.int p2), .val (.int p3), .val (.int p4), .val (.int p5), .val (.int ((p0 &&& (2147483647 : Int32)) % (6 : Int32))), .val (.ref b1), .val (.ref r342), .unset] [(.ref b1)])) rfl (by rw [hml]; rfl) (Steps.refl _) (argsL := []) (rest := []) (lenOf own_pd4 rfl) rfl (by show 2 * 0 + _ ≤ _; exact Nat.le_of_eq rfl) (hb hby at_135) (fun _ _ => ⟨rfl, eq352, (by decide : 5 + 1 ≤ _), (by decide : 2104 + 32 ≤ _)⟩)
    dsimp only [Pt.U, Pt.locs, Pt.cells, Pt.slots] at X355 l355 y355 z355 st355 hQ355
    subst l355 y355 z355
    obtain ⟨r357, rfl, N357, K357, c357_0, c357_1⟩ := hQ355
    have sz_r357 : h0.size ≤ r357 := Nat.le_trans k348.1 c357_0
    have gn_r357 : n0 ≤ r357 := Nat.le_trans Z0 sz_r357
    have ne_b1_r357 : b1 ≠ r357 := Nat.ne_of_lt (Nat.lt_of_lt_of_le f345.lt c357_0)
    have ne_bx10_r357 : bx10 ≠ r357 := Nat.ne_of_lt (Nat.lt_of_lt_of_le f347.lt c357_0)
    have ne_r342_r357 : r342 ≠ r357 := Nat.ne_of_lt (Nat.lt_of_lt_of_le c342_1.lt c357_0)
    have f358 := f343.keep K357
    have f359 := f344.keep K357 nin0
    have f360 := f345.keep K357 nin0
    have f361 := f346.keep K357 nin0
    have f362 := f347.keep K357
    have f363 := c342_1.keep K357 nin0
    have k364 := k348.trans K357 all0
    have nf365 := Fr.app nf353 N357
    have zs366 : n0 ≤ T355.heap.size := Nat.le_trans Z0 k364.1
    obtain ⟨_, _, ⟨T367, L367, k367, n367⟩, -, X367, ⟨Lc367, hQ367, l367, y367, z367⟩, st367⟩ := Jvm.LawKit.callS X355 hx (y := (⟨"com/example/interleaving/interleaving/store/StateGraphInitialStatesPinLaw", "matches", "([IIIIIII)Z"⟩ : MethodName)) hown (mvT hZ (hw _ (List.mem_of_getElem? (i := 38) rfl))) (mvT hZ (hw _ (List.mem_of_getElem? (i := 39) rfl))) (mvT hZ (hw _ (List.mem_of_getElem? (i := 40) rfl))) (mvT hZ (hw _ (List.mem_of_getElem? (i := 41) rfl))) (by decide) (backOf (W := 0) (own_rm_mt l Z a0 hw [] r357 ((p0 &&& (2147483647 : Int32)) % (6 : Int32)) p1 p2 p3 p4 p5 0 (fun _ => 0) T355.heap n0 zs366 c357_1 (own_k0 (own_kr p0).1 hc15) (by decide) (fun j hj => by rcases j with j <;> first | rfl | omega)) hZ (hw _ (List.mem_of_getElem? (i := 41) rfl)) (hw _ (List.mem_of_getElem? (i := 40) rfl)) (by decide) (by decide)) (g := (mkF m 151 #[.val (.int p0), .val (.int p1), .val (.int p2), .val (.int p3), .val (.int p4), .val (.int p5), .val (.int ((p0 &&& (2147483647 : Int32)) % (6 : Int32))), .val (.ref b1), .val (.ref r342), .val (.ref r357)] [(.int p5), (.int p4), (.int p3), (.int p2), (.int p1), (.int ((p0 &&& (2147483647 : Int32)) % (6 : Int32))), (.ref r357)])) rfl (by rw [hml]; rfl) (argsL := [(.ref r357), (.int ((p0 &&& (2147483647 : Int32)) % (6 : Int32))), (.int p1), (.int p2), (.int p3), (.int p4), (.int p5)]) (rest := []) (lenOf own_pd5 rfl) rfl (by show 2 * 0 + _ ≤ _; exact Nat.le_of_eq rfl) (hb hby at_151) (fun _ _ => ⟨rfl, rfl, (by decide : 6 + 0 ≤ _), (by decide : 2136 + 0 ≤ _)⟩)
    dsimp only [Pt.U, Pt.locs, Pt.cells, Pt.slots] at X367 l367 y367 z367 st367 hQ367
    subst l367 y367 z367
    obtain ⟨rfl, N368, eq368⟩ := hQ367
    have nf369 := Fr.app nf365 N368
    have pre370 : ∀ t, Steps p.tables e below (T367.setTop (mkF m 154 #[.val (.int p0), .val (.int p1), .val (.int p2), .val (.int p3), .val (.int p4), .val (.int p5), .val (.int ((p0 &&& (2147483647 : Int32)) % (6 : Int32))), .val (.ref b1), .val (.ref r342), .val (.ref r357)] [(.int (1 : Int32))])) t → Steps p.tables e below (s₁.setTop (entryFrame m #[(.int p0), (.int p1), (.int p2), (.int p3), (.int p4), (.int p5)] maxLocals)) t := by
      intro t kt
      refine pre14 t ?_
      show Steps p.tables e below (T9.setTop (mkF m 20 #[.val (.int p0), .val (.int p1), .val (.int p2), .val (.int p3), .val (.int p4), .val (.int p5), .val (.int ((p0 &&& (2147483647 : Int32)) % (6 : Int32))), .val (.ref b1), .unset, .unset] [(.int ((p0 &&& (2147483647 : Int32)) % (6 : Int32)))])) _
      refine XS.ifYes X9.here hx rfl (pc0 := 20) (pc' := 29) rfl (hb hby at_20) rfl ((if0 _ _).trans (flt hc15).2.2.2) (by decide) (by decide) ?_
      show Steps p.tables e below (T9.setTop (mkF m 29 #[.val (.int p0), .val (.int p1), .val (.int p2), .val (.int p3), .val (.int p4), .val (.int p5), .val (.int ((p0 &&& (2147483647 : Int32)) % (6 : Int32))), .val (.ref b1), .unset, .unset] [])) _
      refine XS.iload X9.here hx rfl (hb hby at_29) rfl ?_
      show Steps p.tables e below (T9.setTop (mkF m 31 #[.val (.int p0), .val (.int p1), .val (.int p2), .val (.int p3), .val (.int p4), .val (.int p5), .val (.int ((p0 &&& (2147483647 : Int32)) % (6 : Int32))), .val (.ref b1), .unset, .unset] [(.int ((p0 &&& (2147483647 : Int32)) % (6 : Int32)))])) _
      refine XS.iconst X9.here hx rfl (hb hby at_31) ?_
      show Steps p.tables e below (T9.setTop (mkF m 32 #[.val (.int p0), .val (.int p1), .val (.int p2), .val (.int p3), .val (.int p4), .val (.int p5), .val (.int ((p0 &&& (2147483647 : Int32)) % (6 : Int32))), .val (.ref b1), .unset, .unset] [(.int (1 : Int32)), (.int ((p0 &&& (2147483647 : Int32)) % (6 : Int32)))])) _
      refine XS.icmpYes X9.here hx rfl (pc0 := 32) (pc' := 41) rfl (hb hby at_32) rfl (flt (own_no (0 : Int32) (1 : Int32) hc15 (by decide))).2.2.2 (by decide) (by decide) ?_
      show Steps p.tables e below (T9.setTop (mkF m 41 #[.val (.int p0), .val (.int p1), .val (.int p2), .val (.int p3), .val (.int p4), .val (.int p5), .val (.int ((p0 &&& (2147483647 : Int32)) % (6 : Int32))), .val (.ref b1), .unset, .unset] [])) _
      refine XS.iload X9.here hx rfl (hb hby at_41) rfl ?_
      show Steps p.tables e below (T9.setTop (mkF m 43 #[.val (.int p0), .val (.int p1), .val (.int p2), .val (.int p3), .val (.int p4), .val (.int p5), .val (.int ((p0 &&& (2147483647 : Int32)) % (6 : Int32))), .val (.ref b1), .unset, .unset] [(.int ((p0 &&& (2147483647 : Int32)) % (6 : Int32)))])) _
      refine XS.iconst X9.here hx rfl (hb hby at_43) ?_
      show Steps p.tables e below (T9.setTop (mkF m 44 #[.val (.int p0), .val (.int p1), .val (.int p2), .val (.int p3), .val (.int p4), .val (.int p5), .val (.int ((p0 &&& (2147483647 : Int32)) % (6 : Int32))), .val (.ref b1), .unset, .unset] [(.int (2 : Int32)), (.int ((p0 &&& (2147483647 : Int32)) % (6 : Int32)))])) _
      refine XS.icmpYes X9.here hx rfl (pc0 := 44) (pc' := 53) rfl (hb hby at_44) rfl (flt (own_no (1 : Int32) (2 : Int32) (own_no (0 : Int32) (1 : Int32) hc15 (by decide)) (by decide))).2.2.2 (by decide) (by decide) ?_
      show Steps p.tables e below (T9.setTop (mkF m 53 #[.val (.int p0), .val (.int p1), .val (.int p2), .val (.int p3), .val (.int p4), .val (.int p5), .val (.int ((p0 &&& (2147483647 : Int32)) % (6 : Int32))), .val (.ref b1), .unset, .unset] [])) _
      refine XS.iload X9.here hx rfl (hb hby at_53) rfl ?_
      show Steps p.tables e below (T9.setTop (mkF m 55 #[.val (.int p0), .val (.int p1), .val (.int p2), .val (.int p3), .val (.int p4), .val (.int p5), .val (.int ((p0 &&& (2147483647 : Int32)) % (6 : Int32))), .val (.ref b1), .unset, .unset] [(.int ((p0 &&& (2147483647 : Int32)) % (6 : Int32)))])) _
      refine XS.iconst X9.here hx rfl (hb hby at_55) ?_
      show Steps p.tables e below (T9.setTop (mkF m 56 #[.val (.int p0), .val (.int p1), .val (.int p2), .val (.int p3), .val (.int p4), .val (.int p5), .val (.int ((p0 &&& (2147483647 : Int32)) % (6 : Int32))), .val (.ref b1), .unset, .unset] [(.int (3 : Int32)), (.int ((p0 &&& (2147483647 : Int32)) % (6 : Int32)))])) _
      refine XS.icmpYes X9.here hx rfl (pc0 := 56) (pc' := 66) rfl (hb hby at_56) rfl (flt (own_no (2 : Int32) (3 : Int32) (own_no (1 : Int32) (2 : Int32) (own_no (0 : Int32) (1 : Int32) hc15 (by decide)) (by decide)) (by decide))).2.2.2 (by decide) (by decide) ?_
      show Steps p.tables e below (T9.setTop (mkF m 66 #[.val (.int p0), .val (.int p1), .val (.int p2), .val (.int p3), .val (.int p4), .val (.int p5), .val (.int ((p0 &&& (2147483647 : Int32)) % (6 : Int32))), .val (.ref b1), .unset, .unset] [])) _
      refine XS.iload X9.here hx rfl (hb hby at_66) rfl ?_
      show Steps p.tables e below (T9.setTop (mkF m 68 #[.val (.int p0), .val (.int p1), .val (.int p2), .val (.int p3), .val (.int p4), .val (.int p5), .val (.int ((p0 &&& (2147483647 : Int32)) % (6 : Int32))), .val (.ref b1), .unset, .unset] [(.int ((p0 &&& (2147483647 : Int32)) % (6 : Int32)))])) _
      refine XS.iconst X9.here hx rfl (hb hby at_68) ?_
      show Steps p.tables e below (T9.setTop (mkF m 69 #[.val (.int p0), .val (.int p1), .val (.int p2), .val (.int p3), .val (.int p4), .val (.int p5), .val (.int ((p0 &&& (2147483647 : Int32)) % (6 : Int32))), .val (.ref b1), .unset, .unset] [(.int (4 : Int32)), (.int ((p0 &&& (2147483647 : Int32)) % (6 : Int32)))])) _
      refine XS.icmpYes X9.here hx rfl (pc0 := 69) (pc' := 79) rfl (hb hby at_69) rfl (flt (own_no (3 : Int32) (4 : Int32) (own_no (2 : Int32) (3 : Int32) (own_no (1 : Int32) (2 : Int32) (own_no (0 : Int32) (1 : Int32) hc15 (by decide)) (by decide)) (by decide)) (by decide))).2.2.2 (by decide) (by decide) ?_
      show Steps p.tables e below (T9.setTop (mkF m 79 #[.val (.int p0), .val (.int p1), .val (.int p2), .val (.int p3), .val (.int p4), .val (.int p5), .val (.int ((p0 &&& (2147483647 : Int32)) % (6 : Int32))), .val (.ref b1), .unset, .unset] [])) _
      refine XS.aload X9.here hx rfl (hb hby at_79) rfl rfl ?_
      show Steps p.tables e below (T9.setTop (mkF m 81 #[.val (.int p0), .val (.int p1), .val (.int p2), .val (.int p3), .val (.int p4), .val (.int p5), .val (.int ((p0 &&& (2147483647 : Int32)) % (6 : Int32))), .val (.ref b1), .unset, .unset] [(.ref b1)])) _
      refine st340.trans ?_
      show Steps p.tables e below (T340.setTop (mkF m 84 #[.val (.int p0), .val (.int p1), .val (.int p2), .val (.int p3), .val (.int p4), .val (.int p5), .val (.int ((p0 &&& (2147483647 : Int32)) % (6 : Int32))), .val (.ref b1), .unset, .unset] [(.ref r342)])) _
      refine XS.astore X340.here hx rfl (hb hby at_84) rfl rfl (l' := #[.val (.int p0), .val (.int p1), .val (.int p2), .val (.int p3), .val (.int p4), .val (.int p5), .val (.int ((p0 &&& (2147483647 : Int32)) % (6 : Int32))), .val (.ref b1), .val (.ref r342), .unset]) rfl ?_
      show Steps p.tables e below (T340.setTop (mkF m 86 #[.val (.int p0), .val (.int p1), .val (.int p2), .val (.int p3), .val (.int p4), .val (.int p5), .val (.int ((p0 &&& (2147483647 : Int32)) % (6 : Int32))), .val (.ref b1), .val (.ref r342), .unset] [])) _
      refine XS.aload X340.here hx rfl (hb hby at_86) rfl rfl ?_
      show Steps p.tables e below (T340.setTop (mkF m 88 #[.val (.int p0), .val (.int p1), .val (.int p2), .val (.int p3), .val (.int p4), .val (.int p5), .val (.int ((p0 &&& (2147483647 : Int32)) % (6 : Int32))), .val (.ref b1), .val (.ref r342), .unset] [(.ref r342)])) _
      refine XS.iload X340.here hx rfl (hb hby at_88) rfl ?_
      show Steps p.tables e below (T340.setTop (mkF m 90 #[.val (.int p0), .val (.int p1), .val (.int p2), .val (.int p3), .val (.int p4), .val (.int p5), .val (.int ((p0 &&& (2147483647 : Int32)) % (6 : Int32))), .val (.ref b1), .val (.ref r342), .unset] [(.int ((p0 &&& (2147483647 : Int32)) % (6 : Int32))), (.ref r342)])) _
      refine XS.iloadN X340.here hx rfl (hb hby at_90) rfl ?_
      show Steps p.tables e below (T340.setTop (mkF m 91 #[.val (.int p0), .val (.int p1), .val (.int p2), .val (.int p3), .val (.int p4), .val (.int p5), .val (.int ((p0 &&& (2147483647 : Int32)) % (6 : Int32))), .val (.ref b1), .val (.ref r342), .unset] [(.int p1), (.int ((p0 &&& (2147483647 : Int32)) % (6 : Int32))), (.ref r342)])) _
      refine XS.iloadN X340.here hx rfl (hb hby at_91) rfl ?_
      show Steps p.tables e below (T340.setTop (mkF m 92 #[.val (.int p0), .val (.int p1), .val (.int p2), .val (.int p3), .val (.int p4), .val (.int p5), .val (.int ((p0 &&& (2147483647 : Int32)) % (6 : Int32))), .val (.ref b1), .val (.ref r342), .unset] [(.int p2), (.int p1), (.int ((p0 &&& (2147483647 : Int32)) % (6 : Int32))), (.ref r342)])) _
      refine XS.iloadN X340.here hx rfl (hb hby at_92) rfl ?_
      show Steps p.tables e below (T340.setTop (mkF m 93 #[.val (.int p0), .val (.int p1), .val (.int p2), .val (.int p3), .val (.int p4), .val (.int p5), .val (.int ((p0 &&& (2147483647 : Int32)) % (6 : Int32))), .val (.ref b1), .val (.ref r342), .unset] [(.int p3), (.int p2), (.int p1), (.int ((p0 &&& (2147483647 : Int32)) % (6 : Int32))), (.ref r342)])) _
      refine XS.iload X340.here hx rfl (hb hby at_93) rfl ?_
      show Steps p.tables e below (T340.setTop (mkF m 95 #[.val (.int p0), .val (.int p1), .val (.int p2), .val (.int p3), .val (.int p4), .val (.int p5), .val (.int ((p0 &&& (2147483647 : Int32)) % (6 : Int32))), .val (.ref b1), .val (.ref r342), .unset] [(.int p4), (.int p3), (.int p2), (.int p1), (.int ((p0 &&& (2147483647 : Int32)) % (6 : Int32))), (.ref r342)])) _
      refine XS.iload X340.here hx rfl (hb hby at_95) rfl ?_
      show Steps p.tables e below (T340.setTop (mkF m 97 #[.val (.int p0), .val (.int p1), .val (.int p2), .val (.int p3), .val (.int p4), .val (.int p5), .val (.int ((p0 &&& (2147483647 : Int32)) % (6 : Int32))), .val (.ref b1), .val (.ref r342), .unset] [(.int p5), (.int p4), (.int p3), (.int p2), (.int p1), (.int ((p0 &&& (2147483647 : Int32)) % (6 : Int32))), (.ref r342)])) _
      refine st351 _ ?_
      show Steps p.tables e below (T351.setTop (mkF m 100 #[.val (.int p0), .val (.int p1), .val (.int p2), .val (.int p3), .val (.int p4), .val (.int p5), .val (.int ((p0 &&& (2147483647 : Int32)) % (6 : Int32))), .val (.ref b1), .val (.ref r342), .unset] [(.int (1 : Int32))])) _
      refine XS.ifYes X351.here hx rfl (pc0 := 100) (pc' := 105) rfl (hb hby at_100) rfl ((if0 _ _).trans (feq (by decide : ¬ ((1 : Int32) = (0 : Int32)))).2) (by decide) (by decide) ?_
      show Steps p.tables e below (T351.setTop (mkF m 105 #[.val (.int p0), .val (.int p1), .val (.int p2), .val (.int p3), .val (.int p4), .val (.int p5), .val (.int ((p0 &&& (2147483647 : Int32)) % (6 : Int32))), .val (.ref b1), .val (.ref r342), .unset] [])) _
      refine XS.iload X351.here hx rfl (hb hby at_105) rfl ?_
      show Steps p.tables e below (T351.setTop (mkF m 107 #[.val (.int p0), .val (.int p1), .val (.int p2), .val (.int p3), .val (.int p4), .val (.int p5), .val (.int ((p0 &&& (2147483647 : Int32)) % (6 : Int32))), .val (.ref b1), .val (.ref r342), .unset] [(.int ((p0 &&& (2147483647 : Int32)) % (6 : Int32)))])) _
      refine XS.ifYes X351.here hx rfl (pc0 := 107) (pc' := 133) rfl (hb hby at_107) rfl ((if0 _ _).trans (flt hc15).2.2.2) (by decide) (by decide) ?_
      show Steps p.tables e below (T351.setTop (mkF m 133 #[.val (.int p0), .val (.int p1), .val (.int p2), .val (.int p3), .val (.int p4), .val (.int p5), .val (.int ((p0 &&& (2147483647 : Int32)) % (6 : Int32))), .val (.ref b1), .val (.ref r342), .unset] [])) _
      refine XS.aload X351.here hx rfl (hb hby at_133) rfl rfl ?_
      show Steps p.tables e below (T351.setTop (mkF m 135 #[.val (.int p0), .val (.int p1), .val (.int p2), .val (.int p3), .val (.int p4), .val (.int p5), .val (.int ((p0 &&& (2147483647 : Int32)) % (6 : Int32))), .val (.ref b1), .val (.ref r342), .unset] [(.ref b1)])) _
      refine st355.trans ?_
      show Steps p.tables e below (T355.setTop (mkF m 138 #[.val (.int p0), .val (.int p1), .val (.int p2), .val (.int p3), .val (.int p4), .val (.int p5), .val (.int ((p0 &&& (2147483647 : Int32)) % (6 : Int32))), .val (.ref b1), .val (.ref r342), .unset] [(.ref r357)])) _
      refine XS.astore X355.here hx rfl (hb hby at_138) rfl rfl (l' := #[.val (.int p0), .val (.int p1), .val (.int p2), .val (.int p3), .val (.int p4), .val (.int p5), .val (.int ((p0 &&& (2147483647 : Int32)) % (6 : Int32))), .val (.ref b1), .val (.ref r342), .val (.ref r357)]) rfl ?_
      show Steps p.tables e below (T355.setTop (mkF m 140 #[.val (.int p0), .val (.int p1), .val (.int p2), .val (.int p3), .val (.int p4), .val (.int p5), .val (.int ((p0 &&& (2147483647 : Int32)) % (6 : Int32))), .val (.ref b1), .val (.ref r342), .val (.ref r357)] [])) _
      refine XS.aload X355.here hx rfl (hb hby at_140) rfl rfl ?_
      show Steps p.tables e below (T355.setTop (mkF m 142 #[.val (.int p0), .val (.int p1), .val (.int p2), .val (.int p3), .val (.int p4), .val (.int p5), .val (.int ((p0 &&& (2147483647 : Int32)) % (6 : Int32))), .val (.ref b1), .val (.ref r342), .val (.ref r357)] [(.ref r357)])) _
      refine XS.iload X355.here hx rfl (hb hby at_142) rfl ?_
      show Steps p.tables e below (T355.setTop (mkF m 144 #[.val (.int p0), .val (.int p1), .val (.int p2), .val (.int p3), .val (.int p4), .val (.int p5), .val (.int ((p0 &&& (2147483647 : Int32)) % (6 : Int32))), .val (.ref b1), .val (.ref r342), .val (.ref r357)] [(.int ((p0 &&& (2147483647 : Int32)) % (6 : Int32))), (.ref r357)])) _
      refine XS.iloadN X355.here hx rfl (hb hby at_144) rfl ?_
      show Steps p.tables e below (T355.setTop (mkF m 145 #[.val (.int p0), .val (.int p1), .val (.int p2), .val (.int p3), .val (.int p4), .val (.int p5), .val (.int ((p0 &&& (2147483647 : Int32)) % (6 : Int32))), .val (.ref b1), .val (.ref r342), .val (.ref r357)] [(.int p1), (.int ((p0 &&& (2147483647 : Int32)) % (6 : Int32))), (.ref r357)])) _
      refine XS.iloadN X355.here hx rfl (hb hby at_145) rfl ?_
      show Steps p.tables e below (T355.setTop (mkF m 146 #[.val (.int p0), .val (.int p1), .val (.int p2), .val (.int p3), .val (.int p4), .val (.int p5), .val (.int ((p0 &&& (2147483647 : Int32)) % (6 : Int32))), .val (.ref b1), .val (.ref r342), .val (.ref r357)] [(.int p2), (.int p1), (.int ((p0 &&& (2147483647 : Int32)) % (6 : Int32))), (.ref r357)])) _
      refine XS.iloadN X355.here hx rfl (hb hby at_146) rfl ?_
      show Steps p.tables e below (T355.setTop (mkF m 147 #[.val (.int p0), .val (.int p1), .val (.int p2), .val (.int p3), .val (.int p4), .val (.int p5), .val (.int ((p0 &&& (2147483647 : Int32)) % (6 : Int32))), .val (.ref b1), .val (.ref r342), .val (.ref r357)] [(.int p3), (.int p2), (.int p1), (.int ((p0 &&& (2147483647 : Int32)) % (6 : Int32))), (.ref r357)])) _
      refine XS.iload X355.here hx rfl (hb hby at_147) rfl ?_
      show Steps p.tables e below (T355.setTop (mkF m 149 #[.val (.int p0), .val (.int p1), .val (.int p2), .val (.int p3), .val (.int p4), .val (.int p5), .val (.int ((p0 &&& (2147483647 : Int32)) % (6 : Int32))), .val (.ref b1), .val (.ref r342), .val (.ref r357)] [(.int p4), (.int p3), (.int p2), (.int p1), (.int ((p0 &&& (2147483647 : Int32)) % (6 : Int32))), (.ref r357)])) _
      refine XS.iload X355.here hx rfl (hb hby at_149) rfl ?_
      show Steps p.tables e below (T355.setTop (mkF m 151 #[.val (.int p0), .val (.int p1), .val (.int p2), .val (.int p3), .val (.int p4), .val (.int p5), .val (.int ((p0 &&& (2147483647 : Int32)) % (6 : Int32))), .val (.ref b1), .val (.ref r342), .val (.ref r357)] [(.int p5), (.int p4), (.int p3), (.int p2), (.int p1), (.int ((p0 &&& (2147483647 : Int32)) % (6 : Int32))), (.ref r357)])) _
      refine st367 _ ?_
      exact kt
    obtain ⟨fs, hr, hrun, hended, hW, hsame⟩ := X367.leave (v := some (.int (1 : Int32))) (fun h => by rw [Bd.returns] at h; cases h)
    refine ⟨_, _, pre370 _ ?_, hrun, hended, _, _, rfl, ?_, ⟨_, rfl⟩, hW, hsame.mono (by decide) (by decide)⟩
    · show Steps p.tables e below (T367.setTop (mkF m 154 #[.val (.int p0), .val (.int p1), .val (.int p2), .val (.int p3), .val (.int p4), .val (.int p5), .val (.int ((p0 &&& (2147483647 : Int32)) % (6 : Int32))), .val (.ref b1), .val (.ref r342), .val (.ref r357)] [(.int (1 : Int32))])) _
      exact retN X367 hx (t := .boolean) Bd.returns (by simp) (hb hby at_154) hr
    · show own_Q_law Z p0 p1 p2 p3 p4 p5 h0 n0 (some (.int (1 : Int32))) T367.heap _
      rw [eq368]
      exact ⟨rfl, nf369⟩
set_option maxRecDepth 65536 in
set_option maxHeartbeats 40000000 in
theorem own_comes {Post : Tables → Env → Array Value → State → Outcome → State → Prop} (hpost : ∀ tb e args s v u, (limb_1_1.after args s (.returned v) u = true ∧ limb_1_2.after args s (.returned v) u = true ∧ True) → FrameEnd s (.returned v) u (Jvm.fieldLocs frame_1_writes args s ++ Jvm.arrayLocs frame_1_arrays args s ++ Jvm.staticLocs frame_1_statics s) 24 4288 → Post tb e args s (.returned v) u) :
    ArmFor flags0 classFile x code maxLocals ret World_1 tables_1 room_1 Calls_1 rest_1 Pre_1 Post := by
  intro l hfl _ _ p e ha hc hk s m args below hf hA hF happ hP
  obtain ⟨hcalls, hrest, hpre⟩ := hP
  obtain ⟨-, -, -, hnamed, -, -, -, hat⟩ := (Spec.applies_iff hf).mp happ
  obtain ⟨hg, hn⟩ := and_e (Cond.before_iff.mp (show (Jvm.Cond.and given_1 narrow_1).before args s = true from hpre))
  obtain ⟨hcount, hq0⟩ := and_e hg
  obtain ⟨hi0, hq1⟩ := and_e hq0
  obtain ⟨hi1, hq2⟩ := and_e hq1
  obtain ⟨hi2, hq3⟩ := and_e hq2
  obtain ⟨hi3, hq4⟩ := and_e hq3
  obtain ⟨hi4, hq5⟩ := and_e hq4
  have hi5 := hq5
  obtain ⟨w0, w1, w2, w3, w4, w5, rfl⟩ : ∃ w0 w1 w2 w3 w4 w5 : Value, args = #[w0, w1, w2, w3, w4, w5] := by
    have hs : args.size = 6 := by simpa [Cond.value, given_1] using hcount
    obtain ⟨L⟩ := args
    match L, hs with
    | [w0, w1, w2, w3, w4, w5], _ => exact ⟨w0, w1, w2, w3, w4, w5, rfl⟩
  have hw := fun d (hd : d ∈ tables_1) => atoms_spec (ws := Jvm.Cond.code x code maxLocals ret :: tables_1) hat d (List.mem_cons_of_mem _ hd)
  have hfit : Fit s := fun {y c} hc i hi => by
    obtain ⟨ha, rfl⟩ := Array.getElem?_eq_some_iff.mp hc
    have q := List.all_eq_true.mp ((Array.all_eq_true_iff_forall_mem.mp hF) _ (Array.getElem_mem ha)) i (List.mem_range.mpr hi)
    simpa [Array.getElem?_eq_getElem hi] using q
  obtain ⟨i0, ei0⟩ := is_v hi0
  obtain rfl : w0 = (.int i0) := Option.some.inj ei0
  obtain ⟨i1, ei1⟩ := is_v hi1
  obtain rfl : w1 = (.int i1) := Option.some.inj ei1
  obtain ⟨i2, ei2⟩ := is_v hi2
  obtain rfl : w2 = (.int i2) := Option.some.inj ei2
  obtain ⟨i3, ei3⟩ := is_v hi3
  obtain rfl : w3 = (.int i3) := Option.some.inj ei3
  obtain ⟨i4, ei4⟩ := is_v hi4
  obtain rfl : w4 = (.int i4) := Option.some.inj ei4
  obtain ⟨i5, ei5⟩ := is_v hi5
  obtain rfl : w5 = (.int i5) := Option.some.inj ei5
  obtain ⟨n, o, h1, h2, h3, _, L, rfl, ⟨rfl, N⟩, hq⟩ := own_rm_law l s _ hw tables_1 i0 i1 i2 i3 i4 i5  s.heap s.heap.size (Nat.le_refl _)  p e ha hc hk s m _ below hf ((Spec.applies_iff_loose hf).mp happ).1 ⟨rfl, State.Warmed39.refl s, rfl⟩ trivial
  refine ⟨n, _, h1, h2, h3, hpost _ _ _ _ _ _ ⟨Cond.after_iff.mpr rfl, Cond.after_iff.mpr (eq_i res_at (Term.int_eval (1)) rfl), trivial⟩ ⟨hq.1, hq.2.1, (hq.2.2.sift fun y hy => Or.inr (N y hy)).mono (by decide) (by decide)⟩⟩
theorem main_1_1 : Claimed_1_1 := own_comes fun _ _ _ _ _ _ h hF => ⟨h.1, hF⟩
theorem main_1_2 : Claimed_1_2 := own_comes fun _ _ _ _ _ _ h hF => ⟨h.2.1, hF⟩
end Jvm.Pilot.@@N@@
namespace Jvm.Pilot.@@N@@
open Jvm Jvm.ClassFile Sem Op Lib Jvm.Free Jvm.Stand Jvm.Pilot.@@N@@.Jvm.D
/-! MADE BY PROGRAM (witnessworld.py) out of the Statement's table words and the real class files: 12 classes; the members and pool entries that the words name. The judged class is class 1, her method 1. -/
namespace start1
open Jvm.ClassFile
def u (s : String) : CpInfo := .utf8 (stringToUtf16 s)
/-- a pool by its gaps: so many unusable entries, then the entry; so many at the end -/
def gap : Nat → List CpInfo → List CpInfo
  | 0, r => r
  | n + 1, r => .unusable :: gap n r
def poolList (es : List (Nat × CpInfo)) (last : Nat) : List CpInfo := es.foldr (fun e r => gap e.1 (e.2 :: r)) (gap last [])
def pool (es : List (Nat × CpInfo)) (last : Nat) : Array CpInfo := ⟨poolList es last⟩
def fileOf (pool : Array CpInfo) (this : Nat) (attrs : Array Attribute := #[]) (ms : Array MethodInfo := #[]) (fl : Nat := 33) (sup : Nat := 0) (ifs : Array Nat := #[]) (fds : Array FieldInfo := #[]) : ClassFile where
  minorVersion := 0
  majorVersion := 65
  constantPool := pool
  accessFlags := fl
  thisClass := this
  superClass := sup
  interfaces := ifs
  fields := fds
  methods := ms
  attributes := attrs
def plain (name : String) (sup : Option ClassId) : Class where
  name := name
  kind := .ordinary
  loader := none
  accessFlags := 33
  super := sup
  interfaces := #[]
  cf := none
  fields := #[]
  methods := #[]
  instanceTypes := #[]
  staticTypes := #[]
  resolved := #[]
  callSites := []
  init := .initialized
  statics := none
  mirror := none

def pool0 : Array CpInfo := pool [(5, u "<init>"), (0, u "()V"), (1, .class_ 10), (1, u "java/lang/Object")] 113

def k0c0 : Code := { maxStack := 0, maxLocals := 1, code := object_method_1_code, exceptionTable := #[], attributes := #[] }
def k0m0 : Method := { name := "<init>", desc := "()V", sig := { parameters := [], returnType := none }, accessFlags := 1, code := some k0c0 }
/-- java/lang/Object -/
def k0 : Class := { plain "java/lang/Object" none with
  accessFlags := 33
  interfaces := #[]
  cf := some (fileOf pool0 8 #[] #[{ accessFlags := 1, nameIndex := 5, descriptorIndex := 6, attributes := #[] }] 33 0 #[] #[])
  fields := #[]
  methods := #[k0m0]
  instanceTypes := #[]
  staticTypes := #[]
  resolved := Array.replicate 124 none
  statics := none }

def pool1 : Array CpInfo := pool [(2, .class_ 4), (0, .nameAndType 5 6), (0, u "java/lang/Object"), (0, u "<init>"), (0, u "()V"), (0, .integer 2147483647), (0, .class_ 9), (0, u "com/example/interleaving/interleaving/store/StateGraph"), (0, .methodref 8 3), (0, .methodref 8 12), (0, .nameAndType 13 14), (0, u "addInitial"), (0, u "(I)V"), (0, .methodref 8 16), (0, .nameAndType 17 18), (0, u "initialStates"), (0, u "()[I"), (0, .methodref 20 21), (0, .class_ 22), (0, .nameAndType 23 24), (0, u "com/example/interleaving/interleaving/store/StateGraphInitialStatesPinLaw"), (0, u "matches"), (0, u "([IIIIIII)Z"), (2, u "law"), (0, u "(IIIIII)Z")] 5

def k1m0 : Method := { name := "<init>", desc := "()V", sig := { parameters := [], returnType := none }, accessFlags := 1, code := none }
def k1c1 : Code := { maxStack := 7, maxLocals := 10, code := code, exceptionTable := #[], attributes := #[] }
def k1m1 : Method := { name := "law", desc := "(IIIIII)Z", sig := { parameters := [.int, .int, .int, .int, .int, .int], returnType := some .boolean }, accessFlags := 9, code := some k1c1 }
def k1c2 : Code := { maxStack := 2, maxLocals := 7, code := method_3_code, exceptionTable := #[], attributes := #[] }
def k1m2 : Method := { name := "matches", desc := "([IIIIIII)Z", sig := { parameters := [(.array .int), .int, .int, .int, .int, .int, .int], returnType := some .boolean }, accessFlags := 10, code := some k1c2 }
/-- com/example/interleaving/interleaving/store/StateGraphInitialStatesPinLaw -/
def k1 : Class := { plain "com/example/interleaving/interleaving/store/StateGraphInitialStatesPinLaw" (some 0) with
  accessFlags := 49
  interfaces := #[]
  cf := some (fileOf pool1 20 #[] #[{ accessFlags := 1, nameIndex := 5, descriptorIndex := 6, attributes := #[] }, { accessFlags := 9, nameIndex := 27, descriptorIndex := 28, attributes := #[] }, { accessFlags := 10, nameIndex := 23, descriptorIndex := 24, attributes := #[] }] 49 2 #[] #[])
  fields := #[]
  methods := #[k1m0, k1m1, k1m2]
  instanceTypes := #[]
  staticTypes := #[]
  resolved := Array.replicate 34 none
  statics := none }

def pool2 : Array CpInfo := pool [(1, .methodref 2 3), (0, .class_ 4), (0, .nameAndType 5 6), (0, u "java/lang/Object"), (0, u "<init>"), (0, u "()V"), (0, .fieldref 8 9), (0, .class_ 10), (0, .nameAndType 11 12), (0, u "com/example/interleaving/interleaving/store/StateGraph"), (0, u "initial"), (0, u "[I"), (0, .fieldref 8 14), (0, .nameAndType 15 12), (0, u "targets"), (0, .fieldref 8 17), (0, .nameAndType 18 12), (0, u "firsts"), (0, .fieldref 8 20), (0, .nameAndType 21 22), (0, u "open"), (0, u "I"), (0, .fieldref 8 24), (0, .nameAndType 25 22), (0, u "initialCount"), (0, .methodref 27 28), (0, .class_ 29), (0, .nameAndType 30 31), (0, u "java/util/Arrays"), (0, u "copyOf"), (0, u "([II)[I"), (2, u "closed"), (12, u "(I)V"), (2, u "stepCount"), (18, u "addInitial"), (6, u "initialStates"), (0, u "()[I")] 20

def k2c0 : Code := { maxStack := 2, maxLocals := 1, code := prog_103_method_1_code, exceptionTable := #[], attributes := #[] }
def k2m0 : Method := { name := "<init>", desc := "()V", sig := { parameters := [], returnType := none }, accessFlags := 1, code := some k2c0 }
def k2c1 : Code := { maxStack := 5, maxLocals := 2, code := prog_103_method_2_code, exceptionTable := #[], attributes := #[] }
def k2m1 : Method := { name := "addInitial", desc := "(I)V", sig := { parameters := [.int], returnType := none }, accessFlags := 1, code := some k2c1 }
def k2c2 : Code := { maxStack := 2, maxLocals := 1, code := prog_103_method_9_code, exceptionTable := #[], attributes := #[] }
def k2m2 : Method := { name := "initialStates", desc := "()[I", sig := { parameters := [], returnType := some (.array .int) }, accessFlags := 1, code := some k2c2 }
/-- com/example/interleaving/interleaving/store/StateGraph -/
def k2 : Class := { plain "com/example/interleaving/interleaving/store/StateGraph" (some 0) with
  accessFlags := 33
  interfaces := #[]
  cf := some (fileOf pool2 8 #[] #[{ accessFlags := 1, nameIndex := 5, descriptorIndex := 6, attributes := #[] }, { accessFlags := 1, nameIndex := 69, descriptorIndex := 47, attributes := #[] }, { accessFlags := 1, nameIndex := 76, descriptorIndex := 77, attributes := #[] }] 33 2 #[] #[{ accessFlags := 2, nameIndex := 11, descriptorIndex := 12, attributes := #[] }, { accessFlags := 2, nameIndex := 25, descriptorIndex := 22, attributes := #[] }, { accessFlags := 2, nameIndex := 15, descriptorIndex := 12, attributes := #[] }, { accessFlags := 2, nameIndex := 50, descriptorIndex := 22, attributes := #[] }, { accessFlags := 2, nameIndex := 18, descriptorIndex := 12, attributes := #[] }, { accessFlags := 2, nameIndex := 34, descriptorIndex := 22, attributes := #[] }, { accessFlags := 2, nameIndex := 21, descriptorIndex := 22, attributes := #[] }])
  fields := #[{ name := "initial", type := (.array .int), accessFlags := 2, slot := 0, constantValue := 0 }, { name := "initialCount", type := .int, accessFlags := 2, slot := 1, constantValue := 0 }, { name := "targets", type := (.array .int), accessFlags := 2, slot := 2, constantValue := 0 }, { name := "stepCount", type := .int, accessFlags := 2, slot := 3, constantValue := 0 }, { name := "firsts", type := (.array .int), accessFlags := 2, slot := 4, constantValue := 0 }, { name := "closed", type := .int, accessFlags := 2, slot := 5, constantValue := 0 }, { name := "open", type := .int, accessFlags := 2, slot := 6, constantValue := 0 }]
  methods := #[k2m0, k2m1, k2m2]
  instanceTypes := #[(.array .int), .int, (.array .int), .int, (.array .int), .int, .int]
  staticTypes := #[]
  resolved := Array.replicate 98 none
  statics := none }

def pool3 : Array CpInfo := pool [(2, .class_ 4), (1, u "java/lang/Object"), (0, u "<init>"), (0, u "()V"), (7, .class_ 16), (1, u "java/util/Arrays"), (57, .class_ 76), (1, u "java/util/Arrays$NaturalOrder"), (36, .class_ 115), (1, u "java/util/Arrays$LegacyMergeSort"), (1, u "Z"), (32, .methodref 151 152), (0, .class_ 153), (0, .nameAndType 154 155), (0, u "java/lang/System"), (0, u "arraycopy"), (0, u "(Ljava/lang/Object;ILjava/lang/Object;II)V"), (146, u "copyOf"), (1, .methodref 305 306), (0, .class_ 307), (0, .nameAndType 308 309), (0, u "java/lang/Math"), (0, u "min"), (0, u "(II)I"), (65, .class_ 376), (0, u "java/util/Arrays$ArrayList"), (68, u "$assertionsDisabled"), (269, u "MIN_ARRAY_SORT_GRAN"), (0, u "I"), (2, u "INSERTIONSORT_THRESHOLD"), (151, u "([II)[I"), (103, .class_ 976), (0, u "java/util/Arrays$ArrayItr")] 52

def k3m0 : Method := { name := "<init>", desc := "()V", sig := { parameters := [], returnType := none }, accessFlags := 2, code := none }
def k3c1 : Code := { maxStack := 6, maxLocals := 3, code := jdk_65_method_123_code, exceptionTable := #[], attributes := #[] }
def k3m1 : Method := { name := "copyOf", desc := "([II)[I", sig := { parameters := [(.array .int), .int], returnType := some (.array .int) }, accessFlags := 9, code := some k3c1 }
/-- java/util/Arrays -/
def k3 : Class := { plain "java/util/Arrays" (some 0) with
  accessFlags := 49
  interfaces := #[]
  cf := some (fileOf pool3 14 #[.nestMembers #[975, 375, 113, 74]] #[{ accessFlags := 2, nameIndex := 5, descriptorIndex := 6, attributes := #[] }, { accessFlags := 9, nameIndex := 302, descriptorIndex := 871, attributes := #[] }] 49 2 #[] #[{ accessFlags := 26, nameIndex := 715, descriptorIndex := 716, attributes := #[] }, { accessFlags := 26, nameIndex := 719, descriptorIndex := 716, attributes := #[] }, { accessFlags := 4120, nameIndex := 445, descriptorIndex := 117, attributes := #[] }])
  fields := #[{ name := "MIN_ARRAY_SORT_GRAN", type := .int, accessFlags := 26, slot := 0, constantValue := 0 }, { name := "INSERTIONSORT_THRESHOLD", type := .int, accessFlags := 26, slot := 1, constantValue := 0 }, { name := "$assertionsDisabled", type := .boolean, accessFlags := 4120, slot := 2, constantValue := 0 }]
  methods := #[k3m0, k3m1]
  instanceTypes := #[]
  staticTypes := #[.int, .int, .boolean]
  resolved := Array.replicate 1029 none
  statics := none }

def pool4 : Array CpInfo := pool [(1, .class_ 2), (0, u "java/lang/Math"), (1, .class_ 6), (1, u "java/lang/Object"), (0, u "<init>"), (0, u "()V"), (89, .class_ 100), (1, u "java/lang/Math$RandomNumberGeneratorHolder"), (71, u "negativeZeroFloatBits"), (0, u "J"), (2, u "negativeZeroDoubleBits"), (24, u "min"), (43, u "$assertionsDisabled"), (0, u "Z"), (88, u "(II)I"), (2, u "twoToTheDoubleScaleDown"), (0, u "D"), (4, u "twoToTheDoubleScaleUp"), (9, u "E"), (3, u "PI"), (2, u "TAU"), (2, u "DEGREES_TO_RADIANS"), (0, u "RADIANS_TO_DEGREES")] 94

def k4m0 : Method := { name := "<init>", desc := "()V", sig := { parameters := [], returnType := none }, accessFlags := 2, code := none }
def k4c1 : Code := { maxStack := 2, maxLocals := 2, code := jdk_29_method_69_code, exceptionTable := #[], attributes := #[] }
def k4m1 : Method := { name := "min", desc := "(II)I", sig := { parameters := [.int, .int], returnType := some .int }, accessFlags := 9, code := some k4c1 }
/-- java/lang/Math -/
def k4 : Class := { plain "java/lang/Math" (some 0) with
  accessFlags := 49
  interfaces := #[]
  cf := some (fileOf pool4 1 #[.nestMembers #[98]] #[{ accessFlags := 2, nameIndex := 7, descriptorIndex := 8, attributes := #[] }, { accessFlags := 9, nameIndex := 201, descriptorIndex := 335, attributes := #[] }] 49 4 #[] #[{ accessFlags := 25, nameIndex := 354, descriptorIndex := 339, attributes := #[] }, { accessFlags := 25, nameIndex := 358, descriptorIndex := 339, attributes := #[] }, { accessFlags := 25, nameIndex := 361, descriptorIndex := 339, attributes := #[] }, { accessFlags := 26, nameIndex := 364, descriptorIndex := 339, attributes := #[] }, { accessFlags := 26, nameIndex := 365, descriptorIndex := 339, attributes := #[] }, { accessFlags := 26, nameIndex := 172, descriptorIndex := 173, attributes := #[] }, { accessFlags := 26, nameIndex := 176, descriptorIndex := 173, attributes := #[] }, { accessFlags := 8, nameIndex := 344, descriptorIndex := 339, attributes := #[] }, { accessFlags := 8, nameIndex := 338, descriptorIndex := 339, attributes := #[] }, { accessFlags := 4120, nameIndex := 245, descriptorIndex := 246, attributes := #[] }])
  fields := #[{ name := "E", type := .double, accessFlags := 25, slot := 0, constantValue := 0 }, { name := "PI", type := .double, accessFlags := 25, slot := 1, constantValue := 0 }, { name := "TAU", type := .double, accessFlags := 25, slot := 2, constantValue := 0 }, { name := "DEGREES_TO_RADIANS", type := .double, accessFlags := 26, slot := 3, constantValue := 0 }, { name := "RADIANS_TO_DEGREES", type := .double, accessFlags := 26, slot := 4, constantValue := 0 }, { name := "negativeZeroFloatBits", type := .long, accessFlags := 26, slot := 5, constantValue := 0 }, { name := "negativeZeroDoubleBits", type := .long, accessFlags := 26, slot := 6, constantValue := 0 }, { name := "twoToTheDoubleScaleUp", type := .double, accessFlags := 8, slot := 7, constantValue := 0 }, { name := "twoToTheDoubleScaleDown", type := .double, accessFlags := 8, slot := 8, constantValue := 0 }, { name := "$assertionsDisabled", type := .boolean, accessFlags := 4120, slot := 9, constantValue := 0 }]
  methods := #[k4m0, k4m1]
  instanceTypes := #[]
  staticTypes := #[.double, .double, .double, .double, .double, .long, .long, .double, .double, .boolean]
  resolved := Array.replicate 460 none
  statics := none }

def pool5 : Array CpInfo := pool [(2, .class_ 4), (1, u "java/lang/Object"), (0, u "<init>"), (0, u "()V"), (1, .class_ 10), (1, u "java/lang/System"), (0, u "allowSecurityManager"), (0, u "I"), (16, u "cons"), (0, u "Ljava/io/Console;"), (77, .class_ 110), (1, u "java/lang/System$CallersHolder"), (43, u "initialErrStream"), (0, u "Ljava/io/PrintStream;"), (19, u "security"), (0, u "Ljava/lang/SecurityManager;"), (31, .class_ 209), (0, u "java/lang/System$1"), (7, u "props"), (0, u "Ljava/util/Properties;"), (2, u "lineSeparator"), (0, u "Ljava/lang/String;"), (96, .class_ 321), (1, u "java/lang/System$LoggerFinder"), (5, .class_ 328), (0, u "java/lang/System$Logger"), (67, u "err"), (2, u "out"), (91, u "notSupportedJnuEncoding"), (15, u "in"), (17, u "initialIn"), (0, u "Ljava/io/InputStream;"), (35, u "bootLayer"), (0, u "Ljava/lang/ModuleLayer;"), (99, .class_ 664), (0, u "java/lang/System$2"), (9, u "NEVER"), (2, u "MAYBE"), (49, u "arraycopy"), (0, u "(Ljava/lang/Object;ILjava/lang/Object;II)V"), (72, .class_ 802), (0, u "java/lang/System$Logger$Level")] 31

def k5m0 : Method := { name := "<init>", desc := "()V", sig := { parameters := [], returnType := none }, accessFlags := 2, code := none }
def k5m1 : Method := { name := "arraycopy", desc := "(Ljava/lang/Object;ILjava/lang/Object;II)V", sig := { parameters := [(.object "java/lang/Object"), .int, (.object "java/lang/Object"), .int, .int], returnType := none }, accessFlags := 265, code := none }
/-- java/lang/System -/
def k5 : Class := { plain "java/lang/System" (some 0) with
  accessFlags := 49
  interfaces := #[]
  cf := some (fileOf pool5 8 #[.nestMembers #[319, 327, 801, 108, 663, 208]] #[{ accessFlags := 2, nameIndex := 5, descriptorIndex := 6, attributes := #[] }, { accessFlags := 265, nameIndex := 727, descriptorIndex := 728, attributes := #[] }] 49 2 #[] #[{ accessFlags := 25, nameIndex := 507, descriptorIndex := 526, attributes := #[] }, { accessFlags := 25, nameIndex := 399, descriptorIndex := 155, attributes := #[] }, { accessFlags := 25, nameIndex := 396, descriptorIndex := 155, attributes := #[] }, { accessFlags := 10, nameIndex := 525, descriptorIndex := 526, attributes := #[] }, { accessFlags := 26, nameIndex := 674, descriptorIndex := 12, attributes := #[] }, { accessFlags := 26, nameIndex := 677, descriptorIndex := 12, attributes := #[] }, { accessFlags := 10, nameIndex := 11, descriptorIndex := 12, attributes := #[] }, { accessFlags := 74, nameIndex := 175, descriptorIndex := 176, attributes := #[] }, { accessFlags := 10, nameIndex := 491, descriptorIndex := 222, attributes := #[] }, { accessFlags := 74, nameIndex := 29, descriptorIndex := 30, attributes := #[] }, { accessFlags := 74, nameIndex := 154, descriptorIndex := 155, attributes := #[] }, { accessFlags := 10, nameIndex := 217, descriptorIndex := 218, attributes := #[] }, { accessFlags := 10, nameIndex := 221, descriptorIndex := 222, attributes := #[] }, { accessFlags := 8, nameIndex := 562, descriptorIndex := 563, attributes := #[] }])
  fields := #[{ name := "in", type := (.object "java/io/InputStream"), accessFlags := 25, slot := 0, constantValue := 0 }, { name := "out", type := (.object "java/io/PrintStream"), accessFlags := 25, slot := 1, constantValue := 0 }, { name := "err", type := (.object "java/io/PrintStream"), accessFlags := 25, slot := 2, constantValue := 0 }, { name := "initialIn", type := (.object "java/io/InputStream"), accessFlags := 10, slot := 3, constantValue := 0 }, { name := "NEVER", type := .int, accessFlags := 26, slot := 4, constantValue := 0 }, { name := "MAYBE", type := .int, accessFlags := 26, slot := 5, constantValue := 0 }, { name := "allowSecurityManager", type := .int, accessFlags := 10, slot := 6, constantValue := 0 }, { name := "security", type := (.object "java/lang/SecurityManager"), accessFlags := 74, slot := 7, constantValue := 0 }, { name := "notSupportedJnuEncoding", type := (.object "java/lang/String"), accessFlags := 10, slot := 8, constantValue := 0 }, { name := "cons", type := (.object "java/io/Console"), accessFlags := 74, slot := 9, constantValue := 0 }, { name := "initialErrStream", type := (.object "java/io/PrintStream"), accessFlags := 74, slot := 10, constantValue := 0 }, { name := "props", type := (.object "java/util/Properties"), accessFlags := 10, slot := 11, constantValue := 0 }, { name := "lineSeparator", type := (.object "java/lang/String"), accessFlags := 10, slot := 12, constantValue := 0 }, { name := "bootLayer", type := (.object "java/lang/ModuleLayer"), accessFlags := 8, slot := 13, constantValue := 0 }]
  methods := #[k5m0, k5m1]
  instanceTypes := #[]
  staticTypes := #[(.object "java/io/InputStream"), (.object "java/io/PrintStream"), (.object "java/io/PrintStream"), (.object "java/io/InputStream"), .int, .int, .int, (.object "java/lang/SecurityManager"), (.object "java/lang/String"), (.object "java/io/Console"), (.object "java/io/PrintStream"), (.object "java/util/Properties"), (.object "java/lang/String"), (.object "java/lang/ModuleLayer")]
  resolved := Array.replicate 834 none
  statics := none }

def pool6 : Array CpInfo := pool [(1, u "java/lang/Cloneable"), (0, .class_ 1), (0, u "java/lang/Object"), (0, .class_ 3)] 3

/-- java/lang/Cloneable -/
def k6 : Class := { plain "java/lang/Cloneable" (some 0) with
  accessFlags := 1537
  interfaces := #[]
  cf := some (fileOf pool6 2 #[] #[] 1537 4 #[] #[])
  fields := #[]
  methods := #[]
  instanceTypes := #[]
  staticTypes := #[]
  resolved := Array.replicate 8 none
  statics := none }

def pool7 : Array CpInfo := pool [(1, u "java/io/Serializable"), (0, .class_ 1), (0, u "java/lang/Object"), (0, .class_ 3)] 3

/-- java/io/Serializable -/
def k7 : Class := { plain "java/io/Serializable" (some 0) with
  accessFlags := 1537
  interfaces := #[]
  cf := some (fileOf pool7 2 #[] #[] 1537 4 #[] #[])
  fields := #[]
  methods := #[]
  instanceTypes := #[]
  staticTypes := #[]
  resolved := Array.replicate 8 none
  statics := none }

/-- the primitive byte -/
def k8 : Class := { plain "byte" none with kind := .primitive 'B', accessFlags := 0x411 }
/-- [B -/
def k9 : Class := { plain "[B" (some 0) with kind := .array 8 .byte, interfaces := #[6, 7], accessFlags := 1041 }

/-- the primitive int -/
def k10 : Class := { plain "int" none with kind := .primitive 'I', accessFlags := 0x411 }
/-- [I -/
def k11 : Class := { plain "[I" (some 0) with kind := .array 10 .int, interfaces := #[6, 7], accessFlags := 1041 }

def heap : Heap := #[]
def classes : Array Class := #[k0, k1, k2, k3, k4, k5, k6, k7, k8, k9, k10, k11]
def interned : List (Array UInt16 × Addr) := []
def slotsUsed : Nat := 0
def theMethod : MethodId := ⟨1, 1⟩
def args0 : Array Value := #[.int 3, .int 6, .int 2, .int 1, .int 2, .int 3]
def aboutOver (below : List Frame) : State where
  vm := { classes := classes, interned := interned.toArray }
  heap := heap
  slotsUsed := slotsUsed
  threads := #[{ frames := .invoking theMethod args0 :: below }]
def below0 : List Frame := [.native { method := ⟨0, 0⟩, args := #[] }]
def about1 : State := aboutOver below0
def p0 : Program := .bare "" "" ""
def e0 : Env := launch0.env 0 0 0
theorem w_frames : about1.frames = Frame.invoking theMethod args0 :: below0 := rfl
set_option maxRecDepth 65536 in
theorem w_args : argsFit about1.vm theMethod args0 = true := by decide +kernel
set_option maxRecDepth 65536 in
theorem w_heap : heapFits about1 = true := by decide +kernel
set_option maxRecDepth 65536 in
theorem w_runnable : about1.curStatus? = some .runnable := by decide +kernel
set_option maxRecDepth 65536 in
theorem w_alone : about1.alone = true := by decide +kernel
set_option maxRecDepth 65536 in
theorem w_named : about1.methodNamed? x = some theMethod := by decide +kernel
set_option maxRecDepth 65536 in
theorem w_hears : about1.hears theMethod below0 = true := by decide +kernel
set_option maxRecDepth 65536 in
theorem w_ripe : about1.ripe theMethod args0 below0 = true := by decide +kernel
theorem w_running : about1.status = .running := rfl
set_option maxRecDepth 65536 in
theorem w_room : about1.hasRoom e0.platform room_1 = true :=
  launch0.hasRoom_least _ room_1 (by decide +kernel) (by decide +kernel) (by decide +kernel) (by decide +kernel) (by decide +kernel) (by decide +kernel)
theorem allAtoms_all (ts : List Jvm.Cond) (a : Array Jvm.Value) (st : Jvm.State) : (allAtoms ts).before a st = ts.all (fun c => c.before a st) := by
  induction ts with
  | nil => rfl
  | cons c t ih =>
    show (Jvm.Cond.and c (allAtoms t)).before a st = _
    rw [Jvm.Cond.before_and, ih, List.all_cons]
def words1 : List Jvm.Cond := Jvm.Cond.code x code maxLocals ret :: tables_1
/-- a 'code' word, met by the world's own term for the bytes: nothing is compared byte by byte -/
theorem code_word {y : MethodName} {bytes : ByteArray} {mx : Nat} {rt : Option FieldType} {a : Array Value} {s : State} {m : MethodId} {meth : Method} {c : Code} (h1 : s.methodNamed? y = some m) (h2 : s.vm.method? m = some meth) (h3 : meth.code = some c) (h4 : c.code = bytes)
    (h5 : (c.maxLocals == mx && c.exceptionTable.isEmpty && decide (c.maxStack ≤ mostOperands) && decide (meth.sig.returnType = rt) && !meth.locks && decide (parseMethodDescriptor y.desc = some meth.sig)) = true) : (Jvm.Cond.code y bytes mx rt).before a s = true := by
  simp only [Bool.and_eq_true, beq_iff_eq, Bool.not_eq_true', decide_eq_true_eq] at h5
  obtain ⟨⟨⟨⟨⟨g1, g2⟩, g3⟩, g4⟩, g5⟩, g6⟩ := h5
  simp [Cond.before, Cond.holds, Cond.value, h1, h2, h3, h4, g1, g2, g3, g4, g5, g6]
def isCode : Jvm.Cond → Bool
  | .code _ _ _ _ => true
  | _ => false
theorem all_split {L : List Jvm.Cond} {P : Jvm.Cond → Bool} (h1 : L.all (fun c => isCode c || P c) = true) (h2 : ∀ c ∈ L.filter isCode, P c = true) : L.all P = true := by
  refine List.all_eq_true.mpr fun c hc => ?_
  have h := List.all_eq_true.mp h1 c hc
  rcases Bool.eq_false_or_eq_true (isCode c) with hi | hi
  · exact h2 c (List.mem_filter.mpr ⟨hc, hi⟩)
  · simpa [hi] using h
set_option maxRecDepth 65536 in
theorem w_c0 : (Jvm.Cond.code x code maxLocals ret).before args0 about1 = true := code_word (m := ⟨1, 1⟩) (meth := k1m1) (c := k1c1) (by decide +kernel) rfl rfl rfl (by decide +kernel)
set_option maxRecDepth 65536 in
theorem w_c1 : (Jvm.Cond.code ({ cls := "com/example/interleaving/interleaving/store/StateGraph", name := "<init>", desc := "()V" } : Jvm.MethodName) prog_103_method_1_code (1 : Nat) (Option.none : Option Jvm.ClassFile.FieldType)).before args0 about1 = true := code_word (m := ⟨2, 0⟩) (meth := k2m0) (c := k2c0) (by decide +kernel) rfl rfl rfl (by decide +kernel)
set_option maxRecDepth 65536 in
theorem w_c2 : (Jvm.Cond.code ({ cls := "java/lang/Object", name := "<init>", desc := "()V" } : Jvm.MethodName) object_method_1_code (1 : Nat) (Option.none : Option Jvm.ClassFile.FieldType)).before args0 about1 = true := code_word (m := ⟨0, 0⟩) (meth := k0m0) (c := k0c0) (by decide +kernel) rfl rfl rfl (by decide +kernel)
set_option maxRecDepth 65536 in
theorem w_c3 : (Jvm.Cond.code ({ cls := "com/example/interleaving/interleaving/store/StateGraph", name := "initialStates", desc := "()[I" } : Jvm.MethodName) prog_103_method_9_code (1 : Nat) (Option.some (Jvm.ClassFile.FieldType.array Jvm.ClassFile.FieldType.int))).before args0 about1 = true := code_word (m := ⟨2, 2⟩) (meth := k2m2) (c := k2c2) (by decide +kernel) rfl rfl rfl (by decide +kernel)
set_option maxRecDepth 65536 in
theorem w_c4 : (Jvm.Cond.code ({ cls := "java/util/Arrays", name := "copyOf", desc := "([II)[I" } : Jvm.MethodName) jdk_65_method_123_code (3 : Nat) (Option.some (Jvm.ClassFile.FieldType.array Jvm.ClassFile.FieldType.int))).before args0 about1 = true := code_word (m := ⟨3, 1⟩) (meth := k3m1) (c := k3c1) (by decide +kernel) rfl rfl rfl (by decide +kernel)
set_option maxRecDepth 65536 in
theorem w_c5 : (Jvm.Cond.code ({ cls := "java/lang/Math", name := "min", desc := "(II)I" } : Jvm.MethodName) jdk_29_method_69_code (2 : Nat) (Option.some Jvm.ClassFile.FieldType.int)).before args0 about1 = true := code_word (m := ⟨4, 1⟩) (meth := k4m1) (c := k4c1) (by decide +kernel) rfl rfl rfl (by decide +kernel)
set_option maxRecDepth 65536 in
theorem w_c6 : (Jvm.Cond.code ({ cls := "com/example/interleaving/interleaving/store/StateGraphInitialStatesPinLaw", name := "matches", desc := "([IIIIIII)Z" } : Jvm.MethodName) method_3_code (7 : Nat) (Option.some Jvm.ClassFile.FieldType.boolean)).before args0 about1 = true := code_word (m := ⟨1, 2⟩) (meth := k1m2) (c := k1c2) (by decide +kernel) rfl rfl rfl (by decide +kernel)
set_option maxRecDepth 65536 in
theorem w_c7 : (Jvm.Cond.code ({ cls := "com/example/interleaving/interleaving/store/StateGraph", name := "addInitial", desc := "(I)V" } : Jvm.MethodName) prog_103_method_2_code (2 : Nat) (Option.none : Option Jvm.ClassFile.FieldType)).before args0 about1 = true := code_word (m := ⟨2, 1⟩) (meth := k2m1) (c := k2c1) (by decide +kernel) rfl rfl rfl (by decide +kernel)
def codes1 : List Jvm.Cond := [Jvm.Cond.code x code maxLocals ret, Jvm.Cond.code ({ cls := "com/example/interleaving/interleaving/store/StateGraph", name := "<init>", desc := "()V" } : Jvm.MethodName) prog_103_method_1_code (1 : Nat) (Option.none : Option Jvm.ClassFile.FieldType), Jvm.Cond.code ({ cls := "java/lang/Object", name := "<init>", desc := "()V" } : Jvm.MethodName) object_method_1_code (1 : Nat) (Option.none : Option Jvm.ClassFile.FieldType), Jvm.Cond.code ({ cls := "com/example/interleaving/interleaving/store/StateGraph", name := "initialStates", desc := "()[I" } : Jvm.MethodName) prog_103_method_9_code (1 : Nat) (Option.some (Jvm.ClassFile.FieldType.array Jvm.ClassFile.FieldType.int)), Jvm.Cond.code ({ cls := "java/util/Arrays", name := "copyOf", desc := "([II)[I" } : Jvm.MethodName) jdk_65_method_123_code (3 : Nat) (Option.some (Jvm.ClassFile.FieldType.array Jvm.ClassFile.FieldType.int)), Jvm.Cond.code ({ cls := "java/lang/Math", name := "min", desc := "(II)I" } : Jvm.MethodName) jdk_29_method_69_code (2 : Nat) (Option.some Jvm.ClassFile.FieldType.int), Jvm.Cond.code ({ cls := "com/example/interleaving/interleaving/store/StateGraphInitialStatesPinLaw", name := "matches", desc := "([IIIIIII)Z" } : Jvm.MethodName) method_3_code (7 : Nat) (Option.some Jvm.ClassFile.FieldType.boolean), Jvm.Cond.code ({ cls := "com/example/interleaving/interleaving/store/StateGraph", name := "addInitial", desc := "(I)V" } : Jvm.MethodName) prog_103_method_2_code (2 : Nat) (Option.none : Option Jvm.ClassFile.FieldType)]
set_option maxRecDepth 65536 in
theorem codes_eq : words1.filter isCode = codes1 := rfl
theorem w_codes : ∀ c ∈ words1.filter isCode, c.before args0 about1 = true := by
  rw [codes_eq]
  intro c hc
  simp only [codes1, List.mem_cons, List.not_mem_nil, or_false] at hc
  rcases hc with rfl | rfl | rfl | rfl | rfl | rfl | rfl | rfl
  · exact w_c0
  · exact w_c1
  · exact w_c2
  · exact w_c3
  · exact w_c4
  · exact w_c5
  · exact w_c6
  · exact w_c7
set_option maxRecDepth 65536 in
theorem w_t1 : (words1.take 24).all (fun c => isCode c || c.before args0 about1) = true := by decide +kernel
set_option maxRecDepth 65536 in
theorem w_t2 : (words1.drop 24).all (fun c => isCode c || c.before args0 about1) = true := by decide +kernel
theorem w_tables : (allAtoms (Jvm.Cond.code x code maxLocals ret :: tables_1)).before args0 about1 = true := by
  rw [allAtoms_all]
  show words1.all (fun c => c.before args0 about1) = true
  refine all_split ?_ w_codes
  rw [← List.take_append_drop 24 words1, List.all_append, w_t1, w_t2]
  rfl
set_option maxRecDepth 65536 in
theorem w_case : (Jvm.Cond.and given_1 narrow_1).before args0 about1 = true := by decide +kernel
theorem w_applies : (headSpec (Jvm.Cond.code x code maxLocals ret :: tables_1) room_1).applies x e0.platform about1 = true :=
  (Spec.applies_iff w_frames).mpr ⟨w_running, w_runnable, w_alone, w_named, w_hears, w_ripe, w_room, w_tables⟩
theorem atStart : AtStart classFile x code maxLocals ret World_1 tables_1 room_1 Calls_1 rest_1 Pre_1 launch0 p0 e0 about1 theMethod args0 below0 :=
  ⟨lists_1, trivial, launch0.admits_env _ _ _, launch0.least_env, fairChoices_fair.cas, fairChoices_fair.clock, w_frames, w_args, w_heap, w_applies, trivial, trivial, w_case⟩
end start1
theorem witness_1 : WitnessClaimed_1 := ⟨start1.p0, start1.e0, start1.about1, start1.theMethod, start1.args0, start1.below0, start1.atStart⟩
end Jvm.Pilot.@@N@@
