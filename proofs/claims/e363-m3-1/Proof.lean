import JvmDerived
import JvmDerived.Pilot.@@N@@Statement
import JvmDerived.Pilot.@@N@@Code
set_option linter.unusedVariables false
set_option linter.unusedSimpArgs false
namespace Jvm.RoadKit
open Sem ClassFile Op Lib Jvm.Stand Jvm.Free Jvm.LawKit
section New
variable {p : Program} {l : Launch} {e : Env} {R : Room} {s : State} {m : MethodId} {args : Array Value} {below : List Frame} {meth : Method} {c : Code} {T : State} {locs : List Loc} {cells slots : Nat}
theorem retI (X : Stand p l e R s m args below meth c T locs cells slots) (hx : p.tables.exec = Jvm.exec) {pc : Nat} {Ls : Array Slot} {z : Int32} {rest : List Value} (hret : meth.sig.returnType = some .int) (hd : decode c.code pc = .ok (.ireturn, 1)) {fs : List Frame}
    (hl : ∀ (f : JFrame) (acts : List Action), f.method = m → f.locked = none → f.entered = [] → (doReturn e (T.setTop f) acts (some (.int z))).1 = T.setFrames fs) : Steps p.tables e below (T.setTop (mkF m pc Ls (.int z :: rest))) (T.setFrames fs) := by
  have hm' : T.vm.method? m = some meth := X.method'
  have hn : narrow .int (.int z) = .int z := rfl
  show Steps p.tables e below (T.setTop { method := m, pc := pc, locals := Ls, stack := _ :: rest, locked := none }) _
  jvm_step X.here [X.here.top, hx, hd, hm', hret, hn]
  first | (intro acts; rw [hl _ acts rfl rfl rfl]) | rw [hl _ _ rfl rfl rfl]
  exact Steps.refl _
end New
end Jvm.RoadKit
namespace Jvm.Pilot.@@N@@
open Jvm Jvm.ClassFile Sem Op Lib Jvm.Free Jvm.Stand Jvm.LawKit Jvm.RoadKit Bundle Jvm.Pilot.@@N@@.Jvm.D
theorem own_fldI {args : Array Value} {Z : State} {t : Term} {C n d : String} {k : Int32} {a : Addr} (ev : t.eval args Z none [] Z = some (.ref a)) (h : (Jvm.Cond.eq (Term.field t C n d) (Term.int k)).value args Z none Z [] = some true) : Fld Z Z.heap a C n d (.int k) := by
  obtain ⟨x, y, e1, e2, k1, k2⟩ := cmp_v (Or.inl h)
  cases (Option.some.inj e2 : Value.int k = y)
  obtain ⟨z, rfl⟩ := k2
  have q : z = k := by simpa [Jvm.Cond.value, e1, e2] using h
  subst q
  exact Fld.start (by rw [← fld_at ev]; exact e1)
theorem own_fldN {args : Array Value} {Z : State} {t : Term} {C n d : String} {a : Addr} (ev : t.eval args Z none [] Z = some (.ref a)) (h : (Jvm.Cond.eq (Term.field t C n d) Term.null).value args Z none Z [] = some true) : Fld Z Z.heap a C n d .null := Fld.start (by rw [← fld_at ev]; exact null_v h)
theorem own_fldR {args : Array Value} {Z : State} {t : Term} {C n d K : String} {a : Addr} (ev : t.eval args Z none [] Z = some (.ref a)) (h : (Jvm.Cond.exactly (Term.field t C n d) K).value args Z none Z [] = some true) : ∃ b, Fld Z Z.heap a C n d (.ref b) := by
  obtain ⟨b, e⟩ := exa_v h
  exact ⟨b, Fld.start (by rw [← fld_at ev]; exact e)⟩
theorem own_neR {args : Array Value} {Z : State} {t u : Term} {a b : Addr} (e1 : t.eval args Z none [] Z = some (.ref a)) (e2 : u.eval args Z none [] Z = some (.ref b)) (h : (Jvm.Cond.not (Jvm.Cond.eq t u)).value args Z none Z [] = some true) : a ≠ b := fun q => gotF (eq_R e1 e2 rfl rfl) (not_v h) (by rw [q])
theorem own_fldE {args : Array Value} {Z : State} {t u : Term} {C n d : String} {a b : Addr} (ev : t.eval args Z none [] Z = some (.ref a)) (h : (Jvm.Cond.eq (Term.field t C n d) u).value args Z none Z [] = some true) (eu : u.eval args Z none [] Z = some (.ref b)) : ∃ b, Fld Z Z.heap a C n d (.ref b) := by
  obtain ⟨x, y, e1, e2, k1, k2⟩ := cmp_v (Or.inl h)
  cases (Option.some.inj (e2.symm.trans eu) : y = .ref b)
  have hr : x.isRef = true := k2.2
  have q : x = .ref b := gotT (eq_R e1 e2 hr rfl) h
  subst q
  exact ⟨b, Fld.start (by rw [← fld_at ev]; exact e1)⟩
def own_g (a0 a1 a2 a3 a4 a5 a6 a7 a8 a9 a10 a11 a12 a13 a14 a15 a16 a17 : Addr) : Nat → Addr
  | 0 => a0
  | 1 => a1
  | 2 => a2
  | 3 => a3
  | 4 => a4
  | 5 => a5
  | 6 => a6
  | 7 => a7
  | 8 => a8
  | 9 => a9
  | 10 => a10
  | 11 => a11
  | 12 => a12
  | 13 => a13
  | 14 => a14
  | 15 => a15
  | 16 => a16
  | _ => a17
def own_ix (p : Int32) : Nat := (if p = 0 then 0 else (if p = 1 then 1 else (if p = 2 then 2 else (if p = 3 then 3 else (if p = 4 then 4 else (if p = 5 then 5 else (if p = 6 then 6 else (if p = 7 then 7 else (if p = 8 then 8 else (if p = 9 then 9 else (if p = 10 then 10 else (if p = 11 then 11 else (if p = 12 then 12 else (if p = 13 then 13 else (if p = 14 then 14 else (if p = 15 then 15 else (if p = 16 then 16 else 17)))))))))))))))))
theorem own_ixs : ∀ n : Fin 18, own_ix (Int32.ofNat n.1) = n.1 := by decide +kernel
theorem own_ixv (k : Int32) (h0 : 0 ≤ k.toInt) (h1 : k.toInt < 18) : own_ix k = k.toInt.toNat := by
  have e : Int32.ofNat k.toInt.toNat = k := by
    apply Int32.toInt_inj.mp
    rw [Int32.toInt_ofNat_of_lt (by omega)]
    omega
  have := own_ixs ⟨k.toInt.toNat, by omega⟩
  rw [e] at this; exact this
theorem own_kr (x : Int32) : 0 ≤ ((x &&& (2147483647 : Int32)) % (18 : Int32)).toInt ∧ ((x &&& (2147483647 : Int32)) % (18 : Int32)).toInt < 18 := by
  have q := (c_and x 2147483647 (by decide)).1
  have r := (c_irem (x &&& 2147483647) 18 18 rfl).1 q
  rw [r]; omega
theorem own_lo {k : Int32} (h0 : 0 ≤ k.toInt) (h1 : k.toInt < 18) (h : k < 4) : ¬ (4 ≤ own_ix k ∧ own_ix k ≤ 11) := by
  rw [own_ixv k h0 h1]; rw [Int32.lt_iff_toInt_lt] at h; have : (4 : Int32).toInt = 4 := rfl; omega
theorem own_hi {k : Int32} (h0 : 0 ≤ k.toInt) (h1 : k.toInt < 18) (h : 11 < k) : ¬ (4 ≤ own_ix k ∧ own_ix k ≤ 11) := by
  rw [own_ixv k h0 h1]; rw [Int32.lt_iff_toInt_lt] at h; have : (11 : Int32).toInt = 11 := rfl; omega
theorem own_mid {k : Int32} (h0 : 0 ≤ k.toInt) (h1 : k.toInt < 18) (h : ¬ k < 4) (h' : ¬ 11 < k) : 4 ≤ own_ix k ∧ own_ix k ≤ 11 := by
  rw [own_ixv k h0 h1]; rw [Int32.lt_iff_toInt_lt] at h h'; have : (11 : Int32).toInt = 11 := rfl; have : (4 : Int32).toInt = 4 := rfl; omega
theorem own_d_method_2_0 : decode method_2_code 0 = .ok (.iload_n 0, 1) := by decide +kernel
theorem own_d_method_2_1 : decode method_2_code 1 = .ok (.ifCond .ne 7, 3) := by decide +kernel
theorem own_d_method_2_4 : decode method_2_code 4 = .ok (.getstatic 7, 3) := by decide +kernel
theorem own_d_method_2_7 : decode method_2_code 7 = .ok (.areturn, 1) := by decide +kernel
theorem own_d_method_2_8 : decode method_2_code 8 = .ok (.iload_n 0, 1) := by decide +kernel
theorem own_d_method_2_9 : decode method_2_code 9 = .ok (.iconst 1, 1) := by decide +kernel
theorem own_d_method_2_10 : decode method_2_code 10 = .ok (.if_icmp .ne 7, 3) := by decide +kernel
theorem own_d_method_2_13 : decode method_2_code 13 = .ok (.getstatic 13, 3) := by decide +kernel
theorem own_d_method_2_16 : decode method_2_code 16 = .ok (.areturn, 1) := by decide +kernel
theorem own_d_method_2_17 : decode method_2_code 17 = .ok (.iload_n 0, 1) := by decide +kernel
theorem own_d_method_2_18 : decode method_2_code 18 = .ok (.iconst 2, 1) := by decide +kernel
theorem own_d_method_2_19 : decode method_2_code 19 = .ok (.if_icmp .ne 7, 3) := by decide +kernel
theorem own_d_method_2_22 : decode method_2_code 22 = .ok (.getstatic 16, 3) := by decide +kernel
theorem own_d_method_2_25 : decode method_2_code 25 = .ok (.areturn, 1) := by decide +kernel
theorem own_d_method_2_26 : decode method_2_code 26 = .ok (.iload_n 0, 1) := by decide +kernel
theorem own_d_method_2_27 : decode method_2_code 27 = .ok (.iconst 3, 1) := by decide +kernel
theorem own_d_method_2_28 : decode method_2_code 28 = .ok (.if_icmp .ne 7, 3) := by decide +kernel
theorem own_d_method_2_31 : decode method_2_code 31 = .ok (.getstatic 19, 3) := by decide +kernel
theorem own_d_method_2_34 : decode method_2_code 34 = .ok (.areturn, 1) := by decide +kernel
theorem own_d_method_2_35 : decode method_2_code 35 = .ok (.iload_n 0, 1) := by decide +kernel
theorem own_d_method_2_36 : decode method_2_code 36 = .ok (.iconst 4, 1) := by decide +kernel
theorem own_d_method_2_37 : decode method_2_code 37 = .ok (.if_icmp .ne 7, 3) := by decide +kernel
theorem own_d_method_2_40 : decode method_2_code 40 = .ok (.getstatic 22, 3) := by decide +kernel
theorem own_d_method_2_43 : decode method_2_code 43 = .ok (.areturn, 1) := by decide +kernel
theorem own_d_method_2_44 : decode method_2_code 44 = .ok (.iload_n 0, 1) := by decide +kernel
theorem own_d_method_2_45 : decode method_2_code 45 = .ok (.iconst 5, 1) := by decide +kernel
theorem own_d_method_2_46 : decode method_2_code 46 = .ok (.if_icmp .ne 7, 3) := by decide +kernel
theorem own_d_method_2_49 : decode method_2_code 49 = .ok (.getstatic 25, 3) := by decide +kernel
theorem own_d_method_2_52 : decode method_2_code 52 = .ok (.areturn, 1) := by decide +kernel
theorem own_d_method_2_53 : decode method_2_code 53 = .ok (.iload_n 0, 1) := by decide +kernel
theorem own_d_method_2_54 : decode method_2_code 54 = .ok (.bipush 6, 2) := by decide +kernel
theorem own_d_method_2_56 : decode method_2_code 56 = .ok (.if_icmp .ne 7, 3) := by decide +kernel
theorem own_d_method_2_59 : decode method_2_code 59 = .ok (.getstatic 28, 3) := by decide +kernel
theorem own_d_method_2_62 : decode method_2_code 62 = .ok (.areturn, 1) := by decide +kernel
theorem own_d_method_2_63 : decode method_2_code 63 = .ok (.iload_n 0, 1) := by decide +kernel
theorem own_d_method_2_64 : decode method_2_code 64 = .ok (.bipush 7, 2) := by decide +kernel
theorem own_d_method_2_66 : decode method_2_code 66 = .ok (.if_icmp .ne 7, 3) := by decide +kernel
theorem own_d_method_2_69 : decode method_2_code 69 = .ok (.getstatic 31, 3) := by decide +kernel
theorem own_d_method_2_72 : decode method_2_code 72 = .ok (.areturn, 1) := by decide +kernel
theorem own_d_method_2_73 : decode method_2_code 73 = .ok (.iload_n 0, 1) := by decide +kernel
theorem own_d_method_2_74 : decode method_2_code 74 = .ok (.bipush 8, 2) := by decide +kernel
theorem own_d_method_2_76 : decode method_2_code 76 = .ok (.if_icmp .ne 7, 3) := by decide +kernel
theorem own_d_method_2_79 : decode method_2_code 79 = .ok (.getstatic 34, 3) := by decide +kernel
theorem own_d_method_2_82 : decode method_2_code 82 = .ok (.areturn, 1) := by decide +kernel
theorem own_d_method_2_83 : decode method_2_code 83 = .ok (.iload_n 0, 1) := by decide +kernel
theorem own_d_method_2_84 : decode method_2_code 84 = .ok (.bipush 9, 2) := by decide +kernel
theorem own_d_method_2_86 : decode method_2_code 86 = .ok (.if_icmp .ne 7, 3) := by decide +kernel
theorem own_d_method_2_89 : decode method_2_code 89 = .ok (.getstatic 37, 3) := by decide +kernel
theorem own_d_method_2_92 : decode method_2_code 92 = .ok (.areturn, 1) := by decide +kernel
theorem own_d_method_2_93 : decode method_2_code 93 = .ok (.iload_n 0, 1) := by decide +kernel
theorem own_d_method_2_94 : decode method_2_code 94 = .ok (.bipush 10, 2) := by decide +kernel
theorem own_d_method_2_96 : decode method_2_code 96 = .ok (.if_icmp .ne 7, 3) := by decide +kernel
theorem own_d_method_2_99 : decode method_2_code 99 = .ok (.getstatic 40, 3) := by decide +kernel
theorem own_d_method_2_102 : decode method_2_code 102 = .ok (.areturn, 1) := by decide +kernel
theorem own_d_method_2_103 : decode method_2_code 103 = .ok (.iload_n 0, 1) := by decide +kernel
theorem own_d_method_2_104 : decode method_2_code 104 = .ok (.bipush 11, 2) := by decide +kernel
theorem own_d_method_2_106 : decode method_2_code 106 = .ok (.if_icmp .ne 7, 3) := by decide +kernel
theorem own_d_method_2_109 : decode method_2_code 109 = .ok (.getstatic 43, 3) := by decide +kernel
theorem own_d_method_2_112 : decode method_2_code 112 = .ok (.areturn, 1) := by decide +kernel
theorem own_d_method_2_113 : decode method_2_code 113 = .ok (.iload_n 0, 1) := by decide +kernel
theorem own_d_method_2_114 : decode method_2_code 114 = .ok (.bipush 12, 2) := by decide +kernel
theorem own_d_method_2_116 : decode method_2_code 116 = .ok (.if_icmp .ne 7, 3) := by decide +kernel
theorem own_d_method_2_119 : decode method_2_code 119 = .ok (.getstatic 46, 3) := by decide +kernel
theorem own_d_method_2_122 : decode method_2_code 122 = .ok (.areturn, 1) := by decide +kernel
theorem own_d_method_2_123 : decode method_2_code 123 = .ok (.iload_n 0, 1) := by decide +kernel
theorem own_d_method_2_124 : decode method_2_code 124 = .ok (.bipush 13, 2) := by decide +kernel
theorem own_d_method_2_126 : decode method_2_code 126 = .ok (.if_icmp .ne 7, 3) := by decide +kernel
theorem own_d_method_2_129 : decode method_2_code 129 = .ok (.getstatic 49, 3) := by decide +kernel
theorem own_d_method_2_132 : decode method_2_code 132 = .ok (.areturn, 1) := by decide +kernel
theorem own_d_method_2_133 : decode method_2_code 133 = .ok (.iload_n 0, 1) := by decide +kernel
theorem own_d_method_2_134 : decode method_2_code 134 = .ok (.bipush 14, 2) := by decide +kernel
theorem own_d_method_2_136 : decode method_2_code 136 = .ok (.if_icmp .ne 7, 3) := by decide +kernel
theorem own_d_method_2_139 : decode method_2_code 139 = .ok (.getstatic 52, 3) := by decide +kernel
theorem own_d_method_2_142 : decode method_2_code 142 = .ok (.areturn, 1) := by decide +kernel
theorem own_d_method_2_143 : decode method_2_code 143 = .ok (.iload_n 0, 1) := by decide +kernel
theorem own_d_method_2_144 : decode method_2_code 144 = .ok (.bipush 15, 2) := by decide +kernel
theorem own_d_method_2_146 : decode method_2_code 146 = .ok (.if_icmp .ne 7, 3) := by decide +kernel
theorem own_d_method_2_149 : decode method_2_code 149 = .ok (.getstatic 55, 3) := by decide +kernel
theorem own_d_method_2_152 : decode method_2_code 152 = .ok (.areturn, 1) := by decide +kernel
theorem own_d_method_2_153 : decode method_2_code 153 = .ok (.iload_n 0, 1) := by decide +kernel
theorem own_d_method_2_154 : decode method_2_code 154 = .ok (.bipush 16, 2) := by decide +kernel
theorem own_d_method_2_156 : decode method_2_code 156 = .ok (.if_icmp .ne 7, 3) := by decide +kernel
theorem own_d_method_2_159 : decode method_2_code 159 = .ok (.getstatic 58, 3) := by decide +kernel
theorem own_d_method_2_162 : decode method_2_code 162 = .ok (.areturn, 1) := by decide +kernel
theorem own_d_method_2_163 : decode method_2_code 163 = .ok (.getstatic 61, 3) := by decide +kernel
theorem own_d_method_2_166 : decode method_2_code 166 = .ok (.areturn, 1) := by decide +kernel
theorem own_pn0 : plainName "com/example/idlwright/idlwright/model/BaseKindIsIntegerPinLaw" = true := by first | (simp [plainName, overriddenIn]; done) | decide +kernel
theorem own_ef_kind (m : MethodId) (p1 : Int32) : entryFrame m #[(.int p1)] 1 = mkF m 0 #[.val (.int p1)] [] := by first | (simp [entryFrame, mkF, argsToLocals, Value.category]; done) | rfl
def own_Q_kind (Z : State) (p1 : Int32) (g : Nat → Addr) (h0 : Heap) (n0 : Nat) (v : Option Value) (h : Heap) (L : List Loc) : Prop := v = some (.ref (g (own_ix p1))) ∧ Fr n0 L ∧ h = h0
set_option maxRecDepth 65536 in
set_option maxHeartbeats 40000000 in
theorem own_rm_kind (l : Launch) (Z : State) (a0 : Array Value) (hw : ∀ d ∈ tables_1, d.before a0 Z = true) (ws : List Jvm.Cond) (p1 : Int32) (g : Nat → Addr) (h0 : Heap) (n0 : Nat) (Z0 : n0 ≤ h0.size) (S0 : Sta Z h0 "com/example/idlwright/idlwright/model/BaseKind" "NIL" "Lcom/example/idlwright/idlwright/model/BaseKind;" (.ref (g 0))) (S1 : Sta Z h0 "com/example/idlwright/idlwright/model/BaseKind" "BOOL" "Lcom/example/idlwright/idlwright/model/BaseKind;" (.ref (g 1))) (S2 : Sta Z h0 "com/example/idlwright/idlwright/model/BaseKind" "CHAR" "Lcom/example/idlwright/idlwright/model/BaseKind;" (.ref (g 2))) (S3 : Sta Z h0 "com/example/idlwright/idlwright/model/BaseKind" "WCHAR" "Lcom/example/idlwright/idlwright/model/BaseKind;" (.ref (g 3))) (S4 : Sta Z h0 "com/example/idlwright/idlwright/model/BaseKind" "I8" "Lcom/example/idlwright/idlwright/model/BaseKind;" (.ref (g 4))) (S5 : Sta Z h0 "com/example/idlwright/idlwright/model/BaseKind" "U8" "Lcom/example/idlwright/idlwright/model/BaseKind;" (.ref (g 5))) (S6 : Sta Z h0 "com/example/idlwright/idlwright/model/BaseKind" "I16" "Lcom/example/idlwright/idlwright/model/BaseKind;" (.ref (g 6))) (S7 : Sta Z h0 "com/example/idlwright/idlwright/model/BaseKind" "U16" "Lcom/example/idlwright/idlwright/model/BaseKind;" (.ref (g 7))) (S8 : Sta Z h0 "com/example/idlwright/idlwright/model/BaseKind" "I32" "Lcom/example/idlwright/idlwright/model/BaseKind;" (.ref (g 8))) (S9 : Sta Z h0 "com/example/idlwright/idlwright/model/BaseKind" "U32" "Lcom/example/idlwright/idlwright/model/BaseKind;" (.ref (g 9))) (S10 : Sta Z h0 "com/example/idlwright/idlwright/model/BaseKind" "I64" "Lcom/example/idlwright/idlwright/model/BaseKind;" (.ref (g 10))) (S11 : Sta Z h0 "com/example/idlwright/idlwright/model/BaseKind" "U64" "Lcom/example/idlwright/idlwright/model/BaseKind;" (.ref (g 11))) (S12 : Sta Z h0 "com/example/idlwright/idlwright/model/BaseKind" "F32" "Lcom/example/idlwright/idlwright/model/BaseKind;" (.ref (g 12))) (S13 : Sta Z h0 "com/example/idlwright/idlwright/model/BaseKind" "F64" "Lcom/example/idlwright/idlwright/model/BaseKind;" (.ref (g 13))) (S14 : Sta Z h0 "com/example/idlwright/idlwright/model/BaseKind" "F128" "Lcom/example/idlwright/idlwright/model/BaseKind;" (.ref (g 14))) (S15 : Sta Z h0 "com/example/idlwright/idlwright/model/BaseKind" "STRING" "Lcom/example/idlwright/idlwright/model/BaseKind;" (.ref (g 15))) (S16 : Sta Z h0 "com/example/idlwright/idlwright/model/BaseKind" "WSTRING" "Lcom/example/idlwright/idlwright/model/BaseKind;" (.ref (g 16))) (S17 : Sta Z h0 "com/example/idlwright/idlwright/model/BaseKind" "BINARY" "Lcom/example/idlwright/idlwright/model/BaseKind;" (.ref (g 17))) :
    MetFree l (⟨"com/example/idlwright/idlwright/model/BaseKindIsIntegerPinLaw", "kindOf", "(I)Lcom/example/idlwright/idlwright/model/BaseKind;"⟩ : MethodName) (head1 (Jvm.Cond.code (⟨"com/example/idlwright/idlwright/model/BaseKindIsIntegerPinLaw", "kindOf", "(I)Lcom/example/idlwright/idlwright/model/BaseKind;"⟩ : MethodName) method_2_code 1 (some (.object "com/example/idlwright/idlwright/model/BaseKind")) :: ws) ({ frames := 0, cells := 0, slots := 0, locals := 0 } : Room)) (fun a U => a = #[(.int p1)] ∧ Z.Warmed39 U.vm ∧ U.heap = h0) (fun _ _ _ _ _ => True) (fun _ U o U' => ∃ v L, o = .returned v ∧ own_Q_kind Z p1 g h0 n0 v U'.heap L ∧ FrameEnd U o U' L ({ frames := 0, cells := 0, slots := 0, locals := 0 } : Room).cells ({ frames := 0, cells := 0, slots := 0, locals := 0 } : Room).slots) := by
  refine MetFree.of_bodySF (plainFor_of_name own_pn0) hisR ?_
  intro p e s m args below meth c s₁ Bd hml0 hP hK
  obtain ⟨rfl, hZ, hh⟩ := hP
  have hx := Bd.exec
  have hby := Bd.bytes
  have hml : c.maxLocals = 1 := hml0
  have hown : s.vm.findClass "com/example/idlwright/idlwright/model/BaseKindIsIntegerPinLaw" = some m.cls := findClass_of_methodNamed Bd.named
  have hnm := (name_of_methodNamed Bd.named Bd.method).1
  have X0 : Stand p l e ({ frames := 0, cells := 0, slots := 0, locals := 0 } : Room) s m #[(.int p1)] below meth c s₁ [] 0 0 := Stand.of_body Bd
  have e0 : s₁.heap = h0 := by rw [← hh, Bd.state]; rfl
  have N0 := Fr.nil n0
  have K0 : Keep h0 h0 [] := Keep.refl _ _
  have pre0 : ∀ t, Steps p.tables e below (s₁.setTop (mkF m 0 #[.val (.int p1)] [])) t → Steps p.tables e below (s₁.setTop (entryFrame m #[(.int p1)] 1)) t := fun t k => castTop (own_ef_kind m p1) k
  have pre1 : ∀ t, Steps p.tables e below (s₁.setTop (mkF m 1 #[.val (.int p1)] [(.int p1)])) t → Steps p.tables e below (s₁.setTop (entryFrame m #[(.int p1)] 1)) t := by
    intro t kt
    refine pre0 t ?_
    show Steps p.tables e below (s₁.setTop (mkF m 0 #[.val (.int p1)] [])) _
    refine XS.iloadN X0.here hx rfl (hb hby own_d_method_2_0) rfl ?_
    exact kt
  by_cases hc2 : p1 = (0 : Int32)
  · obtain ⟨T3, X3, e3, st3⟩ := getS2 X0 hx hZ hown (host := "") (Or.inl (hw _ (List.mem_of_getElem? (i := 5) rfl))) Via.refl e0 S0 (g := (mkF m 4 #[.val (.int p1)] [])) rfl (hb hby own_d_method_2_4)
    have pre4 : ∀ t, Steps p.tables e below (T3.setTop (mkF m 7 #[.val (.int p1)] [(.ref (g 0))])) t → Steps p.tables e below (s₁.setTop (entryFrame m #[(.int p1)] 1)) t := by
      intro t kt
      refine pre1 t ?_
      show Steps p.tables e below (s₁.setTop (mkF m 1 #[.val (.int p1)] [(.int p1)])) _
      refine XS.ifNo X0.here hx rfl (hb hby own_d_method_2_1) rfl ((if0 _ _).trans (teq hc2).2) ?_
      show Steps p.tables e below (s₁.setTop (mkF m 4 #[.val (.int p1)] [])) _
      refine st3 _ ?_
      exact kt
    obtain ⟨fs, hr, hrun, hended, hW, hsame⟩ := X3.leave (v := some (.ref (g 0))) (fun h => by rw [Bd.returns] at h; cases h)
    refine ⟨_, _, pre4 _ ?_, hrun, hended, _, _, rfl, ?_, ⟨_, rfl⟩, hW, hsame.mono (by decide) (by decide)⟩
    · show Steps p.tables e below (T3.setTop (mkF m 7 #[.val (.int p1)] [(.ref (g 0))])) _
      jvm_step X3.here [X3.here.top, hx, (hb hby own_d_method_2_7), X3.method', Bd.returns, Value.isRef, FieldType.isReference]
      first | (intro acts; rw [hr _ acts rfl rfl rfl]) | rw [hr _ _ rfl rfl rfl]
      exact Steps.refl _
    · show own_Q_kind Z p1 g h0 n0 (some (.ref (g 0))) T3.heap _
      rw [e3]
      exact ⟨by simp [own_ix, hc2], N0, rfl⟩
  · have pre5 : ∀ t, Steps p.tables e below (s₁.setTop (mkF m 10 #[.val (.int p1)] [(.int (1 : Int32)), (.int p1)])) t → Steps p.tables e below (s₁.setTop (entryFrame m #[(.int p1)] 1)) t := by
      intro t kt
      refine pre1 t ?_
      show Steps p.tables e below (s₁.setTop (mkF m 1 #[.val (.int p1)] [(.int p1)])) _
      refine XS.ifYes X0.here hx rfl (pc0 := 1) (pc' := 8) rfl (hb hby own_d_method_2_1) rfl ((if0 _ _).trans (feq hc2).2) (by decide) (by decide) ?_
      show Steps p.tables e below (s₁.setTop (mkF m 8 #[.val (.int p1)] [])) _
      refine XS.iloadN X0.here hx rfl (hb hby own_d_method_2_8) rfl ?_
      show Steps p.tables e below (s₁.setTop (mkF m 9 #[.val (.int p1)] [(.int p1)])) _
      refine XS.iconst X0.here hx rfl (hb hby own_d_method_2_9) ?_
      exact kt
    by_cases hc6 : p1 = (1 : Int32)
    · obtain ⟨T7, X7, e7, st7⟩ := getS2 X0 hx hZ hown (host := "") (Or.inl (hw _ (List.mem_of_getElem? (i := 19) rfl))) Via.refl e0 S1 (g := (mkF m 13 #[.val (.int p1)] [])) rfl (hb hby own_d_method_2_13)
      have pre8 : ∀ t, Steps p.tables e below (T7.setTop (mkF m 16 #[.val (.int p1)] [(.ref (g 1))])) t → Steps p.tables e below (s₁.setTop (entryFrame m #[(.int p1)] 1)) t := by
        intro t kt
        refine pre5 t ?_
        show Steps p.tables e below (s₁.setTop (mkF m 10 #[.val (.int p1)] [(.int (1 : Int32)), (.int p1)])) _
        refine XS.icmpNo X0.here hx rfl (hb hby own_d_method_2_10) rfl (teq hc6).2 ?_
        show Steps p.tables e below (s₁.setTop (mkF m 13 #[.val (.int p1)] [])) _
        refine st7 _ ?_
        exact kt
      obtain ⟨fs, hr, hrun, hended, hW, hsame⟩ := X7.leave (v := some (.ref (g 1))) (fun h => by rw [Bd.returns] at h; cases h)
      refine ⟨_, _, pre8 _ ?_, hrun, hended, _, _, rfl, ?_, ⟨_, rfl⟩, hW, hsame.mono (by decide) (by decide)⟩
      · show Steps p.tables e below (T7.setTop (mkF m 16 #[.val (.int p1)] [(.ref (g 1))])) _
        jvm_step X7.here [X7.here.top, hx, (hb hby own_d_method_2_16), X7.method', Bd.returns, Value.isRef, FieldType.isReference]
        first | (intro acts; rw [hr _ acts rfl rfl rfl]) | rw [hr _ _ rfl rfl rfl]
        exact Steps.refl _
      · show own_Q_kind Z p1 g h0 n0 (some (.ref (g 1))) T7.heap _
        rw [e7]
        exact ⟨by simp [own_ix, hc2, hc6], N0, rfl⟩
    · have pre9 : ∀ t, Steps p.tables e below (s₁.setTop (mkF m 19 #[.val (.int p1)] [(.int (2 : Int32)), (.int p1)])) t → Steps p.tables e below (s₁.setTop (entryFrame m #[(.int p1)] 1)) t := by
        intro t kt
        refine pre5 t ?_
        show Steps p.tables e below (s₁.setTop (mkF m 10 #[.val (.int p1)] [(.int (1 : Int32)), (.int p1)])) _
        refine XS.icmpYes X0.here hx rfl (pc0 := 10) (pc' := 17) rfl (hb hby own_d_method_2_10) rfl (feq hc6).2 (by decide) (by decide) ?_
        show Steps p.tables e below (s₁.setTop (mkF m 17 #[.val (.int p1)] [])) _
        refine XS.iloadN X0.here hx rfl (hb hby own_d_method_2_17) rfl ?_
        show Steps p.tables e below (s₁.setTop (mkF m 18 #[.val (.int p1)] [(.int p1)])) _
        refine XS.iconst X0.here hx rfl (hb hby own_d_method_2_18) ?_
        exact kt
      by_cases hc10 : p1 = (2 : Int32)
      · obtain ⟨T11, X11, e11, st11⟩ := getS2 X0 hx hZ hown (host := "") (Or.inl (hw _ (List.mem_of_getElem? (i := 17) rfl))) Via.refl e0 S2 (g := (mkF m 22 #[.val (.int p1)] [])) rfl (hb hby own_d_method_2_22)
        have pre12 : ∀ t, Steps p.tables e below (T11.setTop (mkF m 25 #[.val (.int p1)] [(.ref (g 2))])) t → Steps p.tables e below (s₁.setTop (entryFrame m #[(.int p1)] 1)) t := by
          intro t kt
          refine pre9 t ?_
          show Steps p.tables e below (s₁.setTop (mkF m 19 #[.val (.int p1)] [(.int (2 : Int32)), (.int p1)])) _
          refine XS.icmpNo X0.here hx rfl (hb hby own_d_method_2_19) rfl (teq hc10).2 ?_
          show Steps p.tables e below (s₁.setTop (mkF m 22 #[.val (.int p1)] [])) _
          refine st11 _ ?_
          exact kt
        obtain ⟨fs, hr, hrun, hended, hW, hsame⟩ := X11.leave (v := some (.ref (g 2))) (fun h => by rw [Bd.returns] at h; cases h)
        refine ⟨_, _, pre12 _ ?_, hrun, hended, _, _, rfl, ?_, ⟨_, rfl⟩, hW, hsame.mono (by decide) (by decide)⟩
        · show Steps p.tables e below (T11.setTop (mkF m 25 #[.val (.int p1)] [(.ref (g 2))])) _
          jvm_step X11.here [X11.here.top, hx, (hb hby own_d_method_2_25), X11.method', Bd.returns, Value.isRef, FieldType.isReference]
          first | (intro acts; rw [hr _ acts rfl rfl rfl]) | rw [hr _ _ rfl rfl rfl]
          exact Steps.refl _
        · show own_Q_kind Z p1 g h0 n0 (some (.ref (g 2))) T11.heap _
          rw [e11]
          exact ⟨by simp [own_ix, hc2, hc6, hc10], N0, rfl⟩
      · have pre13 : ∀ t, Steps p.tables e below (s₁.setTop (mkF m 28 #[.val (.int p1)] [(.int (3 : Int32)), (.int p1)])) t → Steps p.tables e below (s₁.setTop (entryFrame m #[(.int p1)] 1)) t := by
          intro t kt
          refine pre9 t ?_
          show Steps p.tables e below (s₁.setTop (mkF m 19 #[.val (.int p1)] [(.int (2 : Int32)), (.int p1)])) _
          refine XS.icmpYes X0.here hx rfl (pc0 := 19) (pc' := 26) rfl (hb hby own_d_method_2_19) rfl (feq hc10).2 (by decide) (by decide) ?_
          show Steps p.tables e below (s₁.setTop (mkF m 26 #[.val (.int p1)] [])) _
          refine XS.iloadN X0.here hx rfl (hb hby own_d_method_2_26) rfl ?_
          show Steps p.tables e below (s₁.setTop (mkF m 27 #[.val (.int p1)] [(.int p1)])) _
          refine XS.iconst X0.here hx rfl (hb hby own_d_method_2_27) ?_
          exact kt
        by_cases hc14 : p1 = (3 : Int32)
        · obtain ⟨T15, X15, e15, st15⟩ := getS2 X0 hx hZ hown (host := "") (Or.inl (hw _ (List.mem_of_getElem? (i := 15) rfl))) Via.refl e0 S3 (g := (mkF m 31 #[.val (.int p1)] [])) rfl (hb hby own_d_method_2_31)
          have pre16 : ∀ t, Steps p.tables e below (T15.setTop (mkF m 34 #[.val (.int p1)] [(.ref (g 3))])) t → Steps p.tables e below (s₁.setTop (entryFrame m #[(.int p1)] 1)) t := by
            intro t kt
            refine pre13 t ?_
            show Steps p.tables e below (s₁.setTop (mkF m 28 #[.val (.int p1)] [(.int (3 : Int32)), (.int p1)])) _
            refine XS.icmpNo X0.here hx rfl (hb hby own_d_method_2_28) rfl (teq hc14).2 ?_
            show Steps p.tables e below (s₁.setTop (mkF m 31 #[.val (.int p1)] [])) _
            refine st15 _ ?_
            exact kt
          obtain ⟨fs, hr, hrun, hended, hW, hsame⟩ := X15.leave (v := some (.ref (g 3))) (fun h => by rw [Bd.returns] at h; cases h)
          refine ⟨_, _, pre16 _ ?_, hrun, hended, _, _, rfl, ?_, ⟨_, rfl⟩, hW, hsame.mono (by decide) (by decide)⟩
          · show Steps p.tables e below (T15.setTop (mkF m 34 #[.val (.int p1)] [(.ref (g 3))])) _
            jvm_step X15.here [X15.here.top, hx, (hb hby own_d_method_2_34), X15.method', Bd.returns, Value.isRef, FieldType.isReference]
            first | (intro acts; rw [hr _ acts rfl rfl rfl]) | rw [hr _ _ rfl rfl rfl]
            exact Steps.refl _
          · show own_Q_kind Z p1 g h0 n0 (some (.ref (g 3))) T15.heap _
            rw [e15]
            exact ⟨by simp [own_ix, hc2, hc6, hc10, hc14], N0, rfl⟩
        · have pre17 : ∀ t, Steps p.tables e below (s₁.setTop (mkF m 37 #[.val (.int p1)] [(.int (4 : Int32)), (.int p1)])) t → Steps p.tables e below (s₁.setTop (entryFrame m #[(.int p1)] 1)) t := by
            intro t kt
            refine pre13 t ?_
            show Steps p.tables e below (s₁.setTop (mkF m 28 #[.val (.int p1)] [(.int (3 : Int32)), (.int p1)])) _
            refine XS.icmpYes X0.here hx rfl (pc0 := 28) (pc' := 35) rfl (hb hby own_d_method_2_28) rfl (feq hc14).2 (by decide) (by decide) ?_
            show Steps p.tables e below (s₁.setTop (mkF m 35 #[.val (.int p1)] [])) _
            refine XS.iloadN X0.here hx rfl (hb hby own_d_method_2_35) rfl ?_
            show Steps p.tables e below (s₁.setTop (mkF m 36 #[.val (.int p1)] [(.int p1)])) _
            refine XS.iconst X0.here hx rfl (hb hby own_d_method_2_36) ?_
            exact kt
          by_cases hc18 : p1 = (4 : Int32)
          · obtain ⟨T19, X19, e19, st19⟩ := getS2 X0 hx hZ hown (host := "") (Or.inl (hw _ (List.mem_of_getElem? (i := 25) rfl))) Via.refl e0 S4 (g := (mkF m 40 #[.val (.int p1)] [])) rfl (hb hby own_d_method_2_40)
            have pre20 : ∀ t, Steps p.tables e below (T19.setTop (mkF m 43 #[.val (.int p1)] [(.ref (g 4))])) t → Steps p.tables e below (s₁.setTop (entryFrame m #[(.int p1)] 1)) t := by
              intro t kt
              refine pre17 t ?_
              show Steps p.tables e below (s₁.setTop (mkF m 37 #[.val (.int p1)] [(.int (4 : Int32)), (.int p1)])) _
              refine XS.icmpNo X0.here hx rfl (hb hby own_d_method_2_37) rfl (teq hc18).2 ?_
              show Steps p.tables e below (s₁.setTop (mkF m 40 #[.val (.int p1)] [])) _
              refine st19 _ ?_
              exact kt
            obtain ⟨fs, hr, hrun, hended, hW, hsame⟩ := X19.leave (v := some (.ref (g 4))) (fun h => by rw [Bd.returns] at h; cases h)
            refine ⟨_, _, pre20 _ ?_, hrun, hended, _, _, rfl, ?_, ⟨_, rfl⟩, hW, hsame.mono (by decide) (by decide)⟩
            · show Steps p.tables e below (T19.setTop (mkF m 43 #[.val (.int p1)] [(.ref (g 4))])) _
              jvm_step X19.here [X19.here.top, hx, (hb hby own_d_method_2_43), X19.method', Bd.returns, Value.isRef, FieldType.isReference]
              first | (intro acts; rw [hr _ acts rfl rfl rfl]) | rw [hr _ _ rfl rfl rfl]
              exact Steps.refl _
            · show own_Q_kind Z p1 g h0 n0 (some (.ref (g 4))) T19.heap _
              rw [e19]
              exact ⟨by simp [own_ix, hc2, hc6, hc10, hc14, hc18], N0, rfl⟩
          · have pre21 : ∀ t, Steps p.tables e below (s₁.setTop (mkF m 46 #[.val (.int p1)] [(.int (5 : Int32)), (.int p1)])) t → Steps p.tables e below (s₁.setTop (entryFrame m #[(.int p1)] 1)) t := by
              intro t kt
              refine pre17 t ?_
              show Steps p.tables e below (s₁.setTop (mkF m 37 #[.val (.int p1)] [(.int (4 : Int32)), (.int p1)])) _
              refine XS.icmpYes X0.here hx rfl (pc0 := 37) (pc' := 44) rfl (hb hby own_d_method_2_37) rfl (feq hc18).2 (by decide) (by decide) ?_
              show Steps p.tables e below (s₁.setTop (mkF m 44 #[.val (.int p1)] [])) _
              refine XS.iloadN X0.here hx rfl (hb hby own_d_method_2_44) rfl ?_
              show Steps p.tables e below (s₁.setTop (mkF m 45 #[.val (.int p1)] [(.int p1)])) _
              refine XS.iconst X0.here hx rfl (hb hby own_d_method_2_45) ?_
              exact kt
            by_cases hc22 : p1 = (5 : Int32)
            · obtain ⟨T23, X23, e23, st23⟩ := getS2 X0 hx hZ hown (host := "") (Or.inl (hw _ (List.mem_of_getElem? (i := 45) rfl))) Via.refl e0 S5 (g := (mkF m 49 #[.val (.int p1)] [])) rfl (hb hby own_d_method_2_49)
              have pre24 : ∀ t, Steps p.tables e below (T23.setTop (mkF m 52 #[.val (.int p1)] [(.ref (g 5))])) t → Steps p.tables e below (s₁.setTop (entryFrame m #[(.int p1)] 1)) t := by
                intro t kt
                refine pre21 t ?_
                show Steps p.tables e below (s₁.setTop (mkF m 46 #[.val (.int p1)] [(.int (5 : Int32)), (.int p1)])) _
                refine XS.icmpNo X0.here hx rfl (hb hby own_d_method_2_46) rfl (teq hc22).2 ?_
                show Steps p.tables e below (s₁.setTop (mkF m 49 #[.val (.int p1)] [])) _
                refine st23 _ ?_
                exact kt
              obtain ⟨fs, hr, hrun, hended, hW, hsame⟩ := X23.leave (v := some (.ref (g 5))) (fun h => by rw [Bd.returns] at h; cases h)
              refine ⟨_, _, pre24 _ ?_, hrun, hended, _, _, rfl, ?_, ⟨_, rfl⟩, hW, hsame.mono (by decide) (by decide)⟩
              · show Steps p.tables e below (T23.setTop (mkF m 52 #[.val (.int p1)] [(.ref (g 5))])) _
                jvm_step X23.here [X23.here.top, hx, (hb hby own_d_method_2_52), X23.method', Bd.returns, Value.isRef, FieldType.isReference]
                first | (intro acts; rw [hr _ acts rfl rfl rfl]) | rw [hr _ _ rfl rfl rfl]
                exact Steps.refl _
              · show own_Q_kind Z p1 g h0 n0 (some (.ref (g 5))) T23.heap _
                rw [e23]
                exact ⟨by simp [own_ix, hc2, hc6, hc10, hc14, hc18, hc22], N0, rfl⟩
            · have pre25 : ∀ t, Steps p.tables e below (s₁.setTop (mkF m 56 #[.val (.int p1)] [(.int (6 : Int32)), (.int p1)])) t → Steps p.tables e below (s₁.setTop (entryFrame m #[(.int p1)] 1)) t := by
                intro t kt
                refine pre21 t ?_
                show Steps p.tables e below (s₁.setTop (mkF m 46 #[.val (.int p1)] [(.int (5 : Int32)), (.int p1)])) _
                refine XS.icmpYes X0.here hx rfl (pc0 := 46) (pc' := 53) rfl (hb hby own_d_method_2_46) rfl (feq hc22).2 (by decide) (by decide) ?_
                show Steps p.tables e below (s₁.setTop (mkF m 53 #[.val (.int p1)] [])) _
                refine XS.iloadN X0.here hx rfl (hb hby own_d_method_2_53) rfl ?_
                show Steps p.tables e below (s₁.setTop (mkF m 54 #[.val (.int p1)] [(.int p1)])) _
                refine XS.bipush X0.here hx rfl (hb hby own_d_method_2_54) ?_
                exact kt
              by_cases hc26 : p1 = (6 : Int32)
              · obtain ⟨T27, X27, e27, st27⟩ := getS2 X0 hx hZ hown (host := "") (Or.inl (hw _ (List.mem_of_getElem? (i := 39) rfl))) Via.refl e0 S6 (g := (mkF m 59 #[.val (.int p1)] [])) rfl (hb hby own_d_method_2_59)
                have pre28 : ∀ t, Steps p.tables e below (T27.setTop (mkF m 62 #[.val (.int p1)] [(.ref (g 6))])) t → Steps p.tables e below (s₁.setTop (entryFrame m #[(.int p1)] 1)) t := by
                  intro t kt
                  refine pre25 t ?_
                  show Steps p.tables e below (s₁.setTop (mkF m 56 #[.val (.int p1)] [(.int (6 : Int32)), (.int p1)])) _
                  refine XS.icmpNo X0.here hx rfl (hb hby own_d_method_2_56) rfl (teq hc26).2 ?_
                  show Steps p.tables e below (s₁.setTop (mkF m 59 #[.val (.int p1)] [])) _
                  refine st27 _ ?_
                  exact kt
                obtain ⟨fs, hr, hrun, hended, hW, hsame⟩ := X27.leave (v := some (.ref (g 6))) (fun h => by rw [Bd.returns] at h; cases h)
                refine ⟨_, _, pre28 _ ?_, hrun, hended, _, _, rfl, ?_, ⟨_, rfl⟩, hW, hsame.mono (by decide) (by decide)⟩
                · show Steps p.tables e below (T27.setTop (mkF m 62 #[.val (.int p1)] [(.ref (g 6))])) _
                  jvm_step X27.here [X27.here.top, hx, (hb hby own_d_method_2_62), X27.method', Bd.returns, Value.isRef, FieldType.isReference]
                  first | (intro acts; rw [hr _ acts rfl rfl rfl]) | rw [hr _ _ rfl rfl rfl]
                  exact Steps.refl _
                · show own_Q_kind Z p1 g h0 n0 (some (.ref (g 6))) T27.heap _
                  rw [e27]
                  exact ⟨by simp [own_ix, hc2, hc6, hc10, hc14, hc18, hc22, hc26], N0, rfl⟩
              · have pre29 : ∀ t, Steps p.tables e below (s₁.setTop (mkF m 66 #[.val (.int p1)] [(.int (7 : Int32)), (.int p1)])) t → Steps p.tables e below (s₁.setTop (entryFrame m #[(.int p1)] 1)) t := by
                  intro t kt
                  refine pre25 t ?_
                  show Steps p.tables e below (s₁.setTop (mkF m 56 #[.val (.int p1)] [(.int (6 : Int32)), (.int p1)])) _
                  refine XS.icmpYes X0.here hx rfl (pc0 := 56) (pc' := 63) rfl (hb hby own_d_method_2_56) rfl (feq hc26).2 (by decide) (by decide) ?_
                  show Steps p.tables e below (s₁.setTop (mkF m 63 #[.val (.int p1)] [])) _
                  refine XS.iloadN X0.here hx rfl (hb hby own_d_method_2_63) rfl ?_
                  show Steps p.tables e below (s₁.setTop (mkF m 64 #[.val (.int p1)] [(.int p1)])) _
                  refine XS.bipush X0.here hx rfl (hb hby own_d_method_2_64) ?_
                  exact kt
                by_cases hc30 : p1 = (7 : Int32)
                · obtain ⟨T31, X31, e31, st31⟩ := getS2 X0 hx hZ hown (host := "") (Or.inl (hw _ (List.mem_of_getElem? (i := 21) rfl))) Via.refl e0 S7 (g := (mkF m 69 #[.val (.int p1)] [])) rfl (hb hby own_d_method_2_69)
                  have pre32 : ∀ t, Steps p.tables e below (T31.setTop (mkF m 72 #[.val (.int p1)] [(.ref (g 7))])) t → Steps p.tables e below (s₁.setTop (entryFrame m #[(.int p1)] 1)) t := by
                    intro t kt
                    refine pre29 t ?_
                    show Steps p.tables e below (s₁.setTop (mkF m 66 #[.val (.int p1)] [(.int (7 : Int32)), (.int p1)])) _
                    refine XS.icmpNo X0.here hx rfl (hb hby own_d_method_2_66) rfl (teq hc30).2 ?_
                    show Steps p.tables e below (s₁.setTop (mkF m 69 #[.val (.int p1)] [])) _
                    refine st31 _ ?_
                    exact kt
                  obtain ⟨fs, hr, hrun, hended, hW, hsame⟩ := X31.leave (v := some (.ref (g 7))) (fun h => by rw [Bd.returns] at h; cases h)
                  refine ⟨_, _, pre32 _ ?_, hrun, hended, _, _, rfl, ?_, ⟨_, rfl⟩, hW, hsame.mono (by decide) (by decide)⟩
                  · show Steps p.tables e below (T31.setTop (mkF m 72 #[.val (.int p1)] [(.ref (g 7))])) _
                    jvm_step X31.here [X31.here.top, hx, (hb hby own_d_method_2_72), X31.method', Bd.returns, Value.isRef, FieldType.isReference]
                    first | (intro acts; rw [hr _ acts rfl rfl rfl]) | rw [hr _ _ rfl rfl rfl]
                    exact Steps.refl _
                  · show own_Q_kind Z p1 g h0 n0 (some (.ref (g 7))) T31.heap _
                    rw [e31]
                    exact ⟨by simp [own_ix, hc2, hc6, hc10, hc14, hc18, hc22, hc26, hc30], N0, rfl⟩
                · have pre33 : ∀ t, Steps p.tables e below (s₁.setTop (mkF m 76 #[.val (.int p1)] [(.int (8 : Int32)), (.int p1)])) t → Steps p.tables e below (s₁.setTop (entryFrame m #[(.int p1)] 1)) t := by
                    intro t kt
                    refine pre29 t ?_
                    show Steps p.tables e below (s₁.setTop (mkF m 66 #[.val (.int p1)] [(.int (7 : Int32)), (.int p1)])) _
                    refine XS.icmpYes X0.here hx rfl (pc0 := 66) (pc' := 73) rfl (hb hby own_d_method_2_66) rfl (feq hc30).2 (by decide) (by decide) ?_
                    show Steps p.tables e below (s₁.setTop (mkF m 73 #[.val (.int p1)] [])) _
                    refine XS.iloadN X0.here hx rfl (hb hby own_d_method_2_73) rfl ?_
                    show Steps p.tables e below (s₁.setTop (mkF m 74 #[.val (.int p1)] [(.int p1)])) _
                    refine XS.bipush X0.here hx rfl (hb hby own_d_method_2_74) ?_
                    exact kt
                  by_cases hc34 : p1 = (8 : Int32)
                  · obtain ⟨T35, X35, e35, st35⟩ := getS2 X0 hx hZ hown (host := "") (Or.inl (hw _ (List.mem_of_getElem? (i := 27) rfl))) Via.refl e0 S8 (g := (mkF m 79 #[.val (.int p1)] [])) rfl (hb hby own_d_method_2_79)
                    have pre36 : ∀ t, Steps p.tables e below (T35.setTop (mkF m 82 #[.val (.int p1)] [(.ref (g 8))])) t → Steps p.tables e below (s₁.setTop (entryFrame m #[(.int p1)] 1)) t := by
                      intro t kt
                      refine pre33 t ?_
                      show Steps p.tables e below (s₁.setTop (mkF m 76 #[.val (.int p1)] [(.int (8 : Int32)), (.int p1)])) _
                      refine XS.icmpNo X0.here hx rfl (hb hby own_d_method_2_76) rfl (teq hc34).2 ?_
                      show Steps p.tables e below (s₁.setTop (mkF m 79 #[.val (.int p1)] [])) _
                      refine st35 _ ?_
                      exact kt
                    obtain ⟨fs, hr, hrun, hended, hW, hsame⟩ := X35.leave (v := some (.ref (g 8))) (fun h => by rw [Bd.returns] at h; cases h)
                    refine ⟨_, _, pre36 _ ?_, hrun, hended, _, _, rfl, ?_, ⟨_, rfl⟩, hW, hsame.mono (by decide) (by decide)⟩
                    · show Steps p.tables e below (T35.setTop (mkF m 82 #[.val (.int p1)] [(.ref (g 8))])) _
                      jvm_step X35.here [X35.here.top, hx, (hb hby own_d_method_2_82), X35.method', Bd.returns, Value.isRef, FieldType.isReference]
                      first | (intro acts; rw [hr _ acts rfl rfl rfl]) | rw [hr _ _ rfl rfl rfl]
                      exact Steps.refl _
                    · show own_Q_kind Z p1 g h0 n0 (some (.ref (g 8))) T35.heap _
                      rw [e35]
                      exact ⟨by simp [own_ix, hc2, hc6, hc10, hc14, hc18, hc22, hc26, hc30, hc34], N0, rfl⟩
                  · have pre37 : ∀ t, Steps p.tables e below (s₁.setTop (mkF m 86 #[.val (.int p1)] [(.int (9 : Int32)), (.int p1)])) t → Steps p.tables e below (s₁.setTop (entryFrame m #[(.int p1)] 1)) t := by
                      intro t kt
                      refine pre33 t ?_
                      show Steps p.tables e below (s₁.setTop (mkF m 76 #[.val (.int p1)] [(.int (8 : Int32)), (.int p1)])) _
                      refine XS.icmpYes X0.here hx rfl (pc0 := 76) (pc' := 83) rfl (hb hby own_d_method_2_76) rfl (feq hc34).2 (by decide) (by decide) ?_
                      show Steps p.tables e below (s₁.setTop (mkF m 83 #[.val (.int p1)] [])) _
                      refine XS.iloadN X0.here hx rfl (hb hby own_d_method_2_83) rfl ?_
                      show Steps p.tables e below (s₁.setTop (mkF m 84 #[.val (.int p1)] [(.int p1)])) _
                      refine XS.bipush X0.here hx rfl (hb hby own_d_method_2_84) ?_
                      exact kt
                    by_cases hc38 : p1 = (9 : Int32)
                    · obtain ⟨T39, X39, e39, st39⟩ := getS2 X0 hx hZ hown (host := "") (Or.inl (hw _ (List.mem_of_getElem? (i := 47) rfl))) Via.refl e0 S9 (g := (mkF m 89 #[.val (.int p1)] [])) rfl (hb hby own_d_method_2_89)
                      have pre40 : ∀ t, Steps p.tables e below (T39.setTop (mkF m 92 #[.val (.int p1)] [(.ref (g 9))])) t → Steps p.tables e below (s₁.setTop (entryFrame m #[(.int p1)] 1)) t := by
                        intro t kt
                        refine pre37 t ?_
                        show Steps p.tables e below (s₁.setTop (mkF m 86 #[.val (.int p1)] [(.int (9 : Int32)), (.int p1)])) _
                        refine XS.icmpNo X0.here hx rfl (hb hby own_d_method_2_86) rfl (teq hc38).2 ?_
                        show Steps p.tables e below (s₁.setTop (mkF m 89 #[.val (.int p1)] [])) _
                        refine st39 _ ?_
                        exact kt
                      obtain ⟨fs, hr, hrun, hended, hW, hsame⟩ := X39.leave (v := some (.ref (g 9))) (fun h => by rw [Bd.returns] at h; cases h)
                      refine ⟨_, _, pre40 _ ?_, hrun, hended, _, _, rfl, ?_, ⟨_, rfl⟩, hW, hsame.mono (by decide) (by decide)⟩
                      · show Steps p.tables e below (T39.setTop (mkF m 92 #[.val (.int p1)] [(.ref (g 9))])) _
                        jvm_step X39.here [X39.here.top, hx, (hb hby own_d_method_2_92), X39.method', Bd.returns, Value.isRef, FieldType.isReference]
                        first | (intro acts; rw [hr _ acts rfl rfl rfl]) | rw [hr _ _ rfl rfl rfl]
                        exact Steps.refl _
                      · show own_Q_kind Z p1 g h0 n0 (some (.ref (g 9))) T39.heap _
                        rw [e39]
                        exact ⟨by simp [own_ix, hc2, hc6, hc10, hc14, hc18, hc22, hc26, hc30, hc34, hc38], N0, rfl⟩
                    · have pre41 : ∀ t, Steps p.tables e below (s₁.setTop (mkF m 96 #[.val (.int p1)] [(.int (10 : Int32)), (.int p1)])) t → Steps p.tables e below (s₁.setTop (entryFrame m #[(.int p1)] 1)) t := by
                        intro t kt
                        refine pre37 t ?_
                        show Steps p.tables e below (s₁.setTop (mkF m 86 #[.val (.int p1)] [(.int (9 : Int32)), (.int p1)])) _
                        refine XS.icmpYes X0.here hx rfl (pc0 := 86) (pc' := 93) rfl (hb hby own_d_method_2_86) rfl (feq hc38).2 (by decide) (by decide) ?_
                        show Steps p.tables e below (s₁.setTop (mkF m 93 #[.val (.int p1)] [])) _
                        refine XS.iloadN X0.here hx rfl (hb hby own_d_method_2_93) rfl ?_
                        show Steps p.tables e below (s₁.setTop (mkF m 94 #[.val (.int p1)] [(.int p1)])) _
                        refine XS.bipush X0.here hx rfl (hb hby own_d_method_2_94) ?_
                        exact kt
                      by_cases hc42 : p1 = (10 : Int32)
                      · obtain ⟨T43, X43, e43, st43⟩ := getS2 X0 hx hZ hown (host := "") (Or.inl (hw _ (List.mem_of_getElem? (i := 35) rfl))) Via.refl e0 S10 (g := (mkF m 99 #[.val (.int p1)] [])) rfl (hb hby own_d_method_2_99)
                        have pre44 : ∀ t, Steps p.tables e below (T43.setTop (mkF m 102 #[.val (.int p1)] [(.ref (g 10))])) t → Steps p.tables e below (s₁.setTop (entryFrame m #[(.int p1)] 1)) t := by
                          intro t kt
                          refine pre41 t ?_
                          show Steps p.tables e below (s₁.setTop (mkF m 96 #[.val (.int p1)] [(.int (10 : Int32)), (.int p1)])) _
                          refine XS.icmpNo X0.here hx rfl (hb hby own_d_method_2_96) rfl (teq hc42).2 ?_
                          show Steps p.tables e below (s₁.setTop (mkF m 99 #[.val (.int p1)] [])) _
                          refine st43 _ ?_
                          exact kt
                        obtain ⟨fs, hr, hrun, hended, hW, hsame⟩ := X43.leave (v := some (.ref (g 10))) (fun h => by rw [Bd.returns] at h; cases h)
                        refine ⟨_, _, pre44 _ ?_, hrun, hended, _, _, rfl, ?_, ⟨_, rfl⟩, hW, hsame.mono (by decide) (by decide)⟩
                        · show Steps p.tables e below (T43.setTop (mkF m 102 #[.val (.int p1)] [(.ref (g 10))])) _
                          jvm_step X43.here [X43.here.top, hx, (hb hby own_d_method_2_102), X43.method', Bd.returns, Value.isRef, FieldType.isReference]
                          first | (intro acts; rw [hr _ acts rfl rfl rfl]) | rw [hr _ _ rfl rfl rfl]
                          exact Steps.refl _
                        · show own_Q_kind Z p1 g h0 n0 (some (.ref (g 10))) T43.heap _
                          rw [e43]
                          exact ⟨by simp [own_ix, hc2, hc6, hc10, hc14, hc18, hc22, hc26, hc30, hc34, hc38, hc42], N0, rfl⟩
                      · have pre45 : ∀ t, Steps p.tables e below (s₁.setTop (mkF m 106 #[.val (.int p1)] [(.int (11 : Int32)), (.int p1)])) t → Steps p.tables e below (s₁.setTop (entryFrame m #[(.int p1)] 1)) t := by
                          intro t kt
                          refine pre41 t ?_
                          show Steps p.tables e below (s₁.setTop (mkF m 96 #[.val (.int p1)] [(.int (10 : Int32)), (.int p1)])) _
                          refine XS.icmpYes X0.here hx rfl (pc0 := 96) (pc' := 103) rfl (hb hby own_d_method_2_96) rfl (feq hc42).2 (by decide) (by decide) ?_
                          show Steps p.tables e below (s₁.setTop (mkF m 103 #[.val (.int p1)] [])) _
                          refine XS.iloadN X0.here hx rfl (hb hby own_d_method_2_103) rfl ?_
                          show Steps p.tables e below (s₁.setTop (mkF m 104 #[.val (.int p1)] [(.int p1)])) _
                          refine XS.bipush X0.here hx rfl (hb hby own_d_method_2_104) ?_
                          exact kt
                        by_cases hc46 : p1 = (11 : Int32)
                        · obtain ⟨T47, X47, e47, st47⟩ := getS2 X0 hx hZ hown (host := "") (Or.inl (hw _ (List.mem_of_getElem? (i := 23) rfl))) Via.refl e0 S11 (g := (mkF m 109 #[.val (.int p1)] [])) rfl (hb hby own_d_method_2_109)
                          have pre48 : ∀ t, Steps p.tables e below (T47.setTop (mkF m 112 #[.val (.int p1)] [(.ref (g 11))])) t → Steps p.tables e below (s₁.setTop (entryFrame m #[(.int p1)] 1)) t := by
                            intro t kt
                            refine pre45 t ?_
                            show Steps p.tables e below (s₁.setTop (mkF m 106 #[.val (.int p1)] [(.int (11 : Int32)), (.int p1)])) _
                            refine XS.icmpNo X0.here hx rfl (hb hby own_d_method_2_106) rfl (teq hc46).2 ?_
                            show Steps p.tables e below (s₁.setTop (mkF m 109 #[.val (.int p1)] [])) _
                            refine st47 _ ?_
                            exact kt
                          obtain ⟨fs, hr, hrun, hended, hW, hsame⟩ := X47.leave (v := some (.ref (g 11))) (fun h => by rw [Bd.returns] at h; cases h)
                          refine ⟨_, _, pre48 _ ?_, hrun, hended, _, _, rfl, ?_, ⟨_, rfl⟩, hW, hsame.mono (by decide) (by decide)⟩
                          · show Steps p.tables e below (T47.setTop (mkF m 112 #[.val (.int p1)] [(.ref (g 11))])) _
                            jvm_step X47.here [X47.here.top, hx, (hb hby own_d_method_2_112), X47.method', Bd.returns, Value.isRef, FieldType.isReference]
                            first | (intro acts; rw [hr _ acts rfl rfl rfl]) | rw [hr _ _ rfl rfl rfl]
                            exact Steps.refl _
                          · show own_Q_kind Z p1 g h0 n0 (some (.ref (g 11))) T47.heap _
                            rw [e47]
                            exact ⟨by simp [own_ix, hc2, hc6, hc10, hc14, hc18, hc22, hc26, hc30, hc34, hc38, hc42, hc46], N0, rfl⟩
                        · have pre49 : ∀ t, Steps p.tables e below (s₁.setTop (mkF m 116 #[.val (.int p1)] [(.int (12 : Int32)), (.int p1)])) t → Steps p.tables e below (s₁.setTop (entryFrame m #[(.int p1)] 1)) t := by
                            intro t kt
                            refine pre45 t ?_
                            show Steps p.tables e below (s₁.setTop (mkF m 106 #[.val (.int p1)] [(.int (11 : Int32)), (.int p1)])) _
                            refine XS.icmpYes X0.here hx rfl (pc0 := 106) (pc' := 113) rfl (hb hby own_d_method_2_106) rfl (feq hc46).2 (by decide) (by decide) ?_
                            show Steps p.tables e below (s₁.setTop (mkF m 113 #[.val (.int p1)] [])) _
                            refine XS.iloadN X0.here hx rfl (hb hby own_d_method_2_113) rfl ?_
                            show Steps p.tables e below (s₁.setTop (mkF m 114 #[.val (.int p1)] [(.int p1)])) _
                            refine XS.bipush X0.here hx rfl (hb hby own_d_method_2_114) ?_
                            exact kt
                          by_cases hc50 : p1 = (12 : Int32)
                          · obtain ⟨T51, X51, e51, st51⟩ := getS2 X0 hx hZ hown (host := "") (Or.inl (hw _ (List.mem_of_getElem? (i := 29) rfl))) Via.refl e0 S12 (g := (mkF m 119 #[.val (.int p1)] [])) rfl (hb hby own_d_method_2_119)
                            have pre52 : ∀ t, Steps p.tables e below (T51.setTop (mkF m 122 #[.val (.int p1)] [(.ref (g 12))])) t → Steps p.tables e below (s₁.setTop (entryFrame m #[(.int p1)] 1)) t := by
                              intro t kt
                              refine pre49 t ?_
                              show Steps p.tables e below (s₁.setTop (mkF m 116 #[.val (.int p1)] [(.int (12 : Int32)), (.int p1)])) _
                              refine XS.icmpNo X0.here hx rfl (hb hby own_d_method_2_116) rfl (teq hc50).2 ?_
                              show Steps p.tables e below (s₁.setTop (mkF m 119 #[.val (.int p1)] [])) _
                              refine st51 _ ?_
                              exact kt
                            obtain ⟨fs, hr, hrun, hended, hW, hsame⟩ := X51.leave (v := some (.ref (g 12))) (fun h => by rw [Bd.returns] at h; cases h)
                            refine ⟨_, _, pre52 _ ?_, hrun, hended, _, _, rfl, ?_, ⟨_, rfl⟩, hW, hsame.mono (by decide) (by decide)⟩
                            · show Steps p.tables e below (T51.setTop (mkF m 122 #[.val (.int p1)] [(.ref (g 12))])) _
                              jvm_step X51.here [X51.here.top, hx, (hb hby own_d_method_2_122), X51.method', Bd.returns, Value.isRef, FieldType.isReference]
                              first | (intro acts; rw [hr _ acts rfl rfl rfl]) | rw [hr _ _ rfl rfl rfl]
                              exact Steps.refl _
                            · show own_Q_kind Z p1 g h0 n0 (some (.ref (g 12))) T51.heap _
                              rw [e51]
                              exact ⟨by simp [own_ix, hc2, hc6, hc10, hc14, hc18, hc22, hc26, hc30, hc34, hc38, hc42, hc46, hc50], N0, rfl⟩
                          · have pre53 : ∀ t, Steps p.tables e below (s₁.setTop (mkF m 126 #[.val (.int p1)] [(.int (13 : Int32)), (.int p1)])) t → Steps p.tables e below (s₁.setTop (entryFrame m #[(.int p1)] 1)) t := by
                              intro t kt
                              refine pre49 t ?_
                              show Steps p.tables e below (s₁.setTop (mkF m 116 #[.val (.int p1)] [(.int (12 : Int32)), (.int p1)])) _
                              refine XS.icmpYes X0.here hx rfl (pc0 := 116) (pc' := 123) rfl (hb hby own_d_method_2_116) rfl (feq hc50).2 (by decide) (by decide) ?_
                              show Steps p.tables e below (s₁.setTop (mkF m 123 #[.val (.int p1)] [])) _
                              refine XS.iloadN X0.here hx rfl (hb hby own_d_method_2_123) rfl ?_
                              show Steps p.tables e below (s₁.setTop (mkF m 124 #[.val (.int p1)] [(.int p1)])) _
                              refine XS.bipush X0.here hx rfl (hb hby own_d_method_2_124) ?_
                              exact kt
                            by_cases hc54 : p1 = (13 : Int32)
                            · obtain ⟨T55, X55, e55, st55⟩ := getS2 X0 hx hZ hown (host := "") (Or.inl (hw _ (List.mem_of_getElem? (i := 37) rfl))) Via.refl e0 S13 (g := (mkF m 129 #[.val (.int p1)] [])) rfl (hb hby own_d_method_2_129)
                              have pre56 : ∀ t, Steps p.tables e below (T55.setTop (mkF m 132 #[.val (.int p1)] [(.ref (g 13))])) t → Steps p.tables e below (s₁.setTop (entryFrame m #[(.int p1)] 1)) t := by
                                intro t kt
                                refine pre53 t ?_
                                show Steps p.tables e below (s₁.setTop (mkF m 126 #[.val (.int p1)] [(.int (13 : Int32)), (.int p1)])) _
                                refine XS.icmpNo X0.here hx rfl (hb hby own_d_method_2_126) rfl (teq hc54).2 ?_
                                show Steps p.tables e below (s₁.setTop (mkF m 129 #[.val (.int p1)] [])) _
                                refine st55 _ ?_
                                exact kt
                              obtain ⟨fs, hr, hrun, hended, hW, hsame⟩ := X55.leave (v := some (.ref (g 13))) (fun h => by rw [Bd.returns] at h; cases h)
                              refine ⟨_, _, pre56 _ ?_, hrun, hended, _, _, rfl, ?_, ⟨_, rfl⟩, hW, hsame.mono (by decide) (by decide)⟩
                              · show Steps p.tables e below (T55.setTop (mkF m 132 #[.val (.int p1)] [(.ref (g 13))])) _
                                jvm_step X55.here [X55.here.top, hx, (hb hby own_d_method_2_132), X55.method', Bd.returns, Value.isRef, FieldType.isReference]
                                first | (intro acts; rw [hr _ acts rfl rfl rfl]) | rw [hr _ _ rfl rfl rfl]
                                exact Steps.refl _
                              · show own_Q_kind Z p1 g h0 n0 (some (.ref (g 13))) T55.heap _
                                rw [e55]
                                exact ⟨by simp [own_ix, hc2, hc6, hc10, hc14, hc18, hc22, hc26, hc30, hc34, hc38, hc42, hc46, hc50, hc54], N0, rfl⟩
                            · have pre57 : ∀ t, Steps p.tables e below (s₁.setTop (mkF m 136 #[.val (.int p1)] [(.int (14 : Int32)), (.int p1)])) t → Steps p.tables e below (s₁.setTop (entryFrame m #[(.int p1)] 1)) t := by
                                intro t kt
                                refine pre53 t ?_
                                show Steps p.tables e below (s₁.setTop (mkF m 126 #[.val (.int p1)] [(.int (13 : Int32)), (.int p1)])) _
                                refine XS.icmpYes X0.here hx rfl (pc0 := 126) (pc' := 133) rfl (hb hby own_d_method_2_126) rfl (feq hc54).2 (by decide) (by decide) ?_
                                show Steps p.tables e below (s₁.setTop (mkF m 133 #[.val (.int p1)] [])) _
                                refine XS.iloadN X0.here hx rfl (hb hby own_d_method_2_133) rfl ?_
                                show Steps p.tables e below (s₁.setTop (mkF m 134 #[.val (.int p1)] [(.int p1)])) _
                                refine XS.bipush X0.here hx rfl (hb hby own_d_method_2_134) ?_
                                exact kt
                              by_cases hc58 : p1 = (14 : Int32)
                              · obtain ⟨T59, X59, e59, st59⟩ := getS2 X0 hx hZ hown (host := "") (Or.inl (hw _ (List.mem_of_getElem? (i := 43) rfl))) Via.refl e0 S14 (g := (mkF m 139 #[.val (.int p1)] [])) rfl (hb hby own_d_method_2_139)
                                have pre60 : ∀ t, Steps p.tables e below (T59.setTop (mkF m 142 #[.val (.int p1)] [(.ref (g 14))])) t → Steps p.tables e below (s₁.setTop (entryFrame m #[(.int p1)] 1)) t := by
                                  intro t kt
                                  refine pre57 t ?_
                                  show Steps p.tables e below (s₁.setTop (mkF m 136 #[.val (.int p1)] [(.int (14 : Int32)), (.int p1)])) _
                                  refine XS.icmpNo X0.here hx rfl (hb hby own_d_method_2_136) rfl (teq hc58).2 ?_
                                  show Steps p.tables e below (s₁.setTop (mkF m 139 #[.val (.int p1)] [])) _
                                  refine st59 _ ?_
                                  exact kt
                                obtain ⟨fs, hr, hrun, hended, hW, hsame⟩ := X59.leave (v := some (.ref (g 14))) (fun h => by rw [Bd.returns] at h; cases h)
                                refine ⟨_, _, pre60 _ ?_, hrun, hended, _, _, rfl, ?_, ⟨_, rfl⟩, hW, hsame.mono (by decide) (by decide)⟩
                                · show Steps p.tables e below (T59.setTop (mkF m 142 #[.val (.int p1)] [(.ref (g 14))])) _
                                  jvm_step X59.here [X59.here.top, hx, (hb hby own_d_method_2_142), X59.method', Bd.returns, Value.isRef, FieldType.isReference]
                                  first | (intro acts; rw [hr _ acts rfl rfl rfl]) | rw [hr _ _ rfl rfl rfl]
                                  exact Steps.refl _
                                · show own_Q_kind Z p1 g h0 n0 (some (.ref (g 14))) T59.heap _
                                  rw [e59]
                                  exact ⟨by simp [own_ix, hc2, hc6, hc10, hc14, hc18, hc22, hc26, hc30, hc34, hc38, hc42, hc46, hc50, hc54, hc58], N0, rfl⟩
                              · have pre61 : ∀ t, Steps p.tables e below (s₁.setTop (mkF m 146 #[.val (.int p1)] [(.int (15 : Int32)), (.int p1)])) t → Steps p.tables e below (s₁.setTop (entryFrame m #[(.int p1)] 1)) t := by
                                  intro t kt
                                  refine pre57 t ?_
                                  show Steps p.tables e below (s₁.setTop (mkF m 136 #[.val (.int p1)] [(.int (14 : Int32)), (.int p1)])) _
                                  refine XS.icmpYes X0.here hx rfl (pc0 := 136) (pc' := 143) rfl (hb hby own_d_method_2_136) rfl (feq hc58).2 (by decide) (by decide) ?_
                                  show Steps p.tables e below (s₁.setTop (mkF m 143 #[.val (.int p1)] [])) _
                                  refine XS.iloadN X0.here hx rfl (hb hby own_d_method_2_143) rfl ?_
                                  show Steps p.tables e below (s₁.setTop (mkF m 144 #[.val (.int p1)] [(.int p1)])) _
                                  refine XS.bipush X0.here hx rfl (hb hby own_d_method_2_144) ?_
                                  exact kt
                                by_cases hc62 : p1 = (15 : Int32)
                                · obtain ⟨T63, X63, e63, st63⟩ := getS2 X0 hx hZ hown (host := "") (Or.inl (hw _ (List.mem_of_getElem? (i := 33) rfl))) Via.refl e0 S15 (g := (mkF m 149 #[.val (.int p1)] [])) rfl (hb hby own_d_method_2_149)
                                  have pre64 : ∀ t, Steps p.tables e below (T63.setTop (mkF m 152 #[.val (.int p1)] [(.ref (g 15))])) t → Steps p.tables e below (s₁.setTop (entryFrame m #[(.int p1)] 1)) t := by
                                    intro t kt
                                    refine pre61 t ?_
                                    show Steps p.tables e below (s₁.setTop (mkF m 146 #[.val (.int p1)] [(.int (15 : Int32)), (.int p1)])) _
                                    refine XS.icmpNo X0.here hx rfl (hb hby own_d_method_2_146) rfl (teq hc62).2 ?_
                                    show Steps p.tables e below (s₁.setTop (mkF m 149 #[.val (.int p1)] [])) _
                                    refine st63 _ ?_
                                    exact kt
                                  obtain ⟨fs, hr, hrun, hended, hW, hsame⟩ := X63.leave (v := some (.ref (g 15))) (fun h => by rw [Bd.returns] at h; cases h)
                                  refine ⟨_, _, pre64 _ ?_, hrun, hended, _, _, rfl, ?_, ⟨_, rfl⟩, hW, hsame.mono (by decide) (by decide)⟩
                                  · show Steps p.tables e below (T63.setTop (mkF m 152 #[.val (.int p1)] [(.ref (g 15))])) _
                                    jvm_step X63.here [X63.here.top, hx, (hb hby own_d_method_2_152), X63.method', Bd.returns, Value.isRef, FieldType.isReference]
                                    first | (intro acts; rw [hr _ acts rfl rfl rfl]) | rw [hr _ _ rfl rfl rfl]
                                    exact Steps.refl _
                                  · show own_Q_kind Z p1 g h0 n0 (some (.ref (g 15))) T63.heap _
                                    rw [e63]
                                    exact ⟨by simp [own_ix, hc2, hc6, hc10, hc14, hc18, hc22, hc26, hc30, hc34, hc38, hc42, hc46, hc50, hc54, hc58, hc62], N0, rfl⟩
                                · have pre65 : ∀ t, Steps p.tables e below (s₁.setTop (mkF m 156 #[.val (.int p1)] [(.int (16 : Int32)), (.int p1)])) t → Steps p.tables e below (s₁.setTop (entryFrame m #[(.int p1)] 1)) t := by
                                    intro t kt
                                    refine pre61 t ?_
                                    show Steps p.tables e below (s₁.setTop (mkF m 146 #[.val (.int p1)] [(.int (15 : Int32)), (.int p1)])) _
                                    refine XS.icmpYes X0.here hx rfl (pc0 := 146) (pc' := 153) rfl (hb hby own_d_method_2_146) rfl (feq hc62).2 (by decide) (by decide) ?_
                                    show Steps p.tables e below (s₁.setTop (mkF m 153 #[.val (.int p1)] [])) _
                                    refine XS.iloadN X0.here hx rfl (hb hby own_d_method_2_153) rfl ?_
                                    show Steps p.tables e below (s₁.setTop (mkF m 154 #[.val (.int p1)] [(.int p1)])) _
                                    refine XS.bipush X0.here hx rfl (hb hby own_d_method_2_154) ?_
                                    exact kt
                                  by_cases hc66 : p1 = (16 : Int32)
                                  · obtain ⟨T67, X67, e67, st67⟩ := getS2 X0 hx hZ hown (host := "") (Or.inl (hw _ (List.mem_of_getElem? (i := 31) rfl))) Via.refl e0 S16 (g := (mkF m 159 #[.val (.int p1)] [])) rfl (hb hby own_d_method_2_159)
                                    have pre68 : ∀ t, Steps p.tables e below (T67.setTop (mkF m 162 #[.val (.int p1)] [(.ref (g 16))])) t → Steps p.tables e below (s₁.setTop (entryFrame m #[(.int p1)] 1)) t := by
                                      intro t kt
                                      refine pre65 t ?_
                                      show Steps p.tables e below (s₁.setTop (mkF m 156 #[.val (.int p1)] [(.int (16 : Int32)), (.int p1)])) _
                                      refine XS.icmpNo X0.here hx rfl (hb hby own_d_method_2_156) rfl (teq hc66).2 ?_
                                      show Steps p.tables e below (s₁.setTop (mkF m 159 #[.val (.int p1)] [])) _
                                      refine st67 _ ?_
                                      exact kt
                                    obtain ⟨fs, hr, hrun, hended, hW, hsame⟩ := X67.leave (v := some (.ref (g 16))) (fun h => by rw [Bd.returns] at h; cases h)
                                    refine ⟨_, _, pre68 _ ?_, hrun, hended, _, _, rfl, ?_, ⟨_, rfl⟩, hW, hsame.mono (by decide) (by decide)⟩
                                    · show Steps p.tables e below (T67.setTop (mkF m 162 #[.val (.int p1)] [(.ref (g 16))])) _
                                      jvm_step X67.here [X67.here.top, hx, (hb hby own_d_method_2_162), X67.method', Bd.returns, Value.isRef, FieldType.isReference]
                                      first | (intro acts; rw [hr _ acts rfl rfl rfl]) | rw [hr _ _ rfl rfl rfl]
                                      exact Steps.refl _
                                    · show own_Q_kind Z p1 g h0 n0 (some (.ref (g 16))) T67.heap _
                                      rw [e67]
                                      exact ⟨by simp [own_ix, hc2, hc6, hc10, hc14, hc18, hc22, hc26, hc30, hc34, hc38, hc42, hc46, hc50, hc54, hc58, hc62, hc66], N0, rfl⟩
                                  · obtain ⟨T69, X69, e69, st69⟩ := getS2 X0 hx hZ hown (host := "") (Or.inl (hw _ (List.mem_of_getElem? (i := 41) rfl))) Via.refl e0 S17 (g := (mkF m 163 #[.val (.int p1)] [])) rfl (hb hby own_d_method_2_163)
                                    have pre70 : ∀ t, Steps p.tables e below (T69.setTop (mkF m 166 #[.val (.int p1)] [(.ref (g 17))])) t → Steps p.tables e below (s₁.setTop (entryFrame m #[(.int p1)] 1)) t := by
                                      intro t kt
                                      refine pre65 t ?_
                                      show Steps p.tables e below (s₁.setTop (mkF m 156 #[.val (.int p1)] [(.int (16 : Int32)), (.int p1)])) _
                                      refine XS.icmpYes X0.here hx rfl (pc0 := 156) (pc' := 163) rfl (hb hby own_d_method_2_156) rfl (feq hc66).2 (by decide) (by decide) ?_
                                      show Steps p.tables e below (s₁.setTop (mkF m 163 #[.val (.int p1)] [])) _
                                      refine st69 _ ?_
                                      exact kt
                                    obtain ⟨fs, hr, hrun, hended, hW, hsame⟩ := X69.leave (v := some (.ref (g 17))) (fun h => by rw [Bd.returns] at h; cases h)
                                    refine ⟨_, _, pre70 _ ?_, hrun, hended, _, _, rfl, ?_, ⟨_, rfl⟩, hW, hsame.mono (by decide) (by decide)⟩
                                    · show Steps p.tables e below (T69.setTop (mkF m 166 #[.val (.int p1)] [(.ref (g 17))])) _
                                      jvm_step X69.here [X69.here.top, hx, (hb hby own_d_method_2_166), X69.method', Bd.returns, Value.isRef, FieldType.isReference]
                                      first | (intro acts; rw [hr _ acts rfl rfl rfl]) | rw [hr _ _ rfl rfl rfl]
                                      exact Steps.refl _
                                    · show own_Q_kind Z p1 g h0 n0 (some (.ref (g 17))) T69.heap _
                                      rw [e69]
                                      exact ⟨by simp [own_ix, hc2, hc6, hc10, hc14, hc18, hc22, hc26, hc30, hc34, hc38, hc42, hc46, hc50, hc54, hc58, hc62, hc66], N0, rfl⟩
theorem own_d_prog_7_method_6_0 : decode prog_7_method_6_code 0 = .ok (.aload_n 0, 1) := by decide +kernel
theorem own_d_prog_7_method_6_1 : decode prog_7_method_6_code 1 = .ok (.getfield 77, 3) := by decide +kernel
theorem own_d_prog_7_method_6_4 : decode prog_7_method_6_code 4 = .ok (.ifnull 7, 3) := by decide +kernel
theorem own_d_prog_7_method_6_7 : decode prog_7_method_6_code 7 = .ok (.iconst 1, 1) := by decide +kernel
theorem own_d_prog_7_method_6_8 : decode prog_7_method_6_code 8 = .ok (.goto 4, 3) := by decide +kernel
theorem own_d_prog_7_method_6_11 : decode prog_7_method_6_code 11 = .ok (.iconst 0, 1) := by decide +kernel
theorem own_d_prog_7_method_6_12 : decode prog_7_method_6_code 12 = .ok (.ireturn, 1) := by decide +kernel
theorem own_pn1 : plainName "com/example/idlwright/idlwright/model/BaseKind" = true := by first | (simp [plainName, overriddenIn]; done) | decide +kernel
theorem own_ef_is0 (m : MethodId) (a1 : Addr) : entryFrame m #[(.ref a1)] 1 = mkF m 0 #[.val (.ref a1)] [] := by first | (simp [entryFrame, mkF, argsToLocals, Value.category]; done) | rfl
def own_Q_is0 (Z : State) (a1 : Addr) (h0 : Heap) (n0 : Nat) (v : Option Value) (h : Heap) (L : List Loc) : Prop := v = some (.int 0) ∧ Fr n0 L ∧ h = h0
set_option maxRecDepth 65536 in
set_option maxHeartbeats 40000000 in
theorem own_rm_is0 (l : Launch) (Z : State) (a0 : Array Value) (hw : ∀ d ∈ tables_1, d.before a0 Z = true) (ws : List Jvm.Cond) (a1 : Addr) (h0 : Heap) (n0 : Nat) (Z0 : n0 ≤ h0.size) (F0 : Fld Z h0 a1 "com/example/idlwright/idlwright/model/BaseKind" "minimum" "Ljava/math/BigInteger;" .null) :
    MetFree l (⟨"com/example/idlwright/idlwright/model/BaseKind", "isInteger", "()Z"⟩ : MethodName) (head1 (Jvm.Cond.code (⟨"com/example/idlwright/idlwright/model/BaseKind", "isInteger", "()Z"⟩ : MethodName) prog_7_method_6_code 1 (some .boolean) :: ws) ({ frames := 0, cells := 0, slots := 0, locals := 0 } : Room)) (fun a U => a = #[(.ref a1)] ∧ Z.Warmed39 U.vm ∧ U.heap = h0) (fun _ _ _ _ _ => True) (fun _ U o U' => ∃ v L, o = .returned v ∧ own_Q_is0 Z a1 h0 n0 v U'.heap L ∧ FrameEnd U o U' L ({ frames := 0, cells := 0, slots := 0, locals := 0 } : Room).cells ({ frames := 0, cells := 0, slots := 0, locals := 0 } : Room).slots) := by
  refine MetFree.of_bodySF (plainFor_of_name own_pn1) hisR ?_
  intro p e s m args below meth c s₁ Bd hml0 hP hK
  obtain ⟨rfl, hZ, hh⟩ := hP
  have hx := Bd.exec
  have hby := Bd.bytes
  have hml : c.maxLocals = 1 := hml0
  have hown : s.vm.findClass "com/example/idlwright/idlwright/model/BaseKind" = some m.cls := findClass_of_methodNamed Bd.named
  have hnm := (name_of_methodNamed Bd.named Bd.method).1
  have X0 : Stand p l e ({ frames := 0, cells := 0, slots := 0, locals := 0 } : Room) s m #[(.ref a1)] below meth c s₁ [] 0 0 := Stand.of_body Bd
  have e0 : s₁.heap = h0 := by rw [← hh, Bd.state]; rfl
  have N0 := Fr.nil n0
  have K0 : Keep h0 h0 [] := Keep.refl _ _
  have pre0 : ∀ t, Steps p.tables e below (s₁.setTop (mkF m 0 #[.val (.ref a1)] [])) t → Steps p.tables e below (s₁.setTop (entryFrame m #[(.ref a1)] 1)) t := fun t k => castTop (own_ef_is0 m a1) k
  obtain ⟨T1, X1, e1, st1⟩ := getF X0 hx hZ hown (host := "") (Or.inl (hw _ (List.mem_of_getElem? (i := 13) rfl))) Via.refl e0 F0 (g := (mkF m 1 #[.val (.ref a1)] [(.ref a1)])) rfl rfl (hb hby own_d_prog_7_method_6_1)
  have pre2 : ∀ t, Steps p.tables e below (T1.setTop (mkF m 12 #[.val (.ref a1)] [(.int (0 : Int32))])) t → Steps p.tables e below (s₁.setTop (entryFrame m #[(.ref a1)] 1)) t := by
    intro t kt
    refine pre0 t ?_
    show Steps p.tables e below (s₁.setTop (mkF m 0 #[.val (.ref a1)] [])) _
    refine XS.aloadN X0.here hx rfl (hb hby own_d_prog_7_method_6_0) rfl rfl ?_
    show Steps p.tables e below (s₁.setTop (mkF m 1 #[.val (.ref a1)] [(.ref a1)])) _
    refine st1 _ ?_
    show Steps p.tables e below (T1.setTop (mkF m 4 #[.val (.ref a1)] [.null])) _
    refine XS.ifnullYes X1.here hx rfl (pc0 := 4) (pc' := 11) rfl (hb hby own_d_prog_7_method_6_4) rfl (by decide) (by decide) ?_
    show Steps p.tables e below (T1.setTop (mkF m 11 #[.val (.ref a1)] [])) _
    refine XS.iconst X1.here hx rfl (hb hby own_d_prog_7_method_6_11) ?_
    exact kt
  obtain ⟨fs, hr, hrun, hended, hW, hsame⟩ := X1.leave (v := some (.int (0 : Int32))) (fun h => by rw [Bd.returns] at h; cases h)
  refine ⟨_, _, pre2 _ ?_, hrun, hended, _, _, rfl, ?_, ⟨_, rfl⟩, hW, hsame.mono (by decide) (by decide)⟩
  · show Steps p.tables e below (T1.setTop (mkF m 12 #[.val (.ref a1)] [(.int (0 : Int32))])) _
    exact retN X1 hx (t := .boolean) Bd.returns (by simp) (hb hby own_d_prog_7_method_6_12) hr
  · show own_Q_is0 Z a1 h0 n0 (some (.int (0 : Int32))) T1.heap _
    rw [e1]
    exact ⟨rfl, N0, rfl⟩
theorem own_ef_is1 (m : MethodId) (a1 : Addr) : entryFrame m #[(.ref a1)] 1 = mkF m 0 #[.val (.ref a1)] [] := by first | (simp [entryFrame, mkF, argsToLocals, Value.category]; done) | rfl
def own_Q_is1 (Z : State) (a1 : Addr) (b1 : Addr) (h0 : Heap) (n0 : Nat) (v : Option Value) (h : Heap) (L : List Loc) : Prop := v = some (.int 1) ∧ Fr n0 L ∧ h = h0
set_option maxRecDepth 65536 in
set_option maxHeartbeats 40000000 in
theorem own_rm_is1 (l : Launch) (Z : State) (a0 : Array Value) (hw : ∀ d ∈ tables_1, d.before a0 Z = true) (ws : List Jvm.Cond) (a1 : Addr) (b1 : Addr) (h0 : Heap) (n0 : Nat) (Z0 : n0 ≤ h0.size) (F0 : Fld Z h0 a1 "com/example/idlwright/idlwright/model/BaseKind" "minimum" "Ljava/math/BigInteger;" (.ref b1)) :
    MetFree l (⟨"com/example/idlwright/idlwright/model/BaseKind", "isInteger", "()Z"⟩ : MethodName) (head1 (Jvm.Cond.code (⟨"com/example/idlwright/idlwright/model/BaseKind", "isInteger", "()Z"⟩ : MethodName) prog_7_method_6_code 1 (some .boolean) :: ws) ({ frames := 0, cells := 0, slots := 0, locals := 0 } : Room)) (fun a U => a = #[(.ref a1)] ∧ Z.Warmed39 U.vm ∧ U.heap = h0) (fun _ _ _ _ _ => True) (fun _ U o U' => ∃ v L, o = .returned v ∧ own_Q_is1 Z a1 b1 h0 n0 v U'.heap L ∧ FrameEnd U o U' L ({ frames := 0, cells := 0, slots := 0, locals := 0 } : Room).cells ({ frames := 0, cells := 0, slots := 0, locals := 0 } : Room).slots) := by
  refine MetFree.of_bodySF (plainFor_of_name own_pn1) hisR ?_
  intro p e s m args below meth c s₁ Bd hml0 hP hK
  obtain ⟨rfl, hZ, hh⟩ := hP
  have hx := Bd.exec
  have hby := Bd.bytes
  have hml : c.maxLocals = 1 := hml0
  have hown : s.vm.findClass "com/example/idlwright/idlwright/model/BaseKind" = some m.cls := findClass_of_methodNamed Bd.named
  have hnm := (name_of_methodNamed Bd.named Bd.method).1
  have X0 : Stand p l e ({ frames := 0, cells := 0, slots := 0, locals := 0 } : Room) s m #[(.ref a1)] below meth c s₁ [] 0 0 := Stand.of_body Bd
  have e0 : s₁.heap = h0 := by rw [← hh, Bd.state]; rfl
  have N0 := Fr.nil n0
  have K0 : Keep h0 h0 [] := Keep.refl _ _
  have pre0 : ∀ t, Steps p.tables e below (s₁.setTop (mkF m 0 #[.val (.ref a1)] [])) t → Steps p.tables e below (s₁.setTop (entryFrame m #[(.ref a1)] 1)) t := fun t k => castTop (own_ef_is1 m a1) k
  obtain ⟨T1, X1, e1, st1⟩ := getF X0 hx hZ hown (host := "") (Or.inl (hw _ (List.mem_of_getElem? (i := 13) rfl))) Via.refl e0 F0 (g := (mkF m 1 #[.val (.ref a1)] [(.ref a1)])) rfl rfl (hb hby own_d_prog_7_method_6_1)
  have pre2 : ∀ t, Steps p.tables e below (T1.setTop (mkF m 12 #[.val (.ref a1)] [(.int (1 : Int32))])) t → Steps p.tables e below (s₁.setTop (entryFrame m #[(.ref a1)] 1)) t := by
    intro t kt
    refine pre0 t ?_
    show Steps p.tables e below (s₁.setTop (mkF m 0 #[.val (.ref a1)] [])) _
    refine XS.aloadN X0.here hx rfl (hb hby own_d_prog_7_method_6_0) rfl rfl ?_
    show Steps p.tables e below (s₁.setTop (mkF m 1 #[.val (.ref a1)] [(.ref a1)])) _
    refine st1 _ ?_
    show Steps p.tables e below (T1.setTop (mkF m 4 #[.val (.ref a1)] [(.ref b1)])) _
    refine XS.ifnullNo X1.here hx rfl (hb hby own_d_prog_7_method_6_4) rfl ?_
    show Steps p.tables e below (T1.setTop (mkF m 7 #[.val (.ref a1)] [])) _
    refine XS.iconst X1.here hx rfl (hb hby own_d_prog_7_method_6_7) ?_
    show Steps p.tables e below (T1.setTop (mkF m 8 #[.val (.ref a1)] [(.int (1 : Int32))])) _
    refine XS.goto X1.here hx rfl (pc0 := 8) (pc' := 12) rfl (hb hby own_d_prog_7_method_6_8) (by decide) (by decide) ?_
    exact kt
  obtain ⟨fs, hr, hrun, hended, hW, hsame⟩ := X1.leave (v := some (.int (1 : Int32))) (fun h => by rw [Bd.returns] at h; cases h)
  refine ⟨_, _, pre2 _ ?_, hrun, hended, _, _, rfl, ?_, ⟨_, rfl⟩, hW, hsame.mono (by decide) (by decide)⟩
  · show Steps p.tables e below (T1.setTop (mkF m 12 #[.val (.ref a1)] [(.int (1 : Int32))])) _
    exact retN X1 hx (t := .boolean) Bd.returns (by simp) (hb hby own_d_prog_7_method_6_12) hr
  · show own_Q_is1 Z a1 b1 h0 n0 (some (.int (1 : Int32))) T1.heap _
    rw [e1]
    exact ⟨rfl, N0, rfl⟩
theorem own_pd0 : parseMethodDescriptor "(I)Lcom/example/idlwright/idlwright/model/BaseKind;" = some ⟨[.int], some (.object "com/example/idlwright/idlwright/model/BaseKind")⟩ := by decide +kernel
theorem own_pd1 : parseMethodDescriptor "()Z" = some ⟨[], some .boolean⟩ := by decide +kernel
theorem own_ef_law (m : MethodId) (p0 : Int32) : entryFrame m #[(.int p0)] maxLocals = mkF m 0 #[.val (.int p0), .unset, .unset, .unset] [] := by first | (simp [entryFrame, mkF, argsToLocals, Value.category, maxLocals]; done) | rfl
def own_Q_law (Z : State) (p0 : Int32) (g : Nat → Addr) (h0 : Heap) (n0 : Nat) (v : Option Value) (h : Heap) (L : List Loc) : Prop := v = some (.int 1) ∧ Fr n0 L
set_option maxRecDepth 65536 in
set_option maxHeartbeats 40000000 in
theorem own_rm_law (l : Launch) (Z : State) (a0 : Array Value) (hw : ∀ d ∈ tables_1, d.before a0 Z = true) (ws : List Jvm.Cond) (p0 : Int32) (g : Nat → Addr) (h0 : Heap) (n0 : Nat) (Z0 : n0 ≤ h0.size) (S0 : Sta Z h0 "com/example/idlwright/idlwright/model/BaseKind" "NIL" "Lcom/example/idlwright/idlwright/model/BaseKind;" (.ref (g 0))) (S1 : Sta Z h0 "com/example/idlwright/idlwright/model/BaseKind" "BOOL" "Lcom/example/idlwright/idlwright/model/BaseKind;" (.ref (g 1))) (S2 : Sta Z h0 "com/example/idlwright/idlwright/model/BaseKind" "CHAR" "Lcom/example/idlwright/idlwright/model/BaseKind;" (.ref (g 2))) (S3 : Sta Z h0 "com/example/idlwright/idlwright/model/BaseKind" "WCHAR" "Lcom/example/idlwright/idlwright/model/BaseKind;" (.ref (g 3))) (S4 : Sta Z h0 "com/example/idlwright/idlwright/model/BaseKind" "I8" "Lcom/example/idlwright/idlwright/model/BaseKind;" (.ref (g 4))) (S5 : Sta Z h0 "com/example/idlwright/idlwright/model/BaseKind" "U8" "Lcom/example/idlwright/idlwright/model/BaseKind;" (.ref (g 5))) (S6 : Sta Z h0 "com/example/idlwright/idlwright/model/BaseKind" "I16" "Lcom/example/idlwright/idlwright/model/BaseKind;" (.ref (g 6))) (S7 : Sta Z h0 "com/example/idlwright/idlwright/model/BaseKind" "U16" "Lcom/example/idlwright/idlwright/model/BaseKind;" (.ref (g 7))) (S8 : Sta Z h0 "com/example/idlwright/idlwright/model/BaseKind" "I32" "Lcom/example/idlwright/idlwright/model/BaseKind;" (.ref (g 8))) (S9 : Sta Z h0 "com/example/idlwright/idlwright/model/BaseKind" "U32" "Lcom/example/idlwright/idlwright/model/BaseKind;" (.ref (g 9))) (S10 : Sta Z h0 "com/example/idlwright/idlwright/model/BaseKind" "I64" "Lcom/example/idlwright/idlwright/model/BaseKind;" (.ref (g 10))) (S11 : Sta Z h0 "com/example/idlwright/idlwright/model/BaseKind" "U64" "Lcom/example/idlwright/idlwright/model/BaseKind;" (.ref (g 11))) (S12 : Sta Z h0 "com/example/idlwright/idlwright/model/BaseKind" "F32" "Lcom/example/idlwright/idlwright/model/BaseKind;" (.ref (g 12))) (S13 : Sta Z h0 "com/example/idlwright/idlwright/model/BaseKind" "F64" "Lcom/example/idlwright/idlwright/model/BaseKind;" (.ref (g 13))) (S14 : Sta Z h0 "com/example/idlwright/idlwright/model/BaseKind" "F128" "Lcom/example/idlwright/idlwright/model/BaseKind;" (.ref (g 14))) (S15 : Sta Z h0 "com/example/idlwright/idlwright/model/BaseKind" "STRING" "Lcom/example/idlwright/idlwright/model/BaseKind;" (.ref (g 15))) (S16 : Sta Z h0 "com/example/idlwright/idlwright/model/BaseKind" "WSTRING" "Lcom/example/idlwright/idlwright/model/BaseKind;" (.ref (g 16))) (S17 : Sta Z h0 "com/example/idlwright/idlwright/model/BaseKind" "BINARY" "Lcom/example/idlwright/idlwright/model/BaseKind;" (.ref (g 17))) (hE : ∀ i, Exa Z h0 (g i) "com/example/idlwright/idlwright/model/BaseKind") (hN : ∀ i, ¬ (4 ≤ i ∧ i ≤ 11) → Fld Z h0 (g i) "com/example/idlwright/idlwright/model/BaseKind" "minimum" "Ljava/math/BigInteger;" .null) (hR : ∀ i, (4 ≤ i ∧ i ≤ 11) → ∃ b, Fld Z h0 (g i) "com/example/idlwright/idlwright/model/BaseKind" "minimum" "Ljava/math/BigInteger;" (.ref b)) :
    MetFree l x (head1 (Jvm.Cond.code x code maxLocals ret :: ws) room_1) (fun a U => a = #[(.int p0)] ∧ Z.Warmed39 U.vm ∧ U.heap = h0) (fun _ _ _ _ _ => True) (fun _ U o U' => ∃ v L, o = .returned v ∧ own_Q_law Z p0 g h0 n0 v U'.heap L ∧ FrameEnd U o U' L room_1.cells room_1.slots) := by
  refine MetFree.of_bodySF (plainFor_of_name own_pn0) hisR ?_
  intro p e s m args below meth c s₁ Bd hml0 hP hK
  obtain ⟨rfl, hZ, hh⟩ := hP
  have hx := Bd.exec
  have hby := Bd.bytes
  have hml : c.maxLocals = 4 := hml0
  have hown : s.vm.findClass "com/example/idlwright/idlwright/model/BaseKindIsIntegerPinLaw" = some m.cls := findClass_of_methodNamed Bd.named
  have hnm := (name_of_methodNamed Bd.named Bd.method).1
  have X0 : Stand p l e room_1 s m #[(.int p0)] below meth c s₁ [] 0 0 := Stand.of_body Bd
  have e0 : s₁.heap = h0 := by rw [← hh, Bd.state]; rfl
  have N0 := Fr.nil n0
  have K0 : Keep h0 h0 [] := Keep.refl _ _
  have pre0 : ∀ t, Steps p.tables e below (s₁.setTop (mkF m 0 #[.val (.int p0), .unset, .unset, .unset] [])) t → Steps p.tables e below (s₁.setTop (entryFrame m #[(.int p0)] maxLocals)) t := fun t k => castTop (own_ef_law m p0) k
  have zs1 : n0 ≤ h0.size := Nat.le_trans Z0 K0.1
  obtain ⟨_, _, ⟨T2, L2, k2, n2⟩, -, X2, ⟨Lc2, hQ2, l2, y2, z2⟩, st2⟩ := Jvm.LawKit.callS X0 hx (y := (⟨"com/example/idlwright/idlwright/model/BaseKindIsIntegerPinLaw", "kindOf", "(I)Lcom/example/idlwright/idlwright/model/BaseKind;"⟩ : MethodName)) hown (mvT hZ (hw _ (List.mem_of_getElem? (i := 1) rfl))) (mvT hZ (hw _ (List.mem_of_getElem? (i := 2) rfl))) (mvT hZ (hw _ (List.mem_of_getElem? (i := 3) rfl))) (mvT hZ (hw _ (List.mem_of_getElem? (i := 4) rfl))) (by decide) (backOf (W := 0) (own_rm_kind l Z a0 hw [] ((p0 &&& (2147483647 : Int32)) % (18 : Int32)) g h0 n0 zs1 S0 S1 S2 S3 S4 S5 S6 S7 S8 S9 S10 S11 S12 S13 S14 S15 S16 S17) hZ (hw _ (List.mem_of_getElem? (i := 4) rfl)) (hw _ (List.mem_of_getElem? (i := 3) rfl)) (by decide) (by decide)) (g := (mkF m 9 #[.val (.int p0), .val (.int ((p0 &&& (2147483647 : Int32)) % (18 : Int32))), .unset, .unset] [(.int ((p0 &&& (2147483647 : Int32)) % (18 : Int32)))])) rfl (by rw [hml]; rfl) (argsL := [(.int ((p0 &&& (2147483647 : Int32)) % (18 : Int32)))]) (rest := []) (lenOf own_pd0 rfl) rfl (by show 2 * 0 + _ ≤ _; exact Nat.le_of_eq rfl) (hb hby at_9) (fun _ _ => ⟨rfl, e0, (by decide : 0 + 0 ≤ _), (by decide : 0 + 0 ≤ _)⟩)
  dsimp only [Pt.U, Pt.locs, Pt.cells, Pt.slots] at X2 l2 y2 z2 st2 hQ2
  rw [l2, (y2 : k2 = 0), (z2 : n2 = 0)] at X2
  clear l2 y2 z2
  obtain ⟨rfl, N3, eq3⟩ := hQ2
  have nf4 := Fr.app N0 N3
  have pre5 : ∀ t, Steps p.tables e below (T2.setTop (mkF m 15 #[.val (.int p0), .val (.int ((p0 &&& (2147483647 : Int32)) % (18 : Int32))), .val (.ref (g (own_ix ((p0 &&& (2147483647 : Int32)) % (18 : Int32))))), .unset] [(.int (4 : Int32)), (.int ((p0 &&& (2147483647 : Int32)) % (18 : Int32)))])) t → Steps p.tables e below (s₁.setTop (entryFrame m #[(.int p0)] maxLocals)) t := by
    intro t kt
    refine pre0 t ?_
    show Steps p.tables e below (s₁.setTop (mkF m 0 #[.val (.int p0), .unset, .unset, .unset] [])) _
    refine XS.iloadN X0.here hx rfl (hb hby at_0) rfl ?_
    show Steps p.tables e below (s₁.setTop (mkF m 1 #[.val (.int p0), .unset, .unset, .unset] [(.int p0)])) _
    refine X0.ldcI hx hown (mvT hZ (hw _ (List.mem_of_getElem? (i := 0) rfl))) (g := (mkF m 1 #[.val (.int p0), .unset, .unset, .unset] [(.int p0)])) rfl (hb hby at_1) ?_
    show Steps p.tables e below (s₁.setTop (mkF m 3 #[.val (.int p0), .unset, .unset, .unset] [(.int (2147483647 : Int32)), (.int p0)])) _
    refine XS.iand X0.here hx rfl (hb hby at_3) rfl ?_
    show Steps p.tables e below (s₁.setTop (mkF m 4 #[.val (.int p0), .unset, .unset, .unset] [(.int (p0 &&& (2147483647 : Int32)))])) _
    refine XS.bipush X0.here hx rfl (hb hby at_4) ?_
    show Steps p.tables e below (s₁.setTop (mkF m 6 #[.val (.int p0), .unset, .unset, .unset] [(.int (18 : Int32)), (.int (p0 &&& (2147483647 : Int32)))])) _
    refine iremM X0 hx rfl (hb hby at_6) rfl (by decide) ?_
    show Steps p.tables e below (s₁.setTop (mkF m 7 #[.val (.int p0), .unset, .unset, .unset] [(.int ((p0 &&& (2147483647 : Int32)) % (18 : Int32)))])) _
    refine XS.istoreN X0.here hx rfl (hb hby at_7) rfl (l' := #[.val (.int p0), .val (.int ((p0 &&& (2147483647 : Int32)) % (18 : Int32))), .unset, .unset]) rfl ?_
    show Steps p.tables e below (s₁.setTop (mkF m 8 #[.val (.int p0), .val (.int ((p0 &&& (2147483647 : Int32)) % (18 : Int32))), .unset, .unset] [])) _
    refine XS.iloadN X0.here hx rfl (hb hby at_8) rfl ?_
    show Steps p.tables e below (s₁.setTop (mkF m 9 #[.val (.int p0), .val (.int ((p0 &&& (2147483647 : Int32)) % (18 : Int32))), .unset, .unset] [(.int ((p0 &&& (2147483647 : Int32)) % (18 : Int32)))])) _
    refine st2 _ ?_
    show Steps p.tables e below (T2.setTop (mkF m 12 #[.val (.int p0), .val (.int ((p0 &&& (2147483647 : Int32)) % (18 : Int32))), .unset, .unset] [(.ref (g (own_ix ((p0 &&& (2147483647 : Int32)) % (18 : Int32)))))])) _
    refine XS.astoreN X2.here hx rfl (hb hby at_12) rfl rfl (l' := #[.val (.int p0), .val (.int ((p0 &&& (2147483647 : Int32)) % (18 : Int32))), .val (.ref (g (own_ix ((p0 &&& (2147483647 : Int32)) % (18 : Int32))))), .unset]) rfl ?_
    show Steps p.tables e below (T2.setTop (mkF m 13 #[.val (.int p0), .val (.int ((p0 &&& (2147483647 : Int32)) % (18 : Int32))), .val (.ref (g (own_ix ((p0 &&& (2147483647 : Int32)) % (18 : Int32))))), .unset] [])) _
    refine XS.iloadN X2.here hx rfl (hb hby at_13) rfl ?_
    show Steps p.tables e below (T2.setTop (mkF m 14 #[.val (.int p0), .val (.int ((p0 &&& (2147483647 : Int32)) % (18 : Int32))), .val (.ref (g (own_ix ((p0 &&& (2147483647 : Int32)) % (18 : Int32))))), .unset] [(.int ((p0 &&& (2147483647 : Int32)) % (18 : Int32)))])) _
    refine XS.iconst X2.here hx rfl (hb hby at_14) ?_
    exact kt
  by_cases hc6 : ((p0 &&& (2147483647 : Int32)) % (18 : Int32)) < (4 : Int32)
  · have zs7 : n0 ≤ h0.size := Nat.le_trans Z0 K0.1
    obtain ⟨cq9, kq9, q9a, q9b, q9c⟩ := isOf hZ eq3 (hE (own_ix ((p0 &&& (2147483647 : Int32)) % (18 : Int32))))
    obtain ⟨_, _, ⟨T8, L8, k8, n8⟩, -, X8, ⟨Lc8, hQ8, l8, y8, z8⟩, st8⟩ := X2.virtualBack hx (y := (⟨"com/example/idlwright/idlwright/model/BaseKind", "isInteger", "()Z"⟩ : MethodName)) (z := (⟨"com/example/idlwright/idlwright/model/BaseKind", "isInteger", "()Z"⟩ : MethodName)) hown (mvT hZ (hw _ (List.mem_of_getElem? (i := 8) rfl))) (mvT hZ (hw _ (List.mem_of_getElem? (i := 9) rfl))) (notFace_of_selects (args := #[]) (mvT hZ (hw _ (List.mem_of_getElem? (i := 11) rfl)))) (mvT hZ (hw _ (List.mem_of_getElem? (i := 11) rfl))) (mvT hZ (hw _ (List.mem_of_getElem? (i := 10) rfl))) (by decide) (backOf (W := 0) (own_rm_is0 l Z a0 hw [] (g (own_ix ((p0 &&& (2147483647 : Int32)) % (18 : Int32)))) h0 n0 zs7 (hN _ (own_lo (own_kr p0).1 (own_kr p0).2 hc6))) hZ (hw _ (List.mem_of_getElem? (i := 12) rfl)) (hw _ (List.mem_of_getElem? (i := 6) rfl)) (by decide) (by decide)) q9a q9c (g := (mkF m 31 #[.val (.int p0), .val (.int ((p0 &&& (2147483647 : Int32)) % (18 : Int32))), .val (.ref (g (own_ix ((p0 &&& (2147483647 : Int32)) % (18 : Int32))))), .val (.int (0 : Int32))] [(.ref (g (own_ix ((p0 &&& (2147483647 : Int32)) % (18 : Int32)))))])) rfl (by rw [hml]; rfl) (Steps.refl _) (argsL := []) (rest := []) (lenOf own_pd1 rfl) rfl (by show 2 * 0 + _ ≤ _; exact Nat.le_of_eq rfl) (hb hby at_31) (fun _ _ => ⟨rfl, eq3, (by decide : 0 + 0 ≤ _), (by decide : 0 + 0 ≤ _)⟩)
    dsimp only [Pt.U, Pt.locs, Pt.cells, Pt.slots] at X8 l8 y8 z8 st8 hQ8
    rw [l8, (y8 : k8 = 0), (z8 : n8 = 0)] at X8
    clear l8 y8 z8
    obtain ⟨rfl, N10, eq10⟩ := hQ8
    have nf11 := Fr.app nf4 N10
    have pre12 : ∀ t, Steps p.tables e below (T8.setTop (mkF m 43 #[.val (.int p0), .val (.int ((p0 &&& (2147483647 : Int32)) % (18 : Int32))), .val (.ref (g (own_ix ((p0 &&& (2147483647 : Int32)) % (18 : Int32))))), .val (.int (0 : Int32))] [(.int (1 : Int32))])) t → Steps p.tables e below (s₁.setTop (entryFrame m #[(.int p0)] maxLocals)) t := by
      intro t kt
      refine pre5 t ?_
      show Steps p.tables e below (T2.setTop (mkF m 15 #[.val (.int p0), .val (.int ((p0 &&& (2147483647 : Int32)) % (18 : Int32))), .val (.ref (g (own_ix ((p0 &&& (2147483647 : Int32)) % (18 : Int32))))), .unset] [(.int (4 : Int32)), (.int ((p0 &&& (2147483647 : Int32)) % (18 : Int32)))])) _
      refine XS.icmpYes X2.here hx rfl (pc0 := 15) (pc' := 28) rfl (hb hby at_15) rfl (tlt hc6).1 (by decide) (by decide) ?_
      show Steps p.tables e below (T2.setTop (mkF m 28 #[.val (.int p0), .val (.int ((p0 &&& (2147483647 : Int32)) % (18 : Int32))), .val (.ref (g (own_ix ((p0 &&& (2147483647 : Int32)) % (18 : Int32))))), .unset] [])) _
      refine XS.iconst X2.here hx rfl (hb hby at_28) ?_
      show Steps p.tables e below (T2.setTop (mkF m 29 #[.val (.int p0), .val (.int ((p0 &&& (2147483647 : Int32)) % (18 : Int32))), .val (.ref (g (own_ix ((p0 &&& (2147483647 : Int32)) % (18 : Int32))))), .unset] [(.int (0 : Int32))])) _
      refine XS.istoreN X2.here hx rfl (hb hby at_29) rfl (l' := #[.val (.int p0), .val (.int ((p0 &&& (2147483647 : Int32)) % (18 : Int32))), .val (.ref (g (own_ix ((p0 &&& (2147483647 : Int32)) % (18 : Int32))))), .val (.int (0 : Int32))]) rfl ?_
      show Steps p.tables e below (T2.setTop (mkF m 30 #[.val (.int p0), .val (.int ((p0 &&& (2147483647 : Int32)) % (18 : Int32))), .val (.ref (g (own_ix ((p0 &&& (2147483647 : Int32)) % (18 : Int32))))), .val (.int (0 : Int32))] [])) _
      refine XS.aloadN X2.here hx rfl (hb hby at_30) rfl rfl ?_
      show Steps p.tables e below (T2.setTop (mkF m 31 #[.val (.int p0), .val (.int ((p0 &&& (2147483647 : Int32)) % (18 : Int32))), .val (.ref (g (own_ix ((p0 &&& (2147483647 : Int32)) % (18 : Int32))))), .val (.int (0 : Int32))] [(.ref (g (own_ix ((p0 &&& (2147483647 : Int32)) % (18 : Int32)))))])) _
      refine st8.trans ?_
      show Steps p.tables e below (T8.setTop (mkF m 34 #[.val (.int p0), .val (.int ((p0 &&& (2147483647 : Int32)) % (18 : Int32))), .val (.ref (g (own_ix ((p0 &&& (2147483647 : Int32)) % (18 : Int32))))), .val (.int (0 : Int32))] [(.int (0 : Int32))])) _
      refine XS.iloadN X8.here hx rfl (hb hby at_34) rfl ?_
      show Steps p.tables e below (T8.setTop (mkF m 35 #[.val (.int p0), .val (.int ((p0 &&& (2147483647 : Int32)) % (18 : Int32))), .val (.ref (g (own_ix ((p0 &&& (2147483647 : Int32)) % (18 : Int32))))), .val (.int (0 : Int32))] [(.int (0 : Int32)), (.int (0 : Int32))])) _
      refine XS.icmpNo X8.here hx rfl (hb hby at_35) rfl (teq (rfl : (0 : Int32) = (0 : Int32))).2 ?_
      show Steps p.tables e below (T8.setTop (mkF m 38 #[.val (.int p0), .val (.int ((p0 &&& (2147483647 : Int32)) % (18 : Int32))), .val (.ref (g (own_ix ((p0 &&& (2147483647 : Int32)) % (18 : Int32))))), .val (.int (0 : Int32))] [])) _
      refine XS.iconst X8.here hx rfl (hb hby at_38) ?_
      show Steps p.tables e below (T8.setTop (mkF m 39 #[.val (.int p0), .val (.int ((p0 &&& (2147483647 : Int32)) % (18 : Int32))), .val (.ref (g (own_ix ((p0 &&& (2147483647 : Int32)) % (18 : Int32))))), .val (.int (0 : Int32))] [(.int (1 : Int32))])) _
      refine XS.goto X8.here hx rfl (pc0 := 39) (pc' := 43) rfl (hb hby at_39) (by decide) (by decide) ?_
      exact kt
    obtain ⟨fs, hr, hrun, hended, hW, hsame⟩ := X8.leave (v := some (.int (1 : Int32))) (fun h => by rw [Bd.returns] at h; cases h)
    refine ⟨_, _, pre12 _ ?_, hrun, hended, _, _, rfl, ?_, ⟨_, rfl⟩, hW, hsame.mono (by decide) (by decide)⟩
    · show Steps p.tables e below (T8.setTop (mkF m 43 #[.val (.int p0), .val (.int ((p0 &&& (2147483647 : Int32)) % (18 : Int32))), .val (.ref (g (own_ix ((p0 &&& (2147483647 : Int32)) % (18 : Int32))))), .val (.int (0 : Int32))] [(.int (1 : Int32))])) _
      exact retN X8 hx (t := .boolean) Bd.returns (by simp) (hb hby at_43) hr
    · show own_Q_law Z p0 g h0 n0 (some (.int (1 : Int32))) T8.heap _
      rw [eq10]
      exact ⟨rfl, nf11⟩
  · have pre13 : ∀ t, Steps p.tables e below (T2.setTop (mkF m 21 #[.val (.int p0), .val (.int ((p0 &&& (2147483647 : Int32)) % (18 : Int32))), .val (.ref (g (own_ix ((p0 &&& (2147483647 : Int32)) % (18 : Int32))))), .unset] [(.int (11 : Int32)), (.int ((p0 &&& (2147483647 : Int32)) % (18 : Int32)))])) t → Steps p.tables e below (s₁.setTop (entryFrame m #[(.int p0)] maxLocals)) t := by
      intro t kt
      refine pre5 t ?_
      show Steps p.tables e below (T2.setTop (mkF m 15 #[.val (.int p0), .val (.int ((p0 &&& (2147483647 : Int32)) % (18 : Int32))), .val (.ref (g (own_ix ((p0 &&& (2147483647 : Int32)) % (18 : Int32))))), .unset] [(.int (4 : Int32)), (.int ((p0 &&& (2147483647 : Int32)) % (18 : Int32)))])) _
      refine XS.icmpNo X2.here hx rfl (hb hby at_15) rfl (flt hc6).1 ?_
      show Steps p.tables e below (T2.setTop (mkF m 18 #[.val (.int p0), .val (.int ((p0 &&& (2147483647 : Int32)) % (18 : Int32))), .val (.ref (g (own_ix ((p0 &&& (2147483647 : Int32)) % (18 : Int32))))), .unset] [])) _
      refine XS.iloadN X2.here hx rfl (hb hby at_18) rfl ?_
      show Steps p.tables e below (T2.setTop (mkF m 19 #[.val (.int p0), .val (.int ((p0 &&& (2147483647 : Int32)) % (18 : Int32))), .val (.ref (g (own_ix ((p0 &&& (2147483647 : Int32)) % (18 : Int32))))), .unset] [(.int ((p0 &&& (2147483647 : Int32)) % (18 : Int32)))])) _
      refine XS.bipush X2.here hx rfl (hb hby at_19) ?_
      exact kt
    by_cases hc14 : (11 : Int32) < ((p0 &&& (2147483647 : Int32)) % (18 : Int32))
    · have zs15 : n0 ≤ h0.size := Nat.le_trans Z0 K0.1
      obtain ⟨cq17, kq17, q17a, q17b, q17c⟩ := isOf hZ eq3 (hE (own_ix ((p0 &&& (2147483647 : Int32)) % (18 : Int32))))
      obtain ⟨_, _, ⟨T16, L16, k16, n16⟩, -, X16, ⟨Lc16, hQ16, l16, y16, z16⟩, st16⟩ := X2.virtualBack hx (y := (⟨"com/example/idlwright/idlwright/model/BaseKind", "isInteger", "()Z"⟩ : MethodName)) (z := (⟨"com/example/idlwright/idlwright/model/BaseKind", "isInteger", "()Z"⟩ : MethodName)) hown (mvT hZ (hw _ (List.mem_of_getElem? (i := 8) rfl))) (mvT hZ (hw _ (List.mem_of_getElem? (i := 9) rfl))) (notFace_of_selects (args := #[]) (mvT hZ (hw _ (List.mem_of_getElem? (i := 11) rfl)))) (mvT hZ (hw _ (List.mem_of_getElem? (i := 11) rfl))) (mvT hZ (hw _ (List.mem_of_getElem? (i := 10) rfl))) (by decide) (backOf (W := 0) (own_rm_is0 l Z a0 hw [] (g (own_ix ((p0 &&& (2147483647 : Int32)) % (18 : Int32)))) h0 n0 zs15 (hN _ (own_hi (own_kr p0).1 (own_kr p0).2 hc14))) hZ (hw _ (List.mem_of_getElem? (i := 12) rfl)) (hw _ (List.mem_of_getElem? (i := 6) rfl)) (by decide) (by decide)) q17a q17c (g := (mkF m 31 #[.val (.int p0), .val (.int ((p0 &&& (2147483647 : Int32)) % (18 : Int32))), .val (.ref (g (own_ix ((p0 &&& (2147483647 : Int32)) % (18 : Int32))))), .val (.int (0 : Int32))] [(.ref (g (own_ix ((p0 &&& (2147483647 : Int32)) % (18 : Int32)))))])) rfl (by rw [hml]; rfl) (Steps.refl _) (argsL := []) (rest := []) (lenOf own_pd1 rfl) rfl (by show 2 * 0 + _ ≤ _; exact Nat.le_of_eq rfl) (hb hby at_31) (fun _ _ => ⟨rfl, eq3, (by decide : 0 + 0 ≤ _), (by decide : 0 + 0 ≤ _)⟩)
      dsimp only [Pt.U, Pt.locs, Pt.cells, Pt.slots] at X16 l16 y16 z16 st16 hQ16
      rw [l16, (y16 : k16 = 0), (z16 : n16 = 0)] at X16
      clear l16 y16 z16
      obtain ⟨rfl, N18, eq18⟩ := hQ16
      have nf19 := Fr.app nf4 N18
      have pre20 : ∀ t, Steps p.tables e below (T16.setTop (mkF m 43 #[.val (.int p0), .val (.int ((p0 &&& (2147483647 : Int32)) % (18 : Int32))), .val (.ref (g (own_ix ((p0 &&& (2147483647 : Int32)) % (18 : Int32))))), .val (.int (0 : Int32))] [(.int (1 : Int32))])) t → Steps p.tables e below (s₁.setTop (entryFrame m #[(.int p0)] maxLocals)) t := by
        intro t kt
        refine pre13 t ?_
        show Steps p.tables e below (T2.setTop (mkF m 21 #[.val (.int p0), .val (.int ((p0 &&& (2147483647 : Int32)) % (18 : Int32))), .val (.ref (g (own_ix ((p0 &&& (2147483647 : Int32)) % (18 : Int32))))), .unset] [(.int (11 : Int32)), (.int ((p0 &&& (2147483647 : Int32)) % (18 : Int32)))])) _
        refine XS.icmpYes X2.here hx rfl (pc0 := 21) (pc' := 28) rfl (hb hby at_21) rfl (tlt hc14).2.2.1 (by decide) (by decide) ?_
        show Steps p.tables e below (T2.setTop (mkF m 28 #[.val (.int p0), .val (.int ((p0 &&& (2147483647 : Int32)) % (18 : Int32))), .val (.ref (g (own_ix ((p0 &&& (2147483647 : Int32)) % (18 : Int32))))), .unset] [])) _
        refine XS.iconst X2.here hx rfl (hb hby at_28) ?_
        show Steps p.tables e below (T2.setTop (mkF m 29 #[.val (.int p0), .val (.int ((p0 &&& (2147483647 : Int32)) % (18 : Int32))), .val (.ref (g (own_ix ((p0 &&& (2147483647 : Int32)) % (18 : Int32))))), .unset] [(.int (0 : Int32))])) _
        refine XS.istoreN X2.here hx rfl (hb hby at_29) rfl (l' := #[.val (.int p0), .val (.int ((p0 &&& (2147483647 : Int32)) % (18 : Int32))), .val (.ref (g (own_ix ((p0 &&& (2147483647 : Int32)) % (18 : Int32))))), .val (.int (0 : Int32))]) rfl ?_
        show Steps p.tables e below (T2.setTop (mkF m 30 #[.val (.int p0), .val (.int ((p0 &&& (2147483647 : Int32)) % (18 : Int32))), .val (.ref (g (own_ix ((p0 &&& (2147483647 : Int32)) % (18 : Int32))))), .val (.int (0 : Int32))] [])) _
        refine XS.aloadN X2.here hx rfl (hb hby at_30) rfl rfl ?_
        show Steps p.tables e below (T2.setTop (mkF m 31 #[.val (.int p0), .val (.int ((p0 &&& (2147483647 : Int32)) % (18 : Int32))), .val (.ref (g (own_ix ((p0 &&& (2147483647 : Int32)) % (18 : Int32))))), .val (.int (0 : Int32))] [(.ref (g (own_ix ((p0 &&& (2147483647 : Int32)) % (18 : Int32)))))])) _
        refine st16.trans ?_
        show Steps p.tables e below (T16.setTop (mkF m 34 #[.val (.int p0), .val (.int ((p0 &&& (2147483647 : Int32)) % (18 : Int32))), .val (.ref (g (own_ix ((p0 &&& (2147483647 : Int32)) % (18 : Int32))))), .val (.int (0 : Int32))] [(.int (0 : Int32))])) _
        refine XS.iloadN X16.here hx rfl (hb hby at_34) rfl ?_
        show Steps p.tables e below (T16.setTop (mkF m 35 #[.val (.int p0), .val (.int ((p0 &&& (2147483647 : Int32)) % (18 : Int32))), .val (.ref (g (own_ix ((p0 &&& (2147483647 : Int32)) % (18 : Int32))))), .val (.int (0 : Int32))] [(.int (0 : Int32)), (.int (0 : Int32))])) _
        refine XS.icmpNo X16.here hx rfl (hb hby at_35) rfl (teq (rfl : (0 : Int32) = (0 : Int32))).2 ?_
        show Steps p.tables e below (T16.setTop (mkF m 38 #[.val (.int p0), .val (.int ((p0 &&& (2147483647 : Int32)) % (18 : Int32))), .val (.ref (g (own_ix ((p0 &&& (2147483647 : Int32)) % (18 : Int32))))), .val (.int (0 : Int32))] [])) _
        refine XS.iconst X16.here hx rfl (hb hby at_38) ?_
        show Steps p.tables e below (T16.setTop (mkF m 39 #[.val (.int p0), .val (.int ((p0 &&& (2147483647 : Int32)) % (18 : Int32))), .val (.ref (g (own_ix ((p0 &&& (2147483647 : Int32)) % (18 : Int32))))), .val (.int (0 : Int32))] [(.int (1 : Int32))])) _
        refine XS.goto X16.here hx rfl (pc0 := 39) (pc' := 43) rfl (hb hby at_39) (by decide) (by decide) ?_
        exact kt
      obtain ⟨fs, hr, hrun, hended, hW, hsame⟩ := X16.leave (v := some (.int (1 : Int32))) (fun h => by rw [Bd.returns] at h; cases h)
      refine ⟨_, _, pre20 _ ?_, hrun, hended, _, _, rfl, ?_, ⟨_, rfl⟩, hW, hsame.mono (by decide) (by decide)⟩
      · show Steps p.tables e below (T16.setTop (mkF m 43 #[.val (.int p0), .val (.int ((p0 &&& (2147483647 : Int32)) % (18 : Int32))), .val (.ref (g (own_ix ((p0 &&& (2147483647 : Int32)) % (18 : Int32))))), .val (.int (0 : Int32))] [(.int (1 : Int32))])) _
        exact retN X16 hx (t := .boolean) Bd.returns (by simp) (hb hby at_43) hr
      · show own_Q_law Z p0 g h0 n0 (some (.int (1 : Int32))) T16.heap _
        rw [eq18]
        exact ⟨rfl, nf19⟩
    · obtain ⟨bb, hbb⟩ := hR _ (own_mid (own_kr p0).1 (own_kr p0).2 hc6 hc14)
      have zs21 : n0 ≤ h0.size := Nat.le_trans Z0 K0.1
      obtain ⟨cq23, kq23, q23a, q23b, q23c⟩ := isOf hZ eq3 (hE (own_ix ((p0 &&& (2147483647 : Int32)) % (18 : Int32))))
      obtain ⟨_, _, ⟨T22, L22, k22, n22⟩, -, X22, ⟨Lc22, hQ22, l22, y22, z22⟩, st22⟩ := X2.virtualBack hx (y := (⟨"com/example/idlwright/idlwright/model/BaseKind", "isInteger", "()Z"⟩ : MethodName)) (z := (⟨"com/example/idlwright/idlwright/model/BaseKind", "isInteger", "()Z"⟩ : MethodName)) hown (mvT hZ (hw _ (List.mem_of_getElem? (i := 8) rfl))) (mvT hZ (hw _ (List.mem_of_getElem? (i := 9) rfl))) (notFace_of_selects (args := #[]) (mvT hZ (hw _ (List.mem_of_getElem? (i := 11) rfl)))) (mvT hZ (hw _ (List.mem_of_getElem? (i := 11) rfl))) (mvT hZ (hw _ (List.mem_of_getElem? (i := 10) rfl))) (by decide) (backOf (W := 0) (own_rm_is1 l Z a0 hw [] (g (own_ix ((p0 &&& (2147483647 : Int32)) % (18 : Int32)))) bb h0 n0 zs21 hbb) hZ (hw _ (List.mem_of_getElem? (i := 12) rfl)) (hw _ (List.mem_of_getElem? (i := 6) rfl)) (by decide) (by decide)) q23a q23c (g := (mkF m 31 #[.val (.int p0), .val (.int ((p0 &&& (2147483647 : Int32)) % (18 : Int32))), .val (.ref (g (own_ix ((p0 &&& (2147483647 : Int32)) % (18 : Int32))))), .val (.int (1 : Int32))] [(.ref (g (own_ix ((p0 &&& (2147483647 : Int32)) % (18 : Int32)))))])) rfl (by rw [hml]; rfl) (Steps.refl _) (argsL := []) (rest := []) (lenOf own_pd1 rfl) rfl (by show 2 * 0 + _ ≤ _; exact Nat.le_of_eq rfl) (hb hby at_31) (fun _ _ => ⟨rfl, eq3, (by decide : 0 + 0 ≤ _), (by decide : 0 + 0 ≤ _)⟩)
      dsimp only [Pt.U, Pt.locs, Pt.cells, Pt.slots] at X22 l22 y22 z22 st22 hQ22
      rw [l22, (y22 : k22 = 0), (z22 : n22 = 0)] at X22
      clear l22 y22 z22
      obtain ⟨rfl, N24, eq24⟩ := hQ22
      have nf25 := Fr.app nf4 N24
      have pre26 : ∀ t, Steps p.tables e below (T22.setTop (mkF m 43 #[.val (.int p0), .val (.int ((p0 &&& (2147483647 : Int32)) % (18 : Int32))), .val (.ref (g (own_ix ((p0 &&& (2147483647 : Int32)) % (18 : Int32))))), .val (.int (1 : Int32))] [(.int (1 : Int32))])) t → Steps p.tables e below (s₁.setTop (entryFrame m #[(.int p0)] maxLocals)) t := by
        intro t kt
        refine pre13 t ?_
        show Steps p.tables e below (T2.setTop (mkF m 21 #[.val (.int p0), .val (.int ((p0 &&& (2147483647 : Int32)) % (18 : Int32))), .val (.ref (g (own_ix ((p0 &&& (2147483647 : Int32)) % (18 : Int32))))), .unset] [(.int (11 : Int32)), (.int ((p0 &&& (2147483647 : Int32)) % (18 : Int32)))])) _
        refine XS.icmpNo X2.here hx rfl (hb hby at_21) rfl (flt hc14).2.2.1 ?_
        show Steps p.tables e below (T2.setTop (mkF m 24 #[.val (.int p0), .val (.int ((p0 &&& (2147483647 : Int32)) % (18 : Int32))), .val (.ref (g (own_ix ((p0 &&& (2147483647 : Int32)) % (18 : Int32))))), .unset] [])) _
        refine XS.iconst X2.here hx rfl (hb hby at_24) ?_
        show Steps p.tables e below (T2.setTop (mkF m 25 #[.val (.int p0), .val (.int ((p0 &&& (2147483647 : Int32)) % (18 : Int32))), .val (.ref (g (own_ix ((p0 &&& (2147483647 : Int32)) % (18 : Int32))))), .unset] [(.int (1 : Int32))])) _
        refine XS.goto X2.here hx rfl (pc0 := 25) (pc' := 29) rfl (hb hby at_25) (by decide) (by decide) ?_
        show Steps p.tables e below (T2.setTop (mkF m 29 #[.val (.int p0), .val (.int ((p0 &&& (2147483647 : Int32)) % (18 : Int32))), .val (.ref (g (own_ix ((p0 &&& (2147483647 : Int32)) % (18 : Int32))))), .unset] [(.int (1 : Int32))])) _
        refine XS.istoreN X2.here hx rfl (hb hby at_29) rfl (l' := #[.val (.int p0), .val (.int ((p0 &&& (2147483647 : Int32)) % (18 : Int32))), .val (.ref (g (own_ix ((p0 &&& (2147483647 : Int32)) % (18 : Int32))))), .val (.int (1 : Int32))]) rfl ?_
        show Steps p.tables e below (T2.setTop (mkF m 30 #[.val (.int p0), .val (.int ((p0 &&& (2147483647 : Int32)) % (18 : Int32))), .val (.ref (g (own_ix ((p0 &&& (2147483647 : Int32)) % (18 : Int32))))), .val (.int (1 : Int32))] [])) _
        refine XS.aloadN X2.here hx rfl (hb hby at_30) rfl rfl ?_
        show Steps p.tables e below (T2.setTop (mkF m 31 #[.val (.int p0), .val (.int ((p0 &&& (2147483647 : Int32)) % (18 : Int32))), .val (.ref (g (own_ix ((p0 &&& (2147483647 : Int32)) % (18 : Int32))))), .val (.int (1 : Int32))] [(.ref (g (own_ix ((p0 &&& (2147483647 : Int32)) % (18 : Int32)))))])) _
        refine st22.trans ?_
        show Steps p.tables e below (T22.setTop (mkF m 34 #[.val (.int p0), .val (.int ((p0 &&& (2147483647 : Int32)) % (18 : Int32))), .val (.ref (g (own_ix ((p0 &&& (2147483647 : Int32)) % (18 : Int32))))), .val (.int (1 : Int32))] [(.int (1 : Int32))])) _
        refine XS.iloadN X22.here hx rfl (hb hby at_34) rfl ?_
        show Steps p.tables e below (T22.setTop (mkF m 35 #[.val (.int p0), .val (.int ((p0 &&& (2147483647 : Int32)) % (18 : Int32))), .val (.ref (g (own_ix ((p0 &&& (2147483647 : Int32)) % (18 : Int32))))), .val (.int (1 : Int32))] [(.int (1 : Int32)), (.int (1 : Int32))])) _
        refine XS.icmpNo X22.here hx rfl (hb hby at_35) rfl (teq (rfl : (1 : Int32) = (1 : Int32))).2 ?_
        show Steps p.tables e below (T22.setTop (mkF m 38 #[.val (.int p0), .val (.int ((p0 &&& (2147483647 : Int32)) % (18 : Int32))), .val (.ref (g (own_ix ((p0 &&& (2147483647 : Int32)) % (18 : Int32))))), .val (.int (1 : Int32))] [])) _
        refine XS.iconst X22.here hx rfl (hb hby at_38) ?_
        show Steps p.tables e below (T22.setTop (mkF m 39 #[.val (.int p0), .val (.int ((p0 &&& (2147483647 : Int32)) % (18 : Int32))), .val (.ref (g (own_ix ((p0 &&& (2147483647 : Int32)) % (18 : Int32))))), .val (.int (1 : Int32))] [(.int (1 : Int32))])) _
        refine XS.goto X22.here hx rfl (pc0 := 39) (pc' := 43) rfl (hb hby at_39) (by decide) (by decide) ?_
        exact kt
      obtain ⟨fs, hr, hrun, hended, hW, hsame⟩ := X22.leave (v := some (.int (1 : Int32))) (fun h => by rw [Bd.returns] at h; cases h)
      refine ⟨_, _, pre26 _ ?_, hrun, hended, _, _, rfl, ?_, ⟨_, rfl⟩, hW, hsame.mono (by decide) (by decide)⟩
      · show Steps p.tables e below (T22.setTop (mkF m 43 #[.val (.int p0), .val (.int ((p0 &&& (2147483647 : Int32)) % (18 : Int32))), .val (.ref (g (own_ix ((p0 &&& (2147483647 : Int32)) % (18 : Int32))))), .val (.int (1 : Int32))] [(.int (1 : Int32))])) _
        exact retN X22 hx (t := .boolean) Bd.returns (by simp) (hb hby at_43) hr
      · show own_Q_law Z p0 g h0 n0 (some (.int (1 : Int32))) T22.heap _
        rw [eq24]
        exact ⟨rfl, nf25⟩
set_option maxRecDepth 65536 in
set_option maxHeartbeats 40000000 in
theorem own_comes {Post : Tables → Env → Array Value → State → Outcome → State → Prop} (hpost : ∀ tb e args s v u, (limb_1_1.after args s (.returned v) u = true ∧ limb_1_2.after args s (.returned v) u = true ∧ True) → FrameEnd s (.returned v) u (Jvm.fieldLocs frame_1_writes args s ++ Jvm.arrayLocs frame_1_arrays args s ++ Jvm.staticLocs frame_1_statics s) 0 0 → Post tb e args s (.returned v) u) :
    ArmFor flags0 classFile x code maxLocals ret World_1 tables_1 room_1 Calls_1 rest_1 Pre_1 Post := by
  intro l hfl _ _ p e ha hc hk s m args below hf hA hF happ hP
  obtain ⟨hcalls, hrest, hpre⟩ := hP
  obtain ⟨-, -, -, hnamed, -, -, -, hat⟩ := (Spec.applies_iff hf).mp happ
  obtain ⟨hg, hn⟩ := and_e (Cond.before_iff.mp (show (Jvm.Cond.and given_1 narrow_1).before args s = true from hpre))
  obtain ⟨hcount, hq0⟩ := and_e hg
  have hi0 := hq0
  obtain ⟨w0, rfl⟩ : ∃ w0 : Value, args = #[w0] := by
    have hs : args.size = 1 := by simpa [Cond.value, given_1] using hcount
    obtain ⟨L⟩ := args
    match L, hs with
    | [w0], _ => exact ⟨w0, rfl⟩
  have hw := fun d (hd : d ∈ tables_1) => atoms_spec (ws := Jvm.Cond.code x code maxLocals ret :: tables_1) hat d (List.mem_cons_of_mem _ hd)
  have hfit : Fit s := fun {y c} hc i hi => by
    obtain ⟨ha, rfl⟩ := Array.getElem?_eq_some_iff.mp hc
    have q := List.all_eq_true.mp ((Array.all_eq_true_iff_forall_mem.mp hF) _ (Array.getElem_mem ha)) i (List.mem_range.mpr hi)
    simpa [Array.getElem?_eq_getElem hi] using q
  obtain ⟨i0, ei0⟩ := is_v hi0
  obtain rfl : w0 = (.int i0) := Option.some.inj ei0
  obtain ⟨c0, r0⟩ := and_e hn
  obtain ⟨c1, r1⟩ := and_e r0
  obtain ⟨c2, r2⟩ := and_e r1
  obtain ⟨c3, r3⟩ := and_e r2
  obtain ⟨c4, r4⟩ := and_e r3
  obtain ⟨c5, r5⟩ := and_e r4
  obtain ⟨c6, r6⟩ := and_e r5
  obtain ⟨c7, r7⟩ := and_e r6
  obtain ⟨c8, r8⟩ := and_e r7
  obtain ⟨c9, r9⟩ := and_e r8
  obtain ⟨c10, r10⟩ := and_e r9
  obtain ⟨c11, r11⟩ := and_e r10
  obtain ⟨c12, r12⟩ := and_e r11
  obtain ⟨c13, r13⟩ := and_e r12
  obtain ⟨c14, r14⟩ := and_e r13
  obtain ⟨c15, r15⟩ := and_e r14
  obtain ⟨c16, r16⟩ := and_e r15
  obtain ⟨c17, r17⟩ := and_e r16
  obtain ⟨c18, r18⟩ := and_e r17
  obtain ⟨c19, r19⟩ := and_e r18
  obtain ⟨c20, r20⟩ := and_e r19
  obtain ⟨c21, r21⟩ := and_e r20
  obtain ⟨c22, r22⟩ := and_e r21
  obtain ⟨c23, r23⟩ := and_e r22
  obtain ⟨c24, r24⟩ := and_e r23
  obtain ⟨c25, r25⟩ := and_e r24
  obtain ⟨c26, r26⟩ := and_e r25
  obtain ⟨c27, r27⟩ := and_e r26
  obtain ⟨c28, r28⟩ := and_e r27
  obtain ⟨c29, r29⟩ := and_e r28
  obtain ⟨c30, r30⟩ := and_e r29
  obtain ⟨c31, r31⟩ := and_e r30
  obtain ⟨c32, r32⟩ := and_e r31
  obtain ⟨c33, r33⟩ := and_e r32
  obtain ⟨c34, r34⟩ := and_e r33
  have c35 := r34
  obtain ⟨a0, ev0⟩ := exa_v c0
  have E0 := Exa.start ev0 c0
  have S0 := Sta.start ev0 (Or.inr ⟨(hw _ (List.mem_of_getElem? (i := 6) rfl)), (hw _ (List.mem_of_getElem? (i := 7) rfl))⟩)
  have F0 := own_fldN ev0 c1
  obtain ⟨a3, ev3⟩ := exa_v c2
  have E3 := Exa.start ev3 c2
  have S3 := Sta.start ev3 (Or.inr ⟨(hw _ (List.mem_of_getElem? (i := 6) rfl)), (hw _ (List.mem_of_getElem? (i := 16) rfl))⟩)
  have F3 := own_fldN ev3 c3
  obtain ⟨a2, ev2⟩ := exa_v c4
  have E2 := Exa.start ev2 c4
  have S2 := Sta.start ev2 (Or.inr ⟨(hw _ (List.mem_of_getElem? (i := 6) rfl)), (hw _ (List.mem_of_getElem? (i := 18) rfl))⟩)
  have F2 := own_fldN ev2 c5
  obtain ⟨a1, ev1⟩ := exa_v c6
  have E1 := Exa.start ev1 c6
  have S1 := Sta.start ev1 (Or.inr ⟨(hw _ (List.mem_of_getElem? (i := 6) rfl)), (hw _ (List.mem_of_getElem? (i := 20) rfl))⟩)
  have F1 := own_fldN ev1 c7
  obtain ⟨a7, ev7⟩ := exa_v c8
  have E7 := Exa.start ev7 c8
  have S7 := Sta.start ev7 (Or.inr ⟨(hw _ (List.mem_of_getElem? (i := 6) rfl)), (hw _ (List.mem_of_getElem? (i := 22) rfl))⟩)
  obtain ⟨b7, F7⟩ := own_fldR ev7 c9
  obtain ⟨a11, ev11⟩ := exa_v c10
  have E11 := Exa.start ev11 c10
  have S11 := Sta.start ev11 (Or.inr ⟨(hw _ (List.mem_of_getElem? (i := 6) rfl)), (hw _ (List.mem_of_getElem? (i := 24) rfl))⟩)
  obtain ⟨b11, F11⟩ := own_fldE ev11 c11 (fld_at ev7 |>.trans (F7.fin (Vm.Alike.refl _)))
  obtain ⟨a4, ev4⟩ := exa_v c12
  have E4 := Exa.start ev4 c12
  have S4 := Sta.start ev4 (Or.inr ⟨(hw _ (List.mem_of_getElem? (i := 6) rfl)), (hw _ (List.mem_of_getElem? (i := 26) rfl))⟩)
  obtain ⟨b4, F4⟩ := own_fldR ev4 c13
  obtain ⟨a8, ev8⟩ := exa_v c14
  have E8 := Exa.start ev8 c14
  have S8 := Sta.start ev8 (Or.inr ⟨(hw _ (List.mem_of_getElem? (i := 6) rfl)), (hw _ (List.mem_of_getElem? (i := 28) rfl))⟩)
  obtain ⟨b8, F8⟩ := own_fldR ev8 c15
  obtain ⟨a12, ev12⟩ := exa_v c16
  have E12 := Exa.start ev12 c16
  have S12 := Sta.start ev12 (Or.inr ⟨(hw _ (List.mem_of_getElem? (i := 6) rfl)), (hw _ (List.mem_of_getElem? (i := 30) rfl))⟩)
  have F12 := own_fldN ev12 c17
  obtain ⟨a16, ev16⟩ := exa_v c18
  have E16 := Exa.start ev16 c18
  have S16 := Sta.start ev16 (Or.inr ⟨(hw _ (List.mem_of_getElem? (i := 6) rfl)), (hw _ (List.mem_of_getElem? (i := 32) rfl))⟩)
  have F16 := own_fldN ev16 c19
  obtain ⟨a15, ev15⟩ := exa_v c20
  have E15 := Exa.start ev15 c20
  have S15 := Sta.start ev15 (Or.inr ⟨(hw _ (List.mem_of_getElem? (i := 6) rfl)), (hw _ (List.mem_of_getElem? (i := 34) rfl))⟩)
  have F15 := own_fldN ev15 c21
  obtain ⟨a10, ev10⟩ := exa_v c22
  have E10 := Exa.start ev10 c22
  have S10 := Sta.start ev10 (Or.inr ⟨(hw _ (List.mem_of_getElem? (i := 6) rfl)), (hw _ (List.mem_of_getElem? (i := 36) rfl))⟩)
  obtain ⟨b10, F10⟩ := own_fldR ev10 c23
  obtain ⟨a13, ev13⟩ := exa_v c24
  have E13 := Exa.start ev13 c24
  have S13 := Sta.start ev13 (Or.inr ⟨(hw _ (List.mem_of_getElem? (i := 6) rfl)), (hw _ (List.mem_of_getElem? (i := 38) rfl))⟩)
  have F13 := own_fldN ev13 c25
  obtain ⟨a6, ev6⟩ := exa_v c26
  have E6 := Exa.start ev6 c26
  have S6 := Sta.start ev6 (Or.inr ⟨(hw _ (List.mem_of_getElem? (i := 6) rfl)), (hw _ (List.mem_of_getElem? (i := 40) rfl))⟩)
  obtain ⟨b6, F6⟩ := own_fldR ev6 c27
  obtain ⟨a17, ev17⟩ := exa_v c28
  have E17 := Exa.start ev17 c28
  have S17 := Sta.start ev17 (Or.inr ⟨(hw _ (List.mem_of_getElem? (i := 6) rfl)), (hw _ (List.mem_of_getElem? (i := 42) rfl))⟩)
  have F17 := own_fldN ev17 c29
  obtain ⟨a14, ev14⟩ := exa_v c30
  have E14 := Exa.start ev14 c30
  have S14 := Sta.start ev14 (Or.inr ⟨(hw _ (List.mem_of_getElem? (i := 6) rfl)), (hw _ (List.mem_of_getElem? (i := 44) rfl))⟩)
  have F14 := own_fldN ev14 c31
  obtain ⟨a5, ev5⟩ := exa_v c32
  have E5 := Exa.start ev5 c32
  have S5 := Sta.start ev5 (Or.inr ⟨(hw _ (List.mem_of_getElem? (i := 6) rfl)), (hw _ (List.mem_of_getElem? (i := 46) rfl))⟩)
  obtain ⟨b5, F5⟩ := own_fldE ev5 c33 (fld_at ev7 |>.trans (F7.fin (Vm.Alike.refl _)))
  obtain ⟨a9, ev9⟩ := exa_v c34
  have E9 := Exa.start ev9 c34
  have S9 := Sta.start ev9 (Or.inr ⟨(hw _ (List.mem_of_getElem? (i := 6) rfl)), (hw _ (List.mem_of_getElem? (i := 48) rfl))⟩)
  obtain ⟨b9, F9⟩ := own_fldE ev9 c35 (fld_at ev7 |>.trans (F7.fin (Vm.Alike.refl _)))
  obtain ⟨n, o, h1, h2, h3, _, L, rfl, ⟨rfl, N⟩, hq⟩ := own_rm_law l s _ hw tables_1 i0 (own_g a0 a1 a2 a3 a4 a5 a6 a7 a8 a9 a10 a11 a12 a13 a14 a15 a16 a17) s.heap s.heap.size (Nat.le_refl _) S0 S1 S2 S3 S4 S5 S6 S7 S8 S9 S10 S11 S12 S13 S14 S15 S16 S17 (fun i => match i with | 0 => E0 | 1 => E1 | 2 => E2 | 3 => E3 | 4 => E4 | 5 => E5 | 6 => E6 | 7 => E7 | 8 => E8 | 9 => E9 | 10 => E10 | 11 => E11 | 12 => E12 | 13 => E13 | 14 => E14 | 15 => E15 | 16 => E16 | _ + 17 => E17) (fun i => match i with | 0 => fun _ => F0 | 1 => fun _ => F1 | 2 => fun _ => F2 | 3 => fun _ => F3 | 4 => fun q => absurd ⟨by decide, by decide⟩ q | 5 => fun q => absurd ⟨by decide, by decide⟩ q | 6 => fun q => absurd ⟨by decide, by decide⟩ q | 7 => fun q => absurd ⟨by decide, by decide⟩ q | 8 => fun q => absurd ⟨by decide, by decide⟩ q | 9 => fun q => absurd ⟨by decide, by decide⟩ q | 10 => fun q => absurd ⟨by decide, by decide⟩ q | 11 => fun q => absurd ⟨by decide, by decide⟩ q | 12 => fun _ => F12 | 13 => fun _ => F13 | 14 => fun _ => F14 | 15 => fun _ => F15 | 16 => fun _ => F16 | _ + 17 => fun _ => F17) (fun i => match i with | 0 => fun q => absurd q (by omega) | 1 => fun q => absurd q (by omega) | 2 => fun q => absurd q (by omega) | 3 => fun q => absurd q (by omega) | 4 => fun _ => ⟨_, F4⟩ | 5 => fun _ => ⟨_, F5⟩ | 6 => fun _ => ⟨_, F6⟩ | 7 => fun _ => ⟨_, F7⟩ | 8 => fun _ => ⟨_, F8⟩ | 9 => fun _ => ⟨_, F9⟩ | 10 => fun _ => ⟨_, F10⟩ | 11 => fun _ => ⟨_, F11⟩ | 12 => fun q => absurd q (by omega) | 13 => fun q => absurd q (by omega) | 14 => fun q => absurd q (by omega) | 15 => fun q => absurd q (by omega) | 16 => fun q => absurd q (by omega) | _ + 17 => fun q => absurd q (by omega)) p e ha hc hk s m _ below hf ((Spec.applies_iff_loose hf).mp happ).1 ⟨rfl, State.Warmed39.refl s, rfl⟩ trivial
  refine ⟨n, _, h1, h2, h3, hpost _ _ _ _ _ _ ⟨Cond.after_iff.mpr rfl, Cond.after_iff.mpr (eq_i res_at (Term.int_eval (1)) rfl), trivial⟩ ⟨hq.1, hq.2.1, (hq.2.2.sift fun y hy => Or.inr (N y hy)).mono (by decide) (by decide)⟩⟩
theorem main_1_1 : Claimed_1_1 := own_comes fun _ _ _ _ _ _ h hF => ⟨h.1, hF⟩
theorem main_1_2 : Claimed_1_2 := own_comes fun _ _ _ _ _ _ h hF => ⟨h.2.1, hF⟩
end Jvm.Pilot.@@N@@
namespace Jvm.Pilot.@@N@@
open Jvm Jvm.ClassFile Sem Op Lib Jvm.Free Jvm.Stand Jvm.Pilot.@@N@@.Jvm.D
/-! MADE BY PROGRAM (witnessworld.py) out of the Statement's table words and the real class files: 14 classes; the members and pool entries that the words name. The judged class is class 1, her method 2. -/
namespace start1
open Jvm.ClassFile
def u (s : String) : CpInfo := .utf8 (stringToUtf16 s)
/-- a pool by its gaps: so many unusable entries, then the entry; so many at the end -/
def gap : Nat → List CpInfo → List CpInfo
  | 0, r => r
  | n + 1, r => .unusable :: gap n r
def poolList (es : List (Nat × CpInfo)) (last : Nat) : List CpInfo := es.foldr (fun e r => gap e.1 (e.2 :: r)) (gap last [])
def pool (es : List (Nat × CpInfo)) (last : Nat) : Array CpInfo := ⟨poolList es last⟩
def fileOf (pool : Array CpInfo) (this : Nat) (attrs : Array Attribute := #[]) (ms : Array MethodInfo := #[]) (fl : Nat := 33) (sup : Nat := 0) (ifs : Array Nat := #[]) (fds : Array FieldInfo := #[]) : ClassFile where
  minorVersion := 0
  majorVersion := 65
  constantPool := pool
  accessFlags := fl
  thisClass := this
  superClass := sup
  interfaces := ifs
  fields := fds
  methods := ms
  attributes := attrs
def plain (name : String) (sup : Option ClassId) : Class where
  name := name
  kind := .ordinary
  loader := none
  accessFlags := 33
  super := sup
  interfaces := #[]
  cf := none
  fields := #[]
  methods := #[]
  instanceTypes := #[]
  staticTypes := #[]
  resolved := #[]
  callSites := []
  init := .initialized
  statics := none
  mirror := none

def pool0 : Array CpInfo := pool [(5, u "<init>"), (0, u "()V"), (1, .class_ 10), (1, u "java/lang/Object")] 113

def k0m0 : Method := { name := "<init>", desc := "()V", sig := { parameters := [], returnType := none }, accessFlags := 1, code := none }
/-- java/lang/Object -/
def k0 : Class := { plain "java/lang/Object" none with
  accessFlags := 33
  interfaces := #[]
  cf := some (fileOf pool0 8 #[] #[{ accessFlags := 1, nameIndex := 5, descriptorIndex := 6, attributes := #[] }] 33 0 #[] #[])
  fields := #[]
  methods := #[k0m0]
  instanceTypes := #[]
  staticTypes := #[]
  resolved := Array.replicate 124 none
  statics := none }

def pool1 : Array CpInfo := pool [(2, .class_ 4), (1, u "java/lang/Object"), (0, u "<init>"), (0, u "()V"), (0, .fieldref 8 9), (0, .class_ 10), (0, .nameAndType 11 12), (0, u "com/example/idlwright/idlwright/model/BaseKind"), (0, u "NIL"), (0, u "Lcom/example/idlwright/idlwright/model/BaseKind;"), (0, .fieldref 8 14), (0, .nameAndType 15 12), (0, u "BOOL"), (0, .fieldref 8 17), (0, .nameAndType 18 12), (0, u "CHAR"), (0, .fieldref 8 20), (0, .nameAndType 21 12), (0, u "WCHAR"), (0, .fieldref 8 23), (0, .nameAndType 24 12), (0, u "I8"), (0, .fieldref 8 26), (0, .nameAndType 27 12), (0, u "U8"), (0, .fieldref 8 29), (0, .nameAndType 30 12), (0, u "I16"), (0, .fieldref 8 32), (0, .nameAndType 33 12), (0, u "U16"), (0, .fieldref 8 35), (0, .nameAndType 36 12), (0, u "I32"), (0, .fieldref 8 38), (0, .nameAndType 39 12), (0, u "U32"), (0, .fieldref 8 41), (0, .nameAndType 42 12), (0, u "I64"), (0, .fieldref 8 44), (0, .nameAndType 45 12), (0, u "U64"), (0, .fieldref 8 47), (0, .nameAndType 48 12), (0, u "F32"), (0, .fieldref 8 50), (0, .nameAndType 51 12), (0, u "F64"), (0, .fieldref 8 53), (0, .nameAndType 54 12), (0, u "F128"), (0, .fieldref 8 56), (0, .nameAndType 57 12), (0, u "STRING"), (0, .fieldref 8 59), (0, .nameAndType 60 12), (0, u "WSTRING"), (0, .fieldref 8 62), (0, .nameAndType 63 12), (0, u "BINARY"), (0, .integer 2147483647), (0, .methodref 66 67), (0, .class_ 68), (0, .nameAndType 69 70), (0, u "com/example/idlwright/idlwright/model/BaseKindIsIntegerPinLaw"), (0, u "kindOf"), (0, u "(I)Lcom/example/idlwright/idlwright/model/BaseKind;"), (0, .methodref 8 72), (0, .nameAndType 73 74), (0, u "isInteger"), (0, u "()Z"), (3, u "law"), (0, u "(I)Z")] 2

def k1m0 : Method := { name := "<init>", desc := "()V", sig := { parameters := [], returnType := none }, accessFlags := 1, code := none }
def k1c1 : Code := { maxStack := 2, maxLocals := 1, code := method_2_code, exceptionTable := #[], attributes := #[] }
def k1m1 : Method := { name := "kindOf", desc := "(I)Lcom/example/idlwright/idlwright/model/BaseKind;", sig := { parameters := [.int], returnType := some (.object "com/example/idlwright/idlwright/model/BaseKind") }, accessFlags := 10, code := some k1c1 }
def k1c2 : Code := { maxStack := 2, maxLocals := 4, code := code, exceptionTable := #[], attributes := #[] }
def k1m2 : Method := { name := "law", desc := "(I)Z", sig := { parameters := [.int], returnType := some .boolean }, accessFlags := 9, code := some k1c2 }
/-- com/example/idlwright/idlwright/model/BaseKindIsIntegerPinLaw -/
def k1 : Class := { plain "com/example/idlwright/idlwright/model/BaseKindIsIntegerPinLaw" (some 0) with
  accessFlags := 49
  interfaces := #[]
  cf := some (fileOf pool1 66 #[] #[{ accessFlags := 1, nameIndex := 5, descriptorIndex := 6, attributes := #[] }, { accessFlags := 10, nameIndex := 69, descriptorIndex := 70, attributes := #[] }, { accessFlags := 9, nameIndex := 78, descriptorIndex := 79, attributes := #[] }] 49 2 #[] #[])
  fields := #[]
  methods := #[k1m0, k1m1, k1m2]
  instanceTypes := #[]
  staticTypes := #[]
  resolved := Array.replicate 82 none
  statics := none }

def pool2 : Array CpInfo := pool [(1, .class_ 2), (0, u "java/lang/constant/Constable"), (0, .class_ 4), (0, u "java/lang/Object")] 6

/-- java/lang/constant/Constable -/
def k2 : Class := { plain "java/lang/constant/Constable" (some 0) with
  accessFlags := 1537
  interfaces := #[]
  cf := some (fileOf pool2 1 #[] #[] 1537 3 #[] #[])
  fields := #[]
  methods := #[]
  instanceTypes := #[]
  staticTypes := #[]
  resolved := Array.replicate 11 none
  statics := none }

def pool3 : Array CpInfo := pool [(1, .class_ 2), (0, u "java/lang/Comparable"), (0, .class_ 4), (0, u "java/lang/Object")] 7

/-- java/lang/Comparable -/
def k3 : Class := { plain "java/lang/Comparable" (some 0) with
  accessFlags := 1537
  interfaces := #[]
  cf := some (fileOf pool3 1 #[] #[] 1537 3 #[] #[])
  fields := #[]
  methods := #[]
  instanceTypes := #[]
  staticTypes := #[]
  resolved := Array.replicate 12 none
  statics := none }

def pool4 : Array CpInfo := pool [(1, .class_ 2), (0, u "java/io/Serializable"), (0, .class_ 4), (0, u "java/lang/Object")] 2

/-- java/io/Serializable -/
def k4 : Class := { plain "java/io/Serializable" (some 0) with
  accessFlags := 1537
  interfaces := #[]
  cf := some (fileOf pool4 1 #[] #[] 1537 3 #[] #[])
  fields := #[]
  methods := #[]
  instanceTypes := #[]
  staticTypes := #[]
  resolved := Array.replicate 7 none
  statics := none }

def pool5 : Array CpInfo := pool [(2, .class_ 4), (1, u "java/lang/Enum"), (0, u "name"), (0, u "Ljava/lang/String;"), (2, u "ordinal"), (0, u "I"), (1, .class_ 14), (1, u "java/lang/Object"), (4, u "hash"), (86, .class_ 108), (1, u "java/lang/Enum$EnumDesc"), (2, .class_ 112), (0, u "java/lang/constant/Constable"), (0, .class_ 114), (0, u "java/lang/Comparable"), (0, .class_ 116), (0, u "java/io/Serializable")] 87

/-- java/lang/Enum -/
def k5 : Class := { plain "java/lang/Enum" (some 0) with
  accessFlags := 1057
  interfaces := #[2, 3, 4]
  cf := some (fileOf pool5 2 #[.nestMembers #[106]] #[] 1057 12 #[111, 113, 115] #[{ accessFlags := 18, nameIndex := 5, descriptorIndex := 6, attributes := #[] }, { accessFlags := 18, nameIndex := 9, descriptorIndex := 10, attributes := #[] }, { accessFlags := 2, nameIndex := 19, descriptorIndex := 10, attributes := #[] }])
  fields := #[{ name := "name", type := (.object "java/lang/String"), accessFlags := 18, slot := 0, constantValue := 0 }, { name := "ordinal", type := .int, accessFlags := 18, slot := 1, constantValue := 0 }, { name := "hash", type := .int, accessFlags := 2, slot := 2, constantValue := 0 }]
  methods := #[]
  instanceTypes := #[(.object "java/lang/String"), .int, .int]
  staticTypes := #[]
  resolved := Array.replicate 204 none
  statics := none }

def pool6 : Array CpInfo := pool [(1, .class_ 2), (0, u "com/example/idlwright/idlwright/model/BaseKind"), (2, u "NIL"), (0, u "Lcom/example/idlwright/idlwright/model/BaseKind;"), (2, u "BOOL"), (2, u "CHAR"), (2, u "WCHAR"), (2, u "I8"), (2, u "U8"), (2, u "I16"), (2, u "U16"), (2, u "I32"), (2, u "U32"), (2, u "I64"), (2, u "U64"), (2, u "F32"), (2, u "F64"), (2, u "F128"), (2, u "STRING"), (2, u "WSTRING"), (2, u "BINARY"), (2, u "$VALUES"), (0, u "[Lcom/example/idlwright/idlwright/model/BaseKind;"), (6, .class_ 70), (1, u "java/lang/Enum"), (6, .fieldref 1 78), (0, .nameAndType 79 80), (0, u "minimum"), (0, u "Ljava/math/BigInteger;"), (2, u "maximum"), (51, u "isInteger"), (0, u "()Z")] 50

def k6c0 : Code := { maxStack := 1, maxLocals := 1, code := prog_7_method_6_code, exceptionTable := #[], attributes := #[] }
def k6m0 : Method := { name := "isInteger", desc := "()Z", sig := { parameters := [], returnType := some .boolean }, accessFlags := 1, code := some k6c0 }
/-- com/example/idlwright/idlwright/model/BaseKind -/
def k6 : Class := { plain "com/example/idlwright/idlwright/model/BaseKind" (some 5) with
  accessFlags := 16433
  interfaces := #[]
  cf := some (fileOf pool6 1 #[] #[{ accessFlags := 1, nameIndex := 135, descriptorIndex := 136, attributes := #[] }] 16433 68 #[] #[{ accessFlags := 16409, nameIndex := 5, descriptorIndex := 6, attributes := #[] }, { accessFlags := 16409, nameIndex := 9, descriptorIndex := 6, attributes := #[] }, { accessFlags := 16409, nameIndex := 12, descriptorIndex := 6, attributes := #[] }, { accessFlags := 16409, nameIndex := 15, descriptorIndex := 6, attributes := #[] }, { accessFlags := 16409, nameIndex := 18, descriptorIndex := 6, attributes := #[] }, { accessFlags := 16409, nameIndex := 21, descriptorIndex := 6, attributes := #[] }, { accessFlags := 16409, nameIndex := 24, descriptorIndex := 6, attributes := #[] }, { accessFlags := 16409, nameIndex := 27, descriptorIndex := 6, attributes := #[] }, { accessFlags := 16409, nameIndex := 30, descriptorIndex := 6, attributes := #[] }, { accessFlags := 16409, nameIndex := 33, descriptorIndex := 6, attributes := #[] }, { accessFlags := 16409, nameIndex := 36, descriptorIndex := 6, attributes := #[] }, { accessFlags := 16409, nameIndex := 39, descriptorIndex := 6, attributes := #[] }, { accessFlags := 16409, nameIndex := 42, descriptorIndex := 6, attributes := #[] }, { accessFlags := 16409, nameIndex := 45, descriptorIndex := 6, attributes := #[] }, { accessFlags := 16409, nameIndex := 48, descriptorIndex := 6, attributes := #[] }, { accessFlags := 16409, nameIndex := 51, descriptorIndex := 6, attributes := #[] }, { accessFlags := 16409, nameIndex := 54, descriptorIndex := 6, attributes := #[] }, { accessFlags := 16409, nameIndex := 57, descriptorIndex := 6, attributes := #[] }, { accessFlags := 18, nameIndex := 79, descriptorIndex := 80, attributes := #[] }, { accessFlags := 18, nameIndex := 83, descriptorIndex := 80, attributes := #[] }, { accessFlags := 4122, nameIndex := 60, descriptorIndex := 61, attributes := #[] }])
  fields := #[{ name := "NIL", type := (.object "com/example/idlwright/idlwright/model/BaseKind"), accessFlags := 16409, slot := 0, constantValue := 0 }, { name := "BOOL", type := (.object "com/example/idlwright/idlwright/model/BaseKind"), accessFlags := 16409, slot := 1, constantValue := 0 }, { name := "CHAR", type := (.object "com/example/idlwright/idlwright/model/BaseKind"), accessFlags := 16409, slot := 2, constantValue := 0 }, { name := "WCHAR", type := (.object "com/example/idlwright/idlwright/model/BaseKind"), accessFlags := 16409, slot := 3, constantValue := 0 }, { name := "I8", type := (.object "com/example/idlwright/idlwright/model/BaseKind"), accessFlags := 16409, slot := 4, constantValue := 0 }, { name := "U8", type := (.object "com/example/idlwright/idlwright/model/BaseKind"), accessFlags := 16409, slot := 5, constantValue := 0 }, { name := "I16", type := (.object "com/example/idlwright/idlwright/model/BaseKind"), accessFlags := 16409, slot := 6, constantValue := 0 }, { name := "U16", type := (.object "com/example/idlwright/idlwright/model/BaseKind"), accessFlags := 16409, slot := 7, constantValue := 0 }, { name := "I32", type := (.object "com/example/idlwright/idlwright/model/BaseKind"), accessFlags := 16409, slot := 8, constantValue := 0 }, { name := "U32", type := (.object "com/example/idlwright/idlwright/model/BaseKind"), accessFlags := 16409, slot := 9, constantValue := 0 }, { name := "I64", type := (.object "com/example/idlwright/idlwright/model/BaseKind"), accessFlags := 16409, slot := 10, constantValue := 0 }, { name := "U64", type := (.object "com/example/idlwright/idlwright/model/BaseKind"), accessFlags := 16409, slot := 11, constantValue := 0 }, { name := "F32", type := (.object "com/example/idlwright/idlwright/model/BaseKind"), accessFlags := 16409, slot := 12, constantValue := 0 }, { name := "F64", type := (.object "com/example/idlwright/idlwright/model/BaseKind"), accessFlags := 16409, slot := 13, constantValue := 0 }, { name := "F128", type := (.object "com/example/idlwright/idlwright/model/BaseKind"), accessFlags := 16409, slot := 14, constantValue := 0 }, { name := "STRING", type := (.object "com/example/idlwright/idlwright/model/BaseKind"), accessFlags := 16409, slot := 15, constantValue := 0 }, { name := "WSTRING", type := (.object "com/example/idlwright/idlwright/model/BaseKind"), accessFlags := 16409, slot := 16, constantValue := 0 }, { name := "BINARY", type := (.object "com/example/idlwright/idlwright/model/BaseKind"), accessFlags := 16409, slot := 17, constantValue := 0 }, { name := "minimum", type := (.object "java/math/BigInteger"), accessFlags := 18, slot := 3, constantValue := 0 }, { name := "maximum", type := (.object "java/math/BigInteger"), accessFlags := 18, slot := 4, constantValue := 0 }, { name := "$VALUES", type := (.array (.object "com/example/idlwright/idlwright/model/BaseKind")), accessFlags := 4122, slot := 18, constantValue := 0 }]
  methods := #[k6m0]
  instanceTypes := #[(.object "java/lang/String"), .int, .int, (.object "java/math/BigInteger"), (.object "java/math/BigInteger")]
  staticTypes := #[(.object "com/example/idlwright/idlwright/model/BaseKind"), (.object "com/example/idlwright/idlwright/model/BaseKind"), (.object "com/example/idlwright/idlwright/model/BaseKind"), (.object "com/example/idlwright/idlwright/model/BaseKind"), (.object "com/example/idlwright/idlwright/model/BaseKind"), (.object "com/example/idlwright/idlwright/model/BaseKind"), (.object "com/example/idlwright/idlwright/model/BaseKind"), (.object "com/example/idlwright/idlwright/model/BaseKind"), (.object "com/example/idlwright/idlwright/model/BaseKind"), (.object "com/example/idlwright/idlwright/model/BaseKind"), (.object "com/example/idlwright/idlwright/model/BaseKind"), (.object "com/example/idlwright/idlwright/model/BaseKind"), (.object "com/example/idlwright/idlwright/model/BaseKind"), (.object "com/example/idlwright/idlwright/model/BaseKind"), (.object "com/example/idlwright/idlwright/model/BaseKind"), (.object "com/example/idlwright/idlwright/model/BaseKind"), (.object "com/example/idlwright/idlwright/model/BaseKind"), (.object "com/example/idlwright/idlwright/model/BaseKind"), (.array (.object "com/example/idlwright/idlwright/model/BaseKind"))]
  resolved := Array.replicate 187 none
  statics := some 0 }

def pool7 : Array CpInfo := pool [(2, .class_ 4), (1, u "java/lang/Object"), (0, u "<init>"), (0, u "()V"), (1, .class_ 10), (1, u "java/lang/Number"), (2, .class_ 14), (0, u "java/io/Serializable"), (0, u "serialVersionUID"), (0, u "J")] 20

def k7m0 : Method := { name := "<init>", desc := "()V", sig := { parameters := [], returnType := none }, accessFlags := 1, code := none }
/-- java/lang/Number -/
def k7 : Class := { plain "java/lang/Number" (some 0) with
  accessFlags := 1057
  interfaces := #[4]
  cf := some (fileOf pool7 8 #[] #[{ accessFlags := 1, nameIndex := 5, descriptorIndex := 6, attributes := #[] }] 1057 2 #[13] #[{ accessFlags := 26, nameIndex := 15, descriptorIndex := 16, attributes := #[] }])
  fields := #[{ name := "serialVersionUID", type := .long, accessFlags := 26, slot := 0, constantValue := 0 }]
  methods := #[k7m0]
  instanceTypes := #[]
  staticTypes := #[.long]
  resolved := Array.replicate 37 none
  statics := none }

def pool8 : Array CpInfo := pool [(4, .class_ 6), (1, u "java/lang/Number"), (16, .class_ 25), (1, u "java/math/BigInteger"), (0, u "ZERO"), (0, u "Ljava/math/BigInteger;"), (2, u "mag"), (0, u "[I"), (2, u "signum"), (0, u "I"), (59, u "bitsPerDigit"), (0, u "[J"), (9, u "digitsPerInt"), (12, u "intRadix"), (60, u "SMALL_PRIME_PRODUCT"), (79, u "ONE"), (6, u "TWO"), (43, u "$assertionsDisabled"), (0, u "Z"), (36, u "posConst"), (0, u "[Ljava/math/BigInteger;"), (4, u "negConst"), (116, .class_ 474), (1, u "java/math/BigInteger$RecursiveOp"), (106, u "NEGATIVE_ONE"), (91, u "bnExpModThreshTable"), (72, u "lowestSetBitPlusTwo"), (2, u "bitLengthPlusOne"), (2, u "bitCountPlusOne"), (6, u "LOG_TWO"), (0, u "D"), (2, u "logCache"), (0, u "[D"), (13, u "NUM_ZEROS"), (2, u "ZEROS"), (0, u "Ljava/lang/String;"), (9, u "longRadix"), (5, u "digitsPerLong"), (22, u "powerCache"), (0, u "[[Ljava/math/BigInteger;"), (45, u "firstNonzeroIntNumPlusTwo"), (38, .class_ 909), (1, u "java/math/BigInteger$UnsafeHolder"), (141, u "TEN"), (106, u "serialPersistentFields"), (0, u "[Ljava/io/ObjectStreamField;"), (0, .class_ 1161), (0, u "java/lang/Comparable"), (0, u "LONG_MASK"), (0, u "J"), (1, u "MAX_MAG_LENGTH"), (0, u "PRIME_SEARCH_BIT_LENGTH_LIMIT"), (1, u "KARATSUBA_THRESHOLD"), (1, u "TOOM_COOK_THRESHOLD"), (1, u "KARATSUBA_SQUARE_THRESHOLD"), (1, u "TOOM_COOK_SQUARE_THRESHOLD"), (1, u "BURNIKEL_ZIEGLER_THRESHOLD"), (0, u "BURNIKEL_ZIEGLER_OFFSET"), (1, u "SCHOENHAGE_BASE_CONVERSION_THRESHOLD"), (1, u "MULTIPLY_SQUARE_THRESHOLD"), (0, u "MONTGOMERY_INTRINSIC_THRESHOLD"), (1, u "SMALL_PRIME_THRESHOLD"), (1, u "DEFAULT_PRIME_CERTAINTY"), (1, u "MAX_CONSTANT"), (3, u "serialVersionUID"), (338, .class_ 1532), (0, u "java/math/BigInteger$RecursiveOp$RecursiveSquare"), (0, .class_ 1534), (0, u "java/math/BigInteger$RecursiveOp$RecursiveMultiply")] 7

/-- java/math/BigInteger -/
def k8 : Class := { plain "java/math/BigInteger" (some 7) with
  accessFlags := 33
  interfaces := #[3]
  cf := some (fileOf pool8 23 #[.nestMembers #[907, 472, 1531, 1533]] #[] 33 4 #[1160] #[{ accessFlags := 16, nameIndex := 34, descriptorIndex := 35, attributes := #[] }, { accessFlags := 16, nameIndex := 30, descriptorIndex := 31, attributes := #[] }, { accessFlags := 2, nameIndex := 752, descriptorIndex := 35, attributes := #[] }, { accessFlags := 2, nameIndex := 749, descriptorIndex := 35, attributes := #[] }, { accessFlags := 2, nameIndex := 746, descriptorIndex := 35, attributes := #[] }, { accessFlags := 2, nameIndex := 868, descriptorIndex := 35, attributes := #[] }, { accessFlags := 24, nameIndex := 1162, descriptorIndex := 1163, attributes := #[] }, { accessFlags := 26, nameIndex := 1165, descriptorIndex := 35, attributes := #[] }, { accessFlags := 26, nameIndex := 1166, descriptorIndex := 35, attributes := #[] }, { accessFlags := 26, nameIndex := 1168, descriptorIndex := 35, attributes := #[] }, { accessFlags := 26, nameIndex := 1170, descriptorIndex := 35, attributes := #[] }, { accessFlags := 26, nameIndex := 1172, descriptorIndex := 35, attributes := #[] }, { accessFlags := 26, nameIndex := 1174, descriptorIndex := 35, attributes := #[] }, { accessFlags := 24, nameIndex := 1176, descriptorIndex := 35, attributes := #[] }, { accessFlags := 24, nameIndex := 1177, descriptorIndex := 35, attributes := #[] }, { accessFlags := 26, nameIndex := 1179, descriptorIndex := 35, attributes := #[] }, { accessFlags := 26, nameIndex := 1181, descriptorIndex := 35, attributes := #[] }, { accessFlags := 26, nameIndex := 1182, descriptorIndex := 35, attributes := #[] }, { accessFlags := 10, nameIndex := 95, descriptorIndex := 96, attributes := #[] }, { accessFlags := 26, nameIndex := 1184, descriptorIndex := 35, attributes := #[] }, { accessFlags := 26, nameIndex := 1186, descriptorIndex := 35, attributes := #[] }, { accessFlags := 26, nameIndex := 180, descriptorIndex := 27, attributes := #[] }, { accessFlags := 26, nameIndex := 1188, descriptorIndex := 35, attributes := #[] }, { accessFlags := 26, nameIndex := 349, descriptorIndex := 350, attributes := #[] }, { accessFlags := 26, nameIndex := 355, descriptorIndex := 350, attributes := #[] }, { accessFlags := 74, nameIndex := 821, descriptorIndex := 822, attributes := #[] }, { accessFlags := 26, nameIndex := 763, descriptorIndex := 764, attributes := #[] }, { accessFlags := 26, nameIndex := 759, descriptorIndex := 760, attributes := #[] }, { accessFlags := 25, nameIndex := 26, descriptorIndex := 27, attributes := #[] }, { accessFlags := 25, nameIndex := 260, descriptorIndex := 27, attributes := #[] }, { accessFlags := 25, nameIndex := 267, descriptorIndex := 27, attributes := #[] }, { accessFlags := 26, nameIndex := 581, descriptorIndex := 27, attributes := #[] }, { accessFlags := 25, nameIndex := 1051, descriptorIndex := 27, attributes := #[] }, { accessFlags := 8, nameIndex := 673, descriptorIndex := 31, attributes := #[] }, { accessFlags := 10, nameIndex := 778, descriptorIndex := 35, attributes := #[] }, { accessFlags := 26, nameIndex := 781, descriptorIndex := 782, attributes := #[] }, { accessFlags := 10, nameIndex := 798, descriptorIndex := 31, attributes := #[] }, { accessFlags := 10, nameIndex := 792, descriptorIndex := 350, attributes := #[] }, { accessFlags := 10, nameIndex := 106, descriptorIndex := 31, attributes := #[] }, { accessFlags := 10, nameIndex := 119, descriptorIndex := 31, attributes := #[] }, { accessFlags := 26, nameIndex := 1192, descriptorIndex := 1163, attributes := #[] }, { accessFlags := 26, nameIndex := 1158, descriptorIndex := 1159, attributes := #[] }, { accessFlags := 4120, nameIndex := 311, descriptorIndex := 312, attributes := #[] }])
  fields := #[{ name := "signum", type := .int, accessFlags := 16, slot := 0, constantValue := 0 }, { name := "mag", type := (.array .int), accessFlags := 16, slot := 1, constantValue := 0 }, { name := "bitCountPlusOne", type := .int, accessFlags := 2, slot := 2, constantValue := 0 }, { name := "bitLengthPlusOne", type := .int, accessFlags := 2, slot := 3, constantValue := 0 }, { name := "lowestSetBitPlusTwo", type := .int, accessFlags := 2, slot := 4, constantValue := 0 }, { name := "firstNonzeroIntNumPlusTwo", type := .int, accessFlags := 2, slot := 5, constantValue := 0 }, { name := "LONG_MASK", type := .long, accessFlags := 24, slot := 0, constantValue := 0 }, { name := "MAX_MAG_LENGTH", type := .int, accessFlags := 26, slot := 1, constantValue := 0 }, { name := "PRIME_SEARCH_BIT_LENGTH_LIMIT", type := .int, accessFlags := 26, slot := 2, constantValue := 0 }, { name := "KARATSUBA_THRESHOLD", type := .int, accessFlags := 26, slot := 3, constantValue := 0 }, { name := "TOOM_COOK_THRESHOLD", type := .int, accessFlags := 26, slot := 4, constantValue := 0 }, { name := "KARATSUBA_SQUARE_THRESHOLD", type := .int, accessFlags := 26, slot := 5, constantValue := 0 }, { name := "TOOM_COOK_SQUARE_THRESHOLD", type := .int, accessFlags := 26, slot := 6, constantValue := 0 }, { name := "BURNIKEL_ZIEGLER_THRESHOLD", type := .int, accessFlags := 24, slot := 7, constantValue := 0 }, { name := "BURNIKEL_ZIEGLER_OFFSET", type := .int, accessFlags := 24, slot := 8, constantValue := 0 }, { name := "SCHOENHAGE_BASE_CONVERSION_THRESHOLD", type := .int, accessFlags := 26, slot := 9, constantValue := 0 }, { name := "MULTIPLY_SQUARE_THRESHOLD", type := .int, accessFlags := 26, slot := 10, constantValue := 0 }, { name := "MONTGOMERY_INTRINSIC_THRESHOLD", type := .int, accessFlags := 26, slot := 11, constantValue := 0 }, { name := "bitsPerDigit", type := (.array .long), accessFlags := 10, slot := 12, constantValue := 0 }, { name := "SMALL_PRIME_THRESHOLD", type := .int, accessFlags := 26, slot := 13, constantValue := 0 }, { name := "DEFAULT_PRIME_CERTAINTY", type := .int, accessFlags := 26, slot := 14, constantValue := 0 }, { name := "SMALL_PRIME_PRODUCT", type := (.object "java/math/BigInteger"), accessFlags := 26, slot := 15, constantValue := 0 }, { name := "MAX_CONSTANT", type := .int, accessFlags := 26, slot := 16, constantValue := 0 }, { name := "posConst", type := (.array (.object "java/math/BigInteger")), accessFlags := 26, slot := 17, constantValue := 0 }, { name := "negConst", type := (.array (.object "java/math/BigInteger")), accessFlags := 26, slot := 18, constantValue := 0 }, { name := "powerCache", type := (.array (.array (.object "java/math/BigInteger"))), accessFlags := 74, slot := 19, constantValue := 0 }, { name := "logCache", type := (.array .double), accessFlags := 26, slot := 20, constantValue := 0 }, { name := "LOG_TWO", type := .double, accessFlags := 26, slot := 21, constantValue := 0 }, { name := "ZERO", type := (.object "java/math/BigInteger"), accessFlags := 25, slot := 22, constantValue := 0 }, { name := "ONE", type := (.object "java/math/BigInteger"), accessFlags := 25, slot := 23, constantValue := 0 }, { name := "TWO", type := (.object "java/math/BigInteger"), accessFlags := 25, slot := 24, constantValue := 0 }, { name := "NEGATIVE_ONE", type := (.object "java/math/BigInteger"), accessFlags := 26, slot := 25, constantValue := 0 }, { name := "TEN", type := (.object "java/math/BigInteger"), accessFlags := 25, slot := 26, constantValue := 0 }, { name := "bnExpModThreshTable", type := (.array .int), accessFlags := 8, slot := 27, constantValue := 0 }, { name := "NUM_ZEROS", type := .int, accessFlags := 10, slot := 28, constantValue := 0 }, { name := "ZEROS", type := (.object "java/lang/String"), accessFlags := 26, slot := 29, constantValue := 0 }, { name := "digitsPerLong", type := (.array .int), accessFlags := 10, slot := 30, constantValue := 0 }, { name := "longRadix", type := (.array (.object "java/math/BigInteger")), accessFlags := 10, slot := 31, constantValue := 0 }, { name := "digitsPerInt", type := (.array .int), accessFlags := 10, slot := 32, constantValue := 0 }, { name := "intRadix", type := (.array .int), accessFlags := 10, slot := 33, constantValue := 0 }, { name := "serialVersionUID", type := .long, accessFlags := 26, slot := 34, constantValue := 0 }, { name := "serialPersistentFields", type := (.array (.object "java/io/ObjectStreamField")), accessFlags := 26, slot := 35, constantValue := 0 }, { name := "$assertionsDisabled", type := .boolean, accessFlags := 4120, slot := 36, constantValue := 0 }]
  methods := #[]
  instanceTypes := #[.int, (.array .int), .int, .int, .int, .int]
  staticTypes := #[.long, .int, .int, .int, .int, .int, .int, .int, .int, .int, .int, .int, (.array .long), .int, .int, (.object "java/math/BigInteger"), .int, (.array (.object "java/math/BigInteger")), (.array (.object "java/math/BigInteger")), (.array (.array (.object "java/math/BigInteger"))), (.array .double), .double, (.object "java/math/BigInteger"), (.object "java/math/BigInteger"), (.object "java/math/BigInteger"), (.object "java/math/BigInteger"), (.object "java/math/BigInteger"), (.array .int), .int, (.object "java/lang/String"), (.array .int), (.array (.object "java/math/BigInteger")), (.array .int), (.array .int), .long, (.array (.object "java/io/ObjectStreamField")), .boolean]
  resolved := Array.replicate 1542 none
  statics := none }

def pool9 : Array CpInfo := pool [(1, u "java/lang/Cloneable"), (0, .class_ 1), (0, u "java/lang/Object"), (0, .class_ 3)] 3

/-- java/lang/Cloneable -/
def k9 : Class := { plain "java/lang/Cloneable" (some 0) with
  accessFlags := 1537
  interfaces := #[]
  cf := some (fileOf pool9 2 #[] #[] 1537 4 #[] #[])
  fields := #[]
  methods := #[]
  instanceTypes := #[]
  staticTypes := #[]
  resolved := Array.replicate 8 none
  statics := none }

/-- the primitive byte -/
def k10 : Class := { plain "byte" none with kind := .primitive 'B', accessFlags := 0x411 }
/-- [B -/
def k11 : Class := { plain "[B" (some 0) with kind := .array 10 .byte, interfaces := #[9, 4], accessFlags := 1041 }

/-- the primitive int -/
def k12 : Class := { plain "int" none with kind := .primitive 'I', accessFlags := 0x411 }
/-- [I -/
def k13 : Class := { plain "[I" (some 0) with kind := .array 12 .int, interfaces := #[9, 4], accessFlags := 1041 }

def heap : Heap := #[{ cls := 6, slots := #[.ref 1, .ref 2, .ref 3, .ref 4, .ref 5, .ref 6, .ref 7, .ref 8, .ref 9, .ref 10, .ref 11, .ref 12, .ref 13, .ref 14, .ref 15, .ref 16, .ref 17, .ref 18, .null], vm := .statics 6 },
  { cls := 6, slots := #[.null, .int 0, .int 0, .null, .null], vm := .none },
  { cls := 6, slots := #[.null, .int 0, .int 0, .null, .null], vm := .none },
  { cls := 6, slots := #[.null, .int 0, .int 0, .null, .null], vm := .none },
  { cls := 6, slots := #[.null, .int 0, .int 0, .null, .null], vm := .none },
  { cls := 6, slots := #[.null, .int 0, .int 0, .ref 19, .ref 19], vm := .none },
  { cls := 6, slots := #[.null, .int 0, .int 0, .ref 19, .ref 19], vm := .none },
  { cls := 6, slots := #[.null, .int 0, .int 0, .ref 19, .ref 19], vm := .none },
  { cls := 6, slots := #[.null, .int 0, .int 0, .ref 19, .ref 19], vm := .none },
  { cls := 6, slots := #[.null, .int 0, .int 0, .ref 19, .ref 19], vm := .none },
  { cls := 6, slots := #[.null, .int 0, .int 0, .ref 19, .ref 19], vm := .none },
  { cls := 6, slots := #[.null, .int 0, .int 0, .ref 19, .ref 19], vm := .none },
  { cls := 6, slots := #[.null, .int 0, .int 0, .ref 19, .ref 19], vm := .none },
  { cls := 6, slots := #[.null, .int 0, .int 0, .null, .null], vm := .none },
  { cls := 6, slots := #[.null, .int 0, .int 0, .null, .null], vm := .none },
  { cls := 6, slots := #[.null, .int 0, .int 0, .null, .null], vm := .none },
  { cls := 6, slots := #[.null, .int 0, .int 0, .null, .null], vm := .none },
  { cls := 6, slots := #[.null, .int 0, .int 0, .null, .null], vm := .none },
  { cls := 6, slots := #[.null, .int 0, .int 0, .null, .null], vm := .none },
  { cls := 8, slots := #[.int 0, .null, .int 0, .int 0, .int 0, .int 0], vm := .none }]
def classes : Array Class := #[k0, k1, k2, k3, k4, k5, k6, k7, k8, k9, k10, k11, k12, k13]
def interned : List (Array UInt16 × Addr) := []
def slotsUsed : Nat := 115
def theMethod : MethodId := ⟨1, 2⟩
def args0 : Array Value := #[.int 5]
def aboutOver (below : List Frame) : State where
  vm := { classes := classes, interned := interned.toArray }
  heap := heap
  slotsUsed := slotsUsed
  threads := #[{ frames := .invoking theMethod args0 :: below }]
def below0 : List Frame := [.native { method := ⟨0, 0⟩, args := #[] }]
def about1 : State := aboutOver below0
def p0 : Program := .bare "" "" ""
def e0 : Env := launch0.env 0 0 0
theorem w_frames : about1.frames = Frame.invoking theMethod args0 :: below0 := rfl
set_option maxRecDepth 65536 in
theorem w_args : argsFit about1.vm theMethod args0 = true := by decide +kernel
set_option maxRecDepth 65536 in
theorem w_heap : heapFits about1 = true := by decide +kernel
set_option maxRecDepth 65536 in
theorem w_runnable : about1.curStatus? = some .runnable := by decide +kernel
set_option maxRecDepth 65536 in
theorem w_alone : about1.alone = true := by decide +kernel
set_option maxRecDepth 65536 in
theorem w_named : about1.methodNamed? x = some theMethod := by decide +kernel
set_option maxRecDepth 65536 in
theorem w_hears : about1.hears theMethod below0 = true := by decide +kernel
set_option maxRecDepth 65536 in
theorem w_ripe : about1.ripe theMethod args0 below0 = true := by decide +kernel
theorem w_running : about1.status = .running := rfl
set_option maxRecDepth 65536 in
theorem w_room : about1.hasRoom e0.platform room_1 = true :=
  launch0.hasRoom_least _ room_1 (by decide +kernel) (by decide +kernel) (by decide +kernel) (by decide +kernel) (by decide +kernel) (by decide +kernel)
theorem allAtoms_all (ts : List Jvm.Cond) (a : Array Jvm.Value) (st : Jvm.State) : (allAtoms ts).before a st = ts.all (fun c => c.before a st) := by
  induction ts with
  | nil => rfl
  | cons c t ih =>
    show (Jvm.Cond.and c (allAtoms t)).before a st = _
    rw [Jvm.Cond.before_and, ih, List.all_cons]
def words1 : List Jvm.Cond := Jvm.Cond.code x code maxLocals ret :: tables_1
/-- a 'code' word, met by the world's own term for the bytes: nothing is compared byte by byte -/
theorem code_word {y : MethodName} {bytes : ByteArray} {mx : Nat} {rt : Option FieldType} {a : Array Value} {s : State} {m : MethodId} {meth : Method} {c : Code} (h1 : s.methodNamed? y = some m) (h2 : s.vm.method? m = some meth) (h3 : meth.code = some c) (h4 : c.code = bytes)
    (h5 : (c.maxLocals == mx && c.exceptionTable.isEmpty && decide (c.maxStack ≤ mostOperands) && decide (meth.sig.returnType = rt) && !meth.locks && decide (parseMethodDescriptor y.desc = some meth.sig)) = true) : (Jvm.Cond.code y bytes mx rt).before a s = true := by
  simp only [Bool.and_eq_true, beq_iff_eq, Bool.not_eq_true', decide_eq_true_eq] at h5
  obtain ⟨⟨⟨⟨⟨g1, g2⟩, g3⟩, g4⟩, g5⟩, g6⟩ := h5
  simp [Cond.before, Cond.holds, Cond.value, h1, h2, h3, h4, g1, g2, g3, g4, g5, g6]
def isCode : Jvm.Cond → Bool
  | .code _ _ _ _ => true
  | _ => false
theorem all_split {L : List Jvm.Cond} {P : Jvm.Cond → Bool} (h1 : L.all (fun c => isCode c || P c) = true) (h2 : ∀ c ∈ L.filter isCode, P c = true) : L.all P = true := by
  refine List.all_eq_true.mpr fun c hc => ?_
  have h := List.all_eq_true.mp h1 c hc
  rcases Bool.eq_false_or_eq_true (isCode c) with hi | hi
  · exact h2 c (List.mem_filter.mpr ⟨hc, hi⟩)
  · simpa [hi] using h
set_option maxRecDepth 65536 in
theorem w_c0 : (Jvm.Cond.code x code maxLocals ret).before args0 about1 = true := code_word (m := ⟨1, 2⟩) (meth := k1m2) (c := k1c2) (by decide +kernel) rfl rfl rfl (by decide +kernel)
set_option maxRecDepth 65536 in
theorem w_c1 : (Jvm.Cond.code ({ cls := "com/example/idlwright/idlwright/model/BaseKindIsIntegerPinLaw", name := "kindOf", desc := "(I)Lcom/example/idlwright/idlwright/model/BaseKind;" } : Jvm.MethodName) method_2_code (1 : Nat) (Option.some (Jvm.ClassFile.FieldType.object "com/example/idlwright/idlwright/model/BaseKind"))).before args0 about1 = true := code_word (m := ⟨1, 1⟩) (meth := k1m1) (c := k1c1) (by decide +kernel) rfl rfl rfl (by decide +kernel)
set_option maxRecDepth 65536 in
theorem w_c2 : (Jvm.Cond.code ({ cls := "com/example/idlwright/idlwright/model/BaseKind", name := "isInteger", desc := "()Z" } : Jvm.MethodName) prog_7_method_6_code (1 : Nat) (Option.some Jvm.ClassFile.FieldType.boolean)).before args0 about1 = true := code_word (m := ⟨6, 0⟩) (meth := k6m0) (c := k6c0) (by decide +kernel) rfl rfl rfl (by decide +kernel)
def codes1 : List Jvm.Cond := [Jvm.Cond.code x code maxLocals ret, Jvm.Cond.code ({ cls := "com/example/idlwright/idlwright/model/BaseKindIsIntegerPinLaw", name := "kindOf", desc := "(I)Lcom/example/idlwright/idlwright/model/BaseKind;" } : Jvm.MethodName) method_2_code (1 : Nat) (Option.some (Jvm.ClassFile.FieldType.object "com/example/idlwright/idlwright/model/BaseKind")), Jvm.Cond.code ({ cls := "com/example/idlwright/idlwright/model/BaseKind", name := "isInteger", desc := "()Z" } : Jvm.MethodName) prog_7_method_6_code (1 : Nat) (Option.some Jvm.ClassFile.FieldType.boolean)]
set_option maxRecDepth 65536 in
theorem codes_eq : words1.filter isCode = codes1 := rfl
theorem w_codes : ∀ c ∈ words1.filter isCode, c.before args0 about1 = true := by
  rw [codes_eq]
  intro c hc
  simp only [codes1, List.mem_cons, List.not_mem_nil, or_false] at hc
  rcases hc with rfl | rfl | rfl
  · exact w_c0
  · exact w_c1
  · exact w_c2
set_option maxRecDepth 65536 in
theorem w_t1 : (words1.take 24).all (fun c => isCode c || c.before args0 about1) = true := by decide +kernel
set_option maxRecDepth 65536 in
theorem w_t2 : ((words1.drop 24).take 24).all (fun c => isCode c || c.before args0 about1) = true := by decide +kernel
set_option maxRecDepth 65536 in
theorem w_t3 : ((words1.drop 24).drop 24).all (fun c => isCode c || c.before args0 about1) = true := by decide +kernel
theorem w_tables : (allAtoms (Jvm.Cond.code x code maxLocals ret :: tables_1)).before args0 about1 = true := by
  rw [allAtoms_all]
  show words1.all (fun c => c.before args0 about1) = true
  refine all_split ?_ w_codes
  rw [← List.take_append_drop 24 words1, List.all_append, w_t1, ← List.take_append_drop 24 (words1.drop 24), List.all_append, w_t2, w_t3]
  rfl
set_option maxRecDepth 65536 in
theorem w_case : (Jvm.Cond.and given_1 narrow_1).before args0 about1 = true := by decide +kernel
theorem w_applies : (headSpec (Jvm.Cond.code x code maxLocals ret :: tables_1) room_1).applies x e0.platform about1 = true :=
  (Spec.applies_iff w_frames).mpr ⟨w_running, w_runnable, w_alone, w_named, w_hears, w_ripe, w_room, w_tables⟩
theorem atStart : AtStart classFile x code maxLocals ret World_1 tables_1 room_1 Calls_1 rest_1 Pre_1 launch0 p0 e0 about1 theMethod args0 below0 :=
  ⟨lists_1, trivial, launch0.admits_env _ _ _, launch0.least_env, fairChoices_fair.cas, fairChoices_fair.clock, w_frames, w_args, w_heap, w_applies, trivial, trivial, w_case⟩
end start1
theorem witness_1 : WitnessClaimed_1 := ⟨start1.p0, start1.e0, start1.about1, start1.theMethod, start1.args0, start1.below0, start1.atStart⟩
end Jvm.Pilot.@@N@@
