import JvmDerived
import JvmDerived.Pilot.@@N@@Statement
import JvmDerived.Pilot.@@N@@Code
set_option linter.unusedVariables false
set_option linter.unusedSimpArgs false
namespace Jvm.Pilot.@@N@@
open Jvm Jvm.ClassFile Sem Op Lib Jvm.Free Jvm.Stand Jvm.LawKit Jvm.RoadKit Bundle Jvm.Pilot.@@N@@.Jvm.D
section OwnGo
variable {p : Program} {l : Launch} {e : Env} {R : Room} {s : State} {m : MethodId} {args : Array Value} {below : List Frame} {meth : Method} {c : Code} {T : State} {locs : List Loc} {cells slots : Nat}
/-- from S the run ends, returned, with Q -/
def own_Go (p : Program) (e : Env) (below : List Frame) (s : State) (Q : Option Value → Heap → List Loc → Prop) (cs ss : Nat) (S : State) : Prop :=
  ∃ (U : State) (o : Outcome), Steps p.tables e below S U ∧ U.status = .running ∧ Ended U below o ∧ ∃ v L, o = .returned v ∧ Q v U.heap L ∧ FrameEnd s o U L cs ss
variable {Q : Option Value → Heap → List Loc → Prop} {cs ss : Nat} {S S' : State}
theorem own_via (st : ∀ t, Steps p.tables e below S' t → Steps p.tables e below S t) (k : own_Go p e below s Q cs ss S') : own_Go p e below s Q cs ss S := by
  obtain ⟨U, o, h, r⟩ := k; exact ⟨U, o, st U h, r⟩
theorem own_viaT (st : Steps p.tables e below S S') (k : own_Go p e below s Q cs ss S') : own_Go p e below s Q cs ss S := own_via (fun _ h => st.trans h) k
theorem own_goV (X : Stand p l e R s m args below meth c T locs cells slots) (hx : p.tables.exec = Jvm.exec) {pc : Nat} {Ls : Array Slot} (hret : meth.sig.returnType = none) (hd : decode c.code pc = .ok (.return_, 1)) (hk : meth.locks = false) (hc : cells ≤ cs) (hs : slots ≤ ss) (hQ : Q none T.heap locs) :
    own_Go p e below s Q cs ss (T.setTop (mkF m pc Ls [])) := by
  obtain ⟨fs, hr, hrun, hended, hW, hsame⟩ := X.leave (v := none) (fun _ => rfl) hk
  exact ⟨_, _, X.returnOut hx hret hd hr, hrun, hended, _, _, rfl, hQ, ⟨_, rfl⟩, hW, hsame.mono hc hs⟩
theorem own_goN (X : Stand p l e R s m args below meth c T locs cells slots) (hx : p.tables.exec = Jvm.exec) {pc : Nat} {Ls : Array Slot} {z : Int32} {t : FieldType} {rest : List Value} (hret : meth.sig.returnType = some t) (ht : t = .boolean ∨ t = .byte ∨ t = .char ∨ t = .short) (hd : decode c.code pc = .ok (.ireturn, 1)) (hk : meth.locks = false) (hc : cells ≤ cs) (hs : slots ≤ ss) (hQ : Q (some (.int (nar t z))) T.heap locs) :
    own_Go p e below s Q cs ss (T.setTop (mkF m pc Ls (.int z :: rest))) := by
  obtain ⟨fs, hr, hrun, hended, hW, hsame⟩ := X.leave (v := some (.int (nar t z))) (fun h => by rw [hret] at h; cases h) hk
  exact ⟨_, _, retN X hx hret ht hd hr, hrun, hended, _, _, rfl, hQ, ⟨_, rfl⟩, hW, hsame.mono hc hs⟩
theorem own_goI (X : Stand p l e R s m args below meth c T locs cells slots) (hx : p.tables.exec = Jvm.exec) {pc : Nat} {Ls : Array Slot} {z : Int32} (hret : meth.sig.returnType = some .int) (hd : decode c.code pc = .ok (.ireturn, 1)) (hk : meth.locks = false) (hc : cells ≤ cs) (hs : slots ≤ ss) (hQ : Q (some (.int z)) T.heap locs) :
    own_Go p e below s Q cs ss (T.setTop (mkF m pc Ls [.int z])) := by
  obtain ⟨fs, hr, hrun, hended, hW, hsame⟩ := X.leave (v := some (.int z)) (fun h => by rw [hret] at h; cases h) hk
  exact ⟨_, _, X.ireturnOut hx hret rfl (Or.inl rfl) hd hr, hrun, hended, _, _, rfl, hQ, ⟨_, rfl⟩, hW, hsame.mono hc hs⟩
theorem own_goJ (X : Stand p l e R s m args below meth c T locs cells slots) (hx : p.tables.exec = Jvm.exec) {pc : Nat} {Ls : Array Slot} {z : Int64} (hret : meth.sig.returnType = some .long) (hd : decode c.code pc = .ok (.lreturn, 1)) (hk : meth.locks = false) (hc : cells ≤ cs) (hs : slots ≤ ss) (hQ : Q (some (.long z)) T.heap locs) :
    own_Go p e below s Q cs ss (T.setTop (mkF m pc Ls [.long z])) := by
  obtain ⟨fs, hr, hrun, hended, hW, hsame⟩ := X.leave (v := some (.long z)) (fun h => by rw [hret] at h; cases h) hk
  exact ⟨_, _, X.lreturnOut hx hret hd hr, hrun, hended, _, _, rfl, hQ, ⟨_, rfl⟩, hW, hsame.mono hc hs⟩
theorem own_goA (X : Stand p l e R s m args below meth c T locs cells slots) (hx : p.tables.exec = Jvm.exec) {pc : Nat} {Ls : Array Slot} {w : Value} {t : FieldType} (hw : w.isRef = true) (hret : meth.sig.returnType = some t) (ht : t.isReference = true) (hd : decode c.code pc = .ok (.areturn, 1)) (hk : meth.locks = false) (hc : cells ≤ cs) (hs : slots ≤ ss) (hQ : Q (some w) T.heap locs) :
    own_Go p e below s Q cs ss (T.setTop (mkF m pc Ls [w])) := by
  obtain ⟨fs, hr, hrun, hended, hW, hsame⟩ := X.leave (v := some w) (fun h => by rw [hret] at h; cases h) hk
  exact ⟨_, _, X.areturnOut hx hw hret ht hd hr, hrun, hended, _, _, rfl, hQ, ⟨_, rfl⟩, hW, hsame.mono hc hs⟩
theorem own_selP {s : State} {args : Array Value} {y y' : MethodName} (hs : (Cond.selects y'.cls y' y').before args s = true) (hc : y'.cls = y.cls) (hpriv : s.PrivateAt y) (hinst : (Cond.instanceMethod y).before args s = true) (hy : y.cls ≠ "java/lang/invoke/MethodHandle" ∧ y.cls ≠ "java/lang/invoke/VarHandle") : (Cond.selects y.cls y y).before args s = true := by
  obtain ⟨c2, r2, m2, -, -, q3, -, kP, hkP, hkPi⟩ := Cond.selects_spec hs
  exact selects_self_of_private (hc ▸ findClass_of_methodNamed q3) hkP hkPi hpriv hinst hy
end OwnGo
def o_i2l (x : Int32) : Int64 := x.toInt64
def o_l2i (x : Int64) : Int32 := x.toInt32
def o_i2b (x : Int32) : Int32 := x.toInt8.toInt32
def o_i2s (x : Int32) : Int32 := x.toInt16.toInt32
def o_i2c (x : Int32) : Int32 := x.toUInt32.toUInt16.toUInt32.toInt32
def o_ishl (x y : Int32) : Int32 := x <<< (y &&& 31)
def o_ishr (x y : Int32) : Int32 := x >>> (y &&& 31)
def o_iushr (x y : Int32) : Int32 := (x.toUInt32 >>> (y &&& 31).toUInt32).toInt32
def o_lshl (x : Int64) (y : Int32) : Int64 := x <<< (y &&& 0x3f).toInt64
def o_lshr (x : Int64) (y : Int32) : Int64 := x >>> (y &&& 0x3f).toInt64
def o_lushr (x : Int64) (y : Int32) : Int64 := (x.toUInt64 >>> (y &&& 0x3f).toInt64.toUInt64).toInt64
def o_irem (x y : Int32) : Int32 := x - (x / y) * y
def o_lrem (x y : Int64) : Int64 := x - (x / y) * y
def o_d0 : UInt64 := FP.dconst0
def o_d1 : UInt64 := FP.dconst1
theorem d5_0 : decode jdk_29_method_69_code 0 = .ok (.iload_n 0, 1) := by decide +kernel
theorem d5_1 : decode jdk_29_method_69_code 1 = .ok (.iload_n 1, 1) := by decide +kernel
theorem d5_2 : decode jdk_29_method_69_code 2 = .ok (.if_icmp .gt 7, 3) := by decide +kernel
theorem d5_9 : decode jdk_29_method_69_code 9 = .ok (.iload_n 1, 1) := by decide +kernel
theorem d5_10 : decode jdk_29_method_69_code 10 = .ok (.ireturn, 1) := by decide +kernel
theorem d5_5 : decode jdk_29_method_69_code 5 = .ok (.iload_n 0, 1) := by decide +kernel
theorem d5_6 : decode jdk_29_method_69_code 6 = .ok (.goto 4, 3) := by decide +kernel
def own_min (p0 : Int32) (p1 : Int32) : Int32 := (if p1 < p0 then p1 else p0)
theorem ef_5 (m : MethodId) (x0 : Int32) (x1 : Int32) : entryFrame m #[(.int x0), (.int x1)] 2 = mkF m 0 #[.val (.int x0), .val (.int x1)] [] := by first | (simp [entryFrame, mkF, argsToLocals, Value.category]; done) | rfl
def Q5 (Z : State) (p0 : Int32) (p1 : Int32) (h0 : Heap) (n0 : Nat) (v : Option Value) (h : Heap) (L : List Loc) : Prop := v = some (.int (own_min p0 p1)) ∧ Fr n0 L ∧ h = h0
set_option maxRecDepth 65536 in
set_option maxHeartbeats 40000000 in
theorem rm5 (l : Launch) (Z : State) (a0 : Array Value) (hw : ∀ d ∈ tables_1, d.before a0 Z = true) (ws : List Jvm.Cond) (p0 : Int32) (p1 : Int32) (h0 : Heap) (n0 : Nat) (Z0 : n0 ≤ h0.size) :
    MetFree l (⟨"java/lang/Math", "min", "(II)I"⟩ : MethodName) (head1 (Jvm.Cond.code (⟨"java/lang/Math", "min", "(II)I"⟩ : MethodName) jdk_29_method_69_code 2 (some .int) :: ws) ({ frames := 0, cells := 0, slots := 0, locals := 0 } : Room)) (fun q_ U => q_ = #[(.int p0), (.int p1)] ∧ Z.Warmed39 U.vm ∧ U.heap = h0) (fun _ _ _ _ _ => True) (fun _ U o U' => ∃ v L, o = .returned v ∧ Q5 Z p0 p1 h0 n0 v U'.heap L ∧ FrameEnd U o U' L ({ frames := 0, cells := 0, slots := 0, locals := 0 } : Room).cells ({ frames := 0, cells := 0, slots := 0, locals := 0 } : Room).slots) := by
  refine MetFree.of_bodySF (Jvm.Free.JP.mathPlain rfl (by decide +kernel)) hisR ?_
  intro p e s m args below meth c s₁ Bd hml0 hP hK
  obtain ⟨rfl, hZ, hh⟩ := hP
  have hx := Bd.exec
  have hby := Bd.bytes
  have hml : c.maxLocals = 2 := hml0
  have hown : s.vm.findClass "java/lang/Math" = some m.cls := findClass_of_methodNamed Bd.named
  have hnm := (name_of_methodNamed Bd.named Bd.method).1
  have X0 : Stand p l e ({ frames := 0, cells := 0, slots := 0, locals := 0 } : Room) s m #[(.int p0), (.int p1)] below meth c s₁ [] 0 0 := Stand.of_body Bd
  have e0 : s₁.heap = h0 := by rw [← hh, Bd.state]; rfl
  have N0 := Fr.nil n0
  show own_Go p e below s (Q5 Z p0 p1 h0 n0) ({ frames := 0, cells := 0, slots := 0, locals := 0 } : Room).cells ({ frames := 0, cells := 0, slots := 0, locals := 0 } : Room).slots (s₁.setTop (entryFrame m #[(.int p0), (.int p1)] 2))
  refine own_via (fun t k => castTop (ef_5 m p0 p1) k) ?_
  show own_Go p e below s _ _ _ (s₁.setTop (mkF m 0 #[.val (.int p0), .val (.int p1)] []))
  refine own_via (fun _ k => XS.iloadN X0.here hx rfl (hb hby d5_0) rfl k) ?_
  show own_Go p e below s _ _ _ (s₁.setTop (mkF m 1 #[.val (.int p0), .val (.int p1)] [(.int p0)]))
  refine own_via (fun _ k => XS.iloadN X0.here hx rfl (hb hby d5_1) rfl k) ?_
  show own_Go p e below s _ _ _ (s₁.setTop (mkF m 2 #[.val (.int p0), .val (.int p1)] [(.int p1), (.int p0)]))
  by_cases hc1 : p1 < p0
  · refine own_via (fun _ k => XS.icmpYes X0.here hx rfl (pc0 := 2) (pc' := 9) rfl (hb hby d5_2) rfl (Jvm.Free.XT.ii_gt_t hc1) (by decide) (by decide) k) ?_
    show own_Go p e below s _ _ _ (s₁.setTop (mkF m 9 #[.val (.int p0), .val (.int p1)] []))
    refine own_via (fun _ k => XS.iloadN X0.here hx rfl (hb hby d5_9) rfl k) ?_
    show own_Go p e below s _ _ _ (s₁.setTop (mkF m 10 #[.val (.int p0), .val (.int p1)] [(.int p1)]))
    exact own_goI X0 hx Bd.returns (hb hby d5_10) Bd.notSynchronized (by decide) (by decide) (by rw [e0]; exact ⟨by rw [own_min, if_pos hc1] <;> rfl, N0, rfl⟩)
  · refine own_via (fun _ k => XS.icmpNo X0.here hx rfl (hb hby d5_2) rfl (Jvm.Free.XT.ii_gt_f hc1) k) ?_
    show own_Go p e below s _ _ _ (s₁.setTop (mkF m 5 #[.val (.int p0), .val (.int p1)] []))
    refine own_via (fun _ k => XS.iloadN X0.here hx rfl (hb hby d5_5) rfl k) ?_
    show own_Go p e below s _ _ _ (s₁.setTop (mkF m 6 #[.val (.int p0), .val (.int p1)] [(.int p0)]))
    refine own_via (fun _ k => XS.goto X0.here hx rfl (pc0 := 6) (pc' := 10) rfl (hb hby d5_6) (by decide) (by decide) k) ?_
    show own_Go p e below s _ _ _ (s₁.setTop (mkF m 10 #[.val (.int p0), .val (.int p1)] [(.int p0)]))
    exact own_goI X0 hx Bd.returns (hb hby d5_10) Bd.notSynchronized (by decide) (by decide) (by rw [e0]; exact ⟨by rw [own_min, if_neg hc1] <;> rfl, N0, rfl⟩)

theorem own_t (n : Nat) (h : n ≤ 16) : (Nat.toInt32 n).toInt = n := len_toInt (by omega)
theorem own_ltn {i j : Nat} (hj : j ≤ 16) (hi : i ≤ 16) : (Nat.toInt32 i) < (Nat.toInt32 j) ↔ i < j := by
  rw [Int32.lt_iff_toInt_lt, own_t i hi, own_t j hj]; omega
theorem own_nn {i : Nat} (hi : i ≤ 16) : ¬ (Nat.toInt32 i) < 0 := by
  rw [Int32.lt_iff_toInt_lt, own_t i hi]; simp only [Int32.reduceToInt]; omega
theorem own_nc {i : Nat} (hi : i ≤ 16) : (Nat.toInt32 i).toNatClampNeg = i := by simp only [Int32.toNatClampNeg, own_t i hi]; omega
theorem own_succ (i : Nat) : (Nat.toInt32 i) + (1 : Int32) = Nat.toInt32 (i + 1) := by
  apply Int32.toBitVec_inj.mp
  show BitVec.ofNat 32 i + 1#32 = BitVec.ofNat 32 (i + 1)
  apply BitVec.eq_of_toNat_eq; simp [BitVec.toNat_add]
theorem own_pred {i : Nat} (h : 0 < i) : (Nat.toInt32 i) - (1 : Int32) = Nat.toInt32 (i - 1) := by
  have q := own_succ (i - 1)
  rw [show i - 1 + 1 = i by omega] at q
  rw [← q, Int32.add_sub_cancel]
theorem own_pred' {i : Nat} (h : 0 < i) : (Nat.toInt32 i) + (-1 : Int32) = Nat.toInt32 (i - 1) := by
  rw [← own_pred h, Int32.sub_eq_add_neg]
theorem own_eqn {i j : Nat} (hi : i ≤ 16) (hj : j ≤ 16) : (Nat.toInt32 i) = (Nat.toInt32 j) ↔ i = j := by
  rw [← Int32.toInt_inj, own_t i hi, own_t j hj]; omega
theorem own_inb {i : Nat} {z : Int32} (hi : i ≤ 16) (hz : (i : Int) < z.toInt) : ¬ (Nat.toInt32 i) < 0 ∧ (Nat.toInt32 i) < z := by
  refine ⟨own_nn hi, ?_⟩
  rw [Int32.lt_iff_toInt_lt, own_t i hi]; exact hz
def own_g (us : List Int32) (i : Nat) : Int32 := us.getD i 0
theorem own_gm (us : List Int32) {i : Nat} (hi : i ≤ 16) : (us.map Value.int).getD (Nat.toInt32 i).toNatClampNeg (.int (0 : Int32)) = .int (own_g us i) := by
  rw [own_nc hi]
  simp only [own_g, List.getD_eq_getElem?_getD, List.getElem?_map]
  cases us[i]? <;> rfl


theorem own_subn {a b : Nat} (h : b ≤ a) (ha : a ≤ 16) : (Nat.toInt32 a) - (Nat.toInt32 b) = Nat.toInt32 (a - b) := by
  have := c_isub (Nat.toInt32 a) (Nat.toInt32 b); have := rng32 (Nat.toInt32 a - Nat.toInt32 b); have := own_t a ha; have := own_t b (by omega)
  apply Int32.toInt_inj.mp; rw [own_t (a - b) (by omega)]; omega
theorem own_addn {a b : Nat} (h : a + b ≤ 16) : (Nat.toInt32 a) + (Nat.toInt32 b) = Nat.toInt32 (a + b) := by
  have := c_iadd (Nat.toInt32 a) (Nat.toInt32 b); have := rng32 (Nat.toInt32 a + Nat.toInt32 b); have := own_t a (by omega); have := own_t b (by omega)
  apply Int32.toInt_inj.mp; rw [own_t (a + b) (by omega)]; omega
theorem own_minr {a b : Nat} (h : b ≤ a) (ha : a ≤ 16) : own_min (Nat.toInt32 a) (Nat.toInt32 b) = Nat.toInt32 b := by
  unfold own_min
  split
  · rfl
  · rename_i q; rw [own_ltn ha (by omega)] at q; rw [show a = b by omega]
def own_sub (us : List Int32) (s n : Nat) : List Int32 := (List.range n).map fun i => us.getD (s + i) 0
theorem own_sub_g {us : List Int32} {s n i : Nat} (h : i < n) : own_g (own_sub us s n) i = own_g us (s + i) := by
  simp [own_g, own_sub, List.getD_eq_getElem?_getD, h]
theorem own_mapD (us : List Int32) (i : Nat) : (us.map Value.int).getD i (.int (0 : Int32)) = .int (us.getD i 0) := by
  simp only [List.getD_eq_getElem?_getD, List.getElem?_map]
  cases us[i]? <;> rfl
theorem own_sub_D (us : List Int32) (s n i : Nat) : (own_sub us s n).getD i 0 = if i < n then us.getD (s + i) 0 else 0 := by
  by_cases h : i < n
  · simp [own_sub, List.getD_eq_getElem?_getD, h]
  · simp [own_sub, List.getD_eq_getElem?_getD, h]
theorem own_pad4 (us : List Int32) {s n N : Nat} {S0 M0 : Nat} (hs : S0 = s) (hm : M0 = n) (hN : n ≤ 4) : ∀ i, ((own_sub us s n).map Value.int).getD i (.int (0 : Int32)) = (([(.int (0 : Int32)), (.int (0 : Int32)), (.int (0 : Int32)), (.int (0 : Int32))] : List Value).take ((0 : Int32)).toNatClampNeg ++ (List.range M0).map (fun i => (us.map Value.int).getD (S0 + i) (.int (0 : Int32))) ++ ([(.int (0 : Int32)), (.int (0 : Int32)), (.int (0 : Int32)), (.int (0 : Int32))] : List Value).drop (((0 : Int32)).toNatClampNeg + M0)).getD i (.int (0 : Int32)) := by
  subst hs hm
  intro i
  rw [own_mapD, own_sub_D]
  have z : ((0 : Int32)).toNatClampNeg = 0 := rfl
  simp only [z, List.take_zero, List.nil_append, Nat.zero_add]
  by_cases h : i < M0
  · simp [List.getD_eq_getElem?_getD, List.getElem?_append, h]
  · rw [if_neg h]
    have e : ([(.int (0 : Int32)), (.int (0 : Int32)), (.int (0 : Int32)), (.int (0 : Int32))] : List Value) = List.replicate 4 (.int 0) := rfl
    rw [e, List.drop_replicate]
    simp [List.getD_eq_getElem?_getD, List.getElem?_append, h, List.getElem?_replicate]
    split <;> rfl
theorem own_pad5 {us : List Int32} (h : us.length = 4) : ∀ i, ((own_sub us 0 4).map Value.int).getD i (.int (0 : Int32)) = (us.map Value.int).getD i (.int (0 : Int32)) := by
  intro i
  rw [own_mapD, own_mapD, own_sub_D]
  by_cases q : i < 4
  · rw [if_pos q, Nat.zero_add]
  · rw [if_neg q]; simp [List.getD_eq_getElem?_getD, List.getElem?_eq_none (by omega : us.length ≤ i)]

theorem d4_0 : decode jdk_65_method_131_code 0 = .ok (.iload_n 1, 1) := by decide +kernel
theorem d4_1 : decode jdk_65_method_131_code 1 = .ok (.iload_n 0, 1) := by decide +kernel
theorem d4_2 : decode jdk_65_method_131_code 2 = .ok (.if_icmp .ge 35, 3) := by decide +kernel
theorem d4_37 : decode jdk_65_method_131_code 37 = .ok (.return_, 1) := by decide +kernel
theorem pn_0 : plainName "java/util/Arrays" = true := by first | (simp [plainName, overriddenIn]; done) | decide +kernel
theorem ef_4 (m : MethodId) (x0 : Int32) (x1 : Int32) : entryFrame m #[(.int x0), (.int x1)] 2 = mkF m 0 #[.val (.int x0), .val (.int x1)] [] := by first | (simp [entryFrame, mkF, argsToLocals, Value.category]; done) | rfl
def Q4 (Z : State) (pa_ : Int32) (pb_ : Int32) (h0 : Heap) (n0 : Nat) (v : Option Value) (h : Heap) (L : List Loc) : Prop := v = none ∧ Fr n0 L ∧ h = h0
set_option maxRecDepth 65536 in
set_option maxHeartbeats 40000000 in
theorem rm4 (l : Launch) (Z : State) (a0 : Array Value) (hw : ∀ d ∈ tables_1, d.before a0 Z = true) (ws : List Jvm.Cond) (pa_ : Int32) (pb_ : Int32) (h0 : Heap) (n0 : Nat) (Z0 : n0 ≤ h0.size) (hp0 : ¬ pb_ < pa_) :
    MetFree l (⟨"java/util/Arrays", "checkLength", "(II)V"⟩ : MethodName) (head1 (Jvm.Cond.code (⟨"java/util/Arrays", "checkLength", "(II)V"⟩ : MethodName) jdk_65_method_131_code 2 none :: ws) ({ frames := 0, cells := 0, slots := 0, locals := 0 } : Room)) (fun q_ U => q_ = #[(.int pa_), (.int pb_)] ∧ Z.Warmed39 U.vm ∧ U.heap = h0) (fun _ _ _ _ _ => True) (fun _ U o U' => ∃ v L, o = .returned v ∧ Q4 Z pa_ pb_ h0 n0 v U'.heap L ∧ FrameEnd U o U' L ({ frames := 0, cells := 0, slots := 0, locals := 0 } : Room).cells ({ frames := 0, cells := 0, slots := 0, locals := 0 } : Room).slots) := by
  refine MetFree.of_bodySF (plainFor_of_name pn_0) hisR ?_
  intro p e s m args below meth c s₁ Bd hml0 hP hK
  obtain ⟨rfl, hZ, hh⟩ := hP
  have hx := Bd.exec
  have hby := Bd.bytes
  have hml : c.maxLocals = 2 := hml0
  have hown : s.vm.findClass "java/util/Arrays" = some m.cls := findClass_of_methodNamed Bd.named
  have hnm := (name_of_methodNamed Bd.named Bd.method).1
  have X0 : Stand p l e ({ frames := 0, cells := 0, slots := 0, locals := 0 } : Room) s m #[(.int pa_), (.int pb_)] below meth c s₁ [] 0 0 := Stand.of_body Bd
  have e0 : s₁.heap = h0 := by rw [← hh, Bd.state]; rfl
  have N0 := Fr.nil n0
  show own_Go p e below s (Q4 Z pa_ pb_ h0 n0) ({ frames := 0, cells := 0, slots := 0, locals := 0 } : Room).cells ({ frames := 0, cells := 0, slots := 0, locals := 0 } : Room).slots (s₁.setTop (entryFrame m #[(.int pa_), (.int pb_)] 2))
  refine own_via (fun t k => castTop (ef_4 m pa_ pb_) k) ?_
  show own_Go p e below s _ _ _ (s₁.setTop (mkF m 0 #[.val (.int pa_), .val (.int pb_)] []))
  refine own_via (fun _ k => XS.iloadN X0.here hx rfl (hb hby d4_0) rfl k) ?_
  show own_Go p e below s _ _ _ (s₁.setTop (mkF m 1 #[.val (.int pa_), .val (.int pb_)] [(.int pb_)]))
  refine own_via (fun _ k => XS.iloadN X0.here hx rfl (hb hby d4_1) rfl k) ?_
  show own_Go p e below s _ _ _ (s₁.setTop (mkF m 2 #[.val (.int pa_), .val (.int pb_)] [(.int pa_), (.int pb_)]))
  have hc1 : ¬ (pb_ < pa_) := hp0
  refine own_via (fun _ k => XS.icmpYes X0.here hx rfl (pc0 := 2) (pc' := 37) rfl (hb hby d4_2) rfl (Jvm.Free.XT.ii_ge_t hc1) (by decide) (by decide) k) ?_
  show own_Go p e below s _ _ _ (s₁.setTop (mkF m 37 #[.val (.int pa_), .val (.int pb_)] []))
  exact own_goV X0 hx Bd.returns (hb hby d4_37) Bd.notSynchronized (by decide) (by decide) (by rw [e0]; exact ⟨rfl, N0, rfl⟩)
theorem d3_0 : decode jdk_65_method_137_code 0 = .ok (.iload_n 1, 1) := by decide +kernel
theorem d3_1 : decode jdk_65_method_137_code 1 = .ok (.iload_n 2, 1) := by decide +kernel
theorem pd_0 : parseMethodDescriptor "(II)V" = some ⟨[.int, .int], none⟩ := by decide +kernel
theorem d3_2 : decode jdk_65_method_137_code 2 = .ok (.invokestatic 343, 3) := by decide +kernel
theorem d3_5 : decode jdk_65_method_137_code 5 = .ok (.iload_n 2, 1) := by decide +kernel
theorem d3_6 : decode jdk_65_method_137_code 6 = .ok (.iload_n 1, 1) := by decide +kernel
theorem d3_7 : decode jdk_65_method_137_code 7 = .ok (.isub, 1) := by decide +kernel
theorem d3_8 : decode jdk_65_method_137_code 8 = .ok (.istore_n 3, 1) := by decide +kernel
theorem d3_9 : decode jdk_65_method_137_code 9 = .ok (.iload_n 3, 1) := by decide +kernel
theorem d3_10 : decode jdk_65_method_137_code 10 = .ok (.newarray .int, 2) := by decide +kernel
theorem d3_12 : decode jdk_65_method_137_code 12 = .ok (.astore 4, 2) := by decide +kernel
theorem d3_14 : decode jdk_65_method_137_code 14 = .ok (.aload_n 0, 1) := by decide +kernel
theorem d3_15 : decode jdk_65_method_137_code 15 = .ok (.iload_n 1, 1) := by decide +kernel
theorem d3_16 : decode jdk_65_method_137_code 16 = .ok (.aload 4, 2) := by decide +kernel
theorem d3_18 : decode jdk_65_method_137_code 18 = .ok (.iconst 0, 1) := by decide +kernel
theorem d3_19 : decode jdk_65_method_137_code 19 = .ok (.aload_n 0, 1) := by decide +kernel
theorem d3_20 : decode jdk_65_method_137_code 20 = .ok (.arraylength, 1) := by decide +kernel
theorem d3_21 : decode jdk_65_method_137_code 21 = .ok (.iload_n 1, 1) := by decide +kernel
theorem d3_22 : decode jdk_65_method_137_code 22 = .ok (.isub, 1) := by decide +kernel
theorem d3_23 : decode jdk_65_method_137_code 23 = .ok (.iload_n 3, 1) := by decide +kernel
theorem pd_1 : parseMethodDescriptor "(II)I" = some ⟨[.int, .int], some .int⟩ := by decide +kernel
theorem d3_24 : decode jdk_65_method_137_code 24 = .ok (.invokestatic 304, 3) := by decide +kernel
theorem d3_27 : decode jdk_65_method_137_code 27 = .ok (.invokestatic 150, 3) := by decide +kernel
theorem d3_30 : decode jdk_65_method_137_code 30 = .ok (.aload 4, 2) := by decide +kernel
theorem d3_32 : decode jdk_65_method_137_code 32 = .ok (.areturn, 1) := by decide +kernel
theorem ef_3 (m : MethodId) (x0 : Addr) (x1 : Int32) (x2 : Int32) : entryFrame m #[(.ref x0), (.int x1), (.int x2)] 5 = mkF m 0 #[.val (.ref x0), .val (.int x1), .val (.int x2), .unset, .unset] [] := by first | (simp [entryFrame, mkF, argsToLocals, Value.category]; done) | rfl
def Q3 (Z : State) (b_ : Addr) (pf_ : Int32) (pt_ : Int32) (k_ : ClassId) (us_ : List Int32) (s_ : Nat) (n_ : Nat) (h0 : Heap) (n0 : Nat) (v : Option Value) (h : Heap) (L : List Loc) : Prop := ∃ c_ : Addr, ∃ kc_ : ClassId, v = some (.ref c_) ∧ Fr n0 L ∧ Keep h0 h [] ∧ h0.size ≤ c_ ∧ Arv Z h c_ kc_ .int (Nat.toInt32 n_) ((own_sub us_ s_ n_).map Value.int) (.int (0 : Int32))
set_option maxRecDepth 65536 in
set_option maxHeartbeats 40000000 in
theorem rm3 (l : Launch) (Z : State) (a0 : Array Value) (hw : ∀ d ∈ tables_1, d.before a0 Z = true) (ws : List Jvm.Cond) (b_ : Addr) (pf_ : Int32) (pt_ : Int32) (k_ : ClassId) (us_ : List Int32) (s_ : Nat) (n_ : Nat) (h0 : Heap) (n0 : Nat) (Z0 : n0 ≤ h0.size) (V_b_ : Arv Z h0 b_ k_ .int (4 : Int32) (us_.map Value.int) (.int (0 : Int32))) (hp1 : pf_ = Nat.toInt32 s_) (hp2 : pt_ = Nat.toInt32 (s_ + n_)) (hp3 : s_ + n_ ≤ 4) :
    MetFree l (⟨"java/util/Arrays", "copyOfRangeInt", "([III)[I"⟩ : MethodName) (head1 (Jvm.Cond.code (⟨"java/util/Arrays", "copyOfRangeInt", "([III)[I"⟩ : MethodName) jdk_65_method_137_code 5 (some (.array .int)) :: ws) ({ frames := 1, cells := 1, slots := 4, locals := 18 } : Room)) (fun q_ U => q_ = #[(.ref b_), (.int pf_), (.int pt_)] ∧ Z.Warmed39 U.vm ∧ U.heap = h0) (fun _ _ _ _ _ => True) (fun _ U o U' => ∃ v L, o = .returned v ∧ Q3 Z b_ pf_ pt_ k_ us_ s_ n_ h0 n0 v U'.heap L ∧ FrameEnd U o U' L ({ frames := 1, cells := 1, slots := 4, locals := 18 } : Room).cells ({ frames := 1, cells := 1, slots := 4, locals := 18 } : Room).slots) := by
  refine MetFree.of_bodySF (plainFor_of_name pn_0) hisR ?_
  intro p e s m args below meth c s₁ Bd hml0 hP hK
  obtain ⟨rfl, hZ, hh⟩ := hP
  have hx := Bd.exec
  have hby := Bd.bytes
  have hml : c.maxLocals = 5 := hml0
  have hown : s.vm.findClass "java/util/Arrays" = some m.cls := findClass_of_methodNamed Bd.named
  have hnm := (name_of_methodNamed Bd.named Bd.method).1
  have X0 : Stand p l e ({ frames := 1, cells := 1, slots := 4, locals := 18 } : Room) s m #[(.ref b_), (.int pf_), (.int pt_)] below meth c s₁ [] 0 0 := Stand.of_body Bd
  have e0 : s₁.heap = h0 := by rw [← hh, Bd.state]; rfl
  have N0 := Fr.nil n0
  show own_Go p e below s (Q3 Z b_ pf_ pt_ k_ us_ s_ n_ h0 n0) ({ frames := 1, cells := 1, slots := 4, locals := 18 } : Room).cells ({ frames := 1, cells := 1, slots := 4, locals := 18 } : Room).slots (s₁.setTop (entryFrame m #[(.ref b_), (.int pf_), (.int pt_)] 5))
  refine own_via (fun t k => castTop (ef_3 m b_ pf_ pt_) k) ?_
  have K0 : Keep h0 h0 [] := Keep.refl _ _
  show own_Go p e below s _ _ _ (s₁.setTop (mkF m 0 #[.val (.ref b_), .val (.int pf_), .val (.int pt_), .unset, .unset] []))
  subst hp1 hp2
  show own_Go p e below s _ _ _ (s₁.setTop (mkF m 0 #[.val (.ref b_), .val (.int (Nat.toInt32 s_)), .val (.int (Nat.toInt32 (s_ + n_))), .unset, .unset] []))
  refine own_via (fun _ k => XS.iloadN X0.here hx rfl (hb hby d3_0) rfl k) ?_
  show own_Go p e below s _ _ _ (s₁.setTop (mkF m 1 #[.val (.ref b_), .val (.int (Nat.toInt32 s_)), .val (.int (Nat.toInt32 (s_ + n_))), .unset, .unset] [(.int (Nat.toInt32 s_))]))
  refine own_via (fun _ k => XS.iloadN X0.here hx rfl (hb hby d3_1) rfl k) ?_
  show own_Go p e below s _ _ _ (s₁.setTop (mkF m 2 #[.val (.ref b_), .val (.int (Nat.toInt32 s_)), .val (.int (Nat.toInt32 (s_ + n_))), .unset, .unset] [(.int (Nat.toInt32 (s_ + n_))), (.int (Nat.toInt32 s_))]))
  obtain ⟨_, _, ⟨T1, L1, k1, n1⟩, -, X1, ⟨Lc1, hQ1, l1, y1, z1⟩, st1⟩ := Jvm.LawKit.callS X0 hx (y := (⟨"java/util/Arrays", "checkLength", "(II)V"⟩ : MethodName)) hown (mvT hZ (hw _ (List.mem_of_getElem? (i := 15) rfl))) (mvT hZ (hw _ (List.mem_of_getElem? (i := 16) rfl))) (mvT hZ (hw _ (List.mem_of_getElem? (i := 10) rfl))) (mvT hZ (hw _ (List.mem_of_getElem? (i := 17) rfl))) (by decide) (backOf (W := 0) (rm4 l Z a0 hw [] (Nat.toInt32 s_) (Nat.toInt32 (s_ + n_)) h0 n0 Z0 (fun q => absurd ((own_ltn (by omega) (by omega)).mp q) (by omega))) hZ (hw _ (List.mem_of_getElem? (i := 17) rfl)) (hw _ (List.mem_of_getElem? (i := 10) rfl)) (by decide) (by decide)) (g := (mkF m 2 #[.val (.ref b_), .val (.int (Nat.toInt32 s_)), .val (.int (Nat.toInt32 (s_ + n_))), .unset, .unset] [(.int (Nat.toInt32 (s_ + n_))), (.int (Nat.toInt32 s_))])) rfl (by rw [hml]; rfl) (argsL := [(.int (Nat.toInt32 s_)), (.int (Nat.toInt32 (s_ + n_)))]) (rest := []) (lenOf pd_0 rfl) rfl (by show 2 * 0 + _ ≤ _; exact Nat.le_of_eq rfl) (hb hby d3_2) (fun _ _ => ⟨rfl, e0, (by decide : 0 + 0 ≤ _), (by decide : 0 + 0 ≤ _)⟩)
  dsimp only [Pt.U, Pt.locs, Pt.cells, Pt.slots] at X1 l1 y1 z1 st1 hQ1
  subst l1 y1 z1
  obtain ⟨rfl, N1q, e1⟩ := hQ1
  have N1 := Fr.app N0 N1q
  refine own_via st1 ?_
  show own_Go p e below s _ _ _ (T1.setTop (mkF m 5 #[.val (.ref b_), .val (.int (Nat.toInt32 s_)), .val (.int (Nat.toInt32 (s_ + n_))), .unset, .unset] []))
  refine own_via (fun _ k => XS.iloadN X1.here hx rfl (hb hby d3_5) rfl k) ?_
  show own_Go p e below s _ _ _ (T1.setTop (mkF m 6 #[.val (.ref b_), .val (.int (Nat.toInt32 s_)), .val (.int (Nat.toInt32 (s_ + n_))), .unset, .unset] [(.int (Nat.toInt32 (s_ + n_)))]))
  refine own_via (fun _ k => XS.iloadN X1.here hx rfl (hb hby d3_6) rfl k) ?_
  show own_Go p e below s _ _ _ (T1.setTop (mkF m 7 #[.val (.ref b_), .val (.int (Nat.toInt32 s_)), .val (.int (Nat.toInt32 (s_ + n_))), .unset, .unset] [(.int (Nat.toInt32 s_)), (.int (Nat.toInt32 (s_ + n_)))]))
  refine own_via (fun _ k => XS.isub X1.here hx rfl (hb hby d3_7) rfl k) ?_
  show own_Go p e below s _ _ _ (T1.setTop (mkF m 8 #[.val (.ref b_), .val (.int (Nat.toInt32 s_)), .val (.int (Nat.toInt32 (s_ + n_))), .unset, .unset] [(.int ((Nat.toInt32 (s_ + n_)) - (Nat.toInt32 s_)))]))
  rw [show ((Nat.toInt32 (s_ + n_)) - (Nat.toInt32 s_)) = (Nat.toInt32 n_) from (by rw [own_subn (by omega) (by omega), show s_ + n_ - s_ = n_ by omega])]
  show own_Go p e below s _ _ _ (T1.setTop (mkF m 8 #[.val (.ref b_), .val (.int (Nat.toInt32 s_)), .val (.int (Nat.toInt32 (s_ + n_))), .unset, .unset] [(.int (Nat.toInt32 n_))]))
  refine own_via (fun _ k => XS.istoreN X1.here hx rfl (hb hby d3_8) rfl (l' := #[.val (.ref b_), .val (.int (Nat.toInt32 s_)), .val (.int (Nat.toInt32 (s_ + n_))), .val (.int (Nat.toInt32 n_)), .unset]) rfl k) ?_
  show own_Go p e below s _ _ _ (T1.setTop (mkF m 9 #[.val (.ref b_), .val (.int (Nat.toInt32 s_)), .val (.int (Nat.toInt32 (s_ + n_))), .val (.int (Nat.toInt32 n_)), .unset] []))
  refine own_via (fun _ k => XS.iloadN X1.here hx rfl (hb hby d3_9) rfl k) ?_
  show own_Go p e below s _ _ _ (T1.setTop (mkF m 10 #[.val (.ref b_), .val (.int (Nat.toInt32 s_)), .val (.int (Nat.toInt32 (s_ + n_))), .val (.int (Nat.toInt32 n_)), .unset] [(.int (Nat.toInt32 n_))]))
  obtain ⟨T2, h2, k2, X2, e2, E2, A2, st2⟩ := newP X1 hx hZ (hw _ (List.mem_of_getElem? (i := 1) rfl)) e1 (g := (mkF m 10 #[.val (.ref b_), .val (.int (Nat.toInt32 s_)), .val (.int (Nat.toInt32 (s_ + n_))), .val (.int (Nat.toInt32 n_)), .unset] [(.int (Nat.toInt32 n_))])) rfl (hb hby d3_10) rfl (own_nn (by omega)) (cap := 4) (by rw [own_nc (by omega)]; omega) (by decide) (by decide) (by decide)
  obtain ⟨b2, gg2⟩ : ∃ z, z = h0.size := ⟨_, rfl⟩
  rw [← gg2] at A2 st2
  have ne_b__b2 : b_ ≠ b2 := Nat.ne_of_lt (Nat.lt_of_lt_of_le V_b_.lt (Nat.le_of_eq gg2.symm))
  have g_b2 : n0 ≤ b2 := Nat.le_trans Z0 (Nat.le_of_eq gg2.symm)
  have sz_b2 : h0.size ≤ b2 := Nat.le_trans K0.1 (Nat.le_of_eq gg2.symm)
  have Z2 : n0 ≤ h2.size := Nat.le_trans Z0 E2.1
  have K2 : Keep h0 h2 [] := K0.ext E2
  have V2 : Arv Z h2 b2 k2 .int (Nat.toInt32 n_) [(.int (0 : Int32)), (.int (0 : Int32)), (.int (0 : Int32)), (.int (0 : Int32))] (.int (0 : Int32)) := (Arv.new A2 (own_nn (by omega))).pad (pad_rep [] (.int (0 : Int32)) 4)
  refine own_via st2 ?_
  show own_Go p e below s _ _ _ (T2.setTop (mkF m 12 #[.val (.ref b_), .val (.int (Nat.toInt32 s_)), .val (.int (Nat.toInt32 (s_ + n_))), .val (.int (Nat.toInt32 n_)), .unset] [(.ref b2)]))
  refine own_via (fun _ k => XS.astore X2.here hx rfl (hb hby d3_12) rfl rfl (l' := #[.val (.ref b_), .val (.int (Nat.toInt32 s_)), .val (.int (Nat.toInt32 (s_ + n_))), .val (.int (Nat.toInt32 n_)), .val (.ref b2)]) rfl k) ?_
  show own_Go p e below s _ _ _ (T2.setTop (mkF m 14 #[.val (.ref b_), .val (.int (Nat.toInt32 s_)), .val (.int (Nat.toInt32 (s_ + n_))), .val (.int (Nat.toInt32 n_)), .val (.ref b2)] []))
  refine own_via (fun _ k => XS.aloadN X2.here hx rfl (hb hby d3_14) rfl rfl k) ?_
  show own_Go p e below s _ _ _ (T2.setTop (mkF m 15 #[.val (.ref b_), .val (.int (Nat.toInt32 s_)), .val (.int (Nat.toInt32 (s_ + n_))), .val (.int (Nat.toInt32 n_)), .val (.ref b2)] [(.ref b_)]))
  refine own_via (fun _ k => XS.iloadN X2.here hx rfl (hb hby d3_15) rfl k) ?_
  show own_Go p e below s _ _ _ (T2.setTop (mkF m 16 #[.val (.ref b_), .val (.int (Nat.toInt32 s_)), .val (.int (Nat.toInt32 (s_ + n_))), .val (.int (Nat.toInt32 n_)), .val (.ref b2)] [(.int (Nat.toInt32 s_)), (.ref b_)]))
  refine own_via (fun _ k => XS.aload X2.here hx rfl (hb hby d3_16) rfl rfl k) ?_
  show own_Go p e below s _ _ _ (T2.setTop (mkF m 18 #[.val (.ref b_), .val (.int (Nat.toInt32 s_)), .val (.int (Nat.toInt32 (s_ + n_))), .val (.int (Nat.toInt32 n_)), .val (.ref b2)] [(.ref b2), (.int (Nat.toInt32 s_)), (.ref b_)]))
  refine own_via (fun _ k => XS.iconst X2.here hx rfl (hb hby d3_18) k) ?_
  show own_Go p e below s _ _ _ (T2.setTop (mkF m 19 #[.val (.ref b_), .val (.int (Nat.toInt32 s_)), .val (.int (Nat.toInt32 (s_ + n_))), .val (.int (Nat.toInt32 n_)), .val (.ref b2)] [(.int (0 : Int32)), (.ref b2), (.int (Nat.toInt32 s_)), (.ref b_)]))
  refine own_via (fun _ k => XS.aloadN X2.here hx rfl (hb hby d3_19) rfl rfl k) ?_
  show own_Go p e below s _ _ _ (T2.setTop (mkF m 20 #[.val (.ref b_), .val (.int (Nat.toInt32 s_)), .val (.int (Nat.toInt32 (s_ + n_))), .val (.int (Nat.toInt32 n_)), .val (.ref b2)] [(.ref b_), (.int (0 : Int32)), (.ref b2), (.int (Nat.toInt32 s_)), (.ref b_)]))
  have F4 := (V_b_.ext E2)
  obtain ⟨cl3, Ar3, q3, S3, M3, H3, G3⟩ := (id F4)
  refine own_via (fun _ k => X2.arraylength hx (by rw [e2]; exact Ar3.1) (State.isArrayOf_alike hZ.alike Ar3.2.1) (g := (mkF m 20 #[.val (.ref b_), .val (.int (Nat.toInt32 s_)), .val (.int (Nat.toInt32 (s_ + n_))), .val (.int (Nat.toInt32 n_)), .val (.ref b2)] [(.ref b_), (.int (0 : Int32)), (.ref b2), (.int (Nat.toInt32 s_)), (.ref b_)])) rfl rfl (hb hby d3_20) _ (by rw [len_of S3 M3]; exact k)) ?_
  show own_Go p e below s _ _ _ (T2.setTop (mkF m 21 #[.val (.ref b_), .val (.int (Nat.toInt32 s_)), .val (.int (Nat.toInt32 (s_ + n_))), .val (.int (Nat.toInt32 n_)), .val (.ref b2)] [(.int (4 : Int32)), (.int (0 : Int32)), (.ref b2), (.int (Nat.toInt32 s_)), (.ref b_)]))
  refine own_via (fun _ k => XS.iloadN X2.here hx rfl (hb hby d3_21) rfl k) ?_
  show own_Go p e below s _ _ _ (T2.setTop (mkF m 22 #[.val (.ref b_), .val (.int (Nat.toInt32 s_)), .val (.int (Nat.toInt32 (s_ + n_))), .val (.int (Nat.toInt32 n_)), .val (.ref b2)] [(.int (Nat.toInt32 s_)), (.int (4 : Int32)), (.int (0 : Int32)), (.ref b2), (.int (Nat.toInt32 s_)), (.ref b_)]))
  refine own_via (fun _ k => XS.isub X2.here hx rfl (hb hby d3_22) rfl k) ?_
  show own_Go p e below s _ _ _ (T2.setTop (mkF m 23 #[.val (.ref b_), .val (.int (Nat.toInt32 s_)), .val (.int (Nat.toInt32 (s_ + n_))), .val (.int (Nat.toInt32 n_)), .val (.ref b2)] [(.int ((4 : Int32) - (Nat.toInt32 s_))), (.int (0 : Int32)), (.ref b2), (.int (Nat.toInt32 s_)), (.ref b_)]))
  rw [show ((4 : Int32) - (Nat.toInt32 s_)) = (Nat.toInt32 (4 - s_)) from (own_subn (a := 4) (by omega) (by omega))]
  show own_Go p e below s _ _ _ (T2.setTop (mkF m 23 #[.val (.ref b_), .val (.int (Nat.toInt32 s_)), .val (.int (Nat.toInt32 (s_ + n_))), .val (.int (Nat.toInt32 n_)), .val (.ref b2)] [(.int (Nat.toInt32 (4 - s_))), (.int (0 : Int32)), (.ref b2), (.int (Nat.toInt32 s_)), (.ref b_)]))
  refine own_via (fun _ k => XS.iloadN X2.here hx rfl (hb hby d3_23) rfl k) ?_
  show own_Go p e below s _ _ _ (T2.setTop (mkF m 24 #[.val (.ref b_), .val (.int (Nat.toInt32 s_)), .val (.int (Nat.toInt32 (s_ + n_))), .val (.int (Nat.toInt32 n_)), .val (.ref b2)] [(.int (Nat.toInt32 n_)), (.int (Nat.toInt32 (4 - s_))), (.int (0 : Int32)), (.ref b2), (.int (Nat.toInt32 s_)), (.ref b_)]))
  obtain ⟨_, _, ⟨T5, L5, k5, n5⟩, -, X5, ⟨Lc5, hQ5, l5, y5, z5⟩, st5⟩ := Jvm.LawKit.callS X2 hx (y := (⟨"java/lang/Math", "min", "(II)I"⟩ : MethodName)) hown (mvT hZ (hw _ (List.mem_of_getElem? (i := 18) rfl))) (mvT hZ (hw _ (List.mem_of_getElem? (i := 19) rfl))) (mvT hZ (hw _ (List.mem_of_getElem? (i := 20) rfl))) (mvT hZ (hw _ (List.mem_of_getElem? (i := 21) rfl))) (by decide) (backOf (W := 4) (rm5 l Z a0 hw [] (Nat.toInt32 (4 - s_)) (Nat.toInt32 n_) h2 n0 Z2 ) hZ (hw _ (List.mem_of_getElem? (i := 21) rfl)) (hw _ (List.mem_of_getElem? (i := 20) rfl)) (by decide) (by decide)) (g := (mkF m 24 #[.val (.ref b_), .val (.int (Nat.toInt32 s_)), .val (.int (Nat.toInt32 (s_ + n_))), .val (.int (Nat.toInt32 n_)), .val (.ref b2)] [(.int (Nat.toInt32 n_)), (.int (Nat.toInt32 (4 - s_))), (.int (0 : Int32)), (.ref b2), (.int (Nat.toInt32 s_)), (.ref b_)])) rfl (by rw [hml]; rfl) (argsL := [(.int (Nat.toInt32 (4 - s_))), (.int (Nat.toInt32 n_))]) (rest := [(.int (0 : Int32)), (.ref b2), (.int (Nat.toInt32 s_)), (.ref b_)]) (lenOf pd_1 rfl) rfl (by show 2 * 0 + _ ≤ _; exact Nat.le_of_eq rfl) (hb hby d3_24) (fun _ _ => ⟨rfl, e2, (by decide : 1 + 0 ≤ _), (by decide : 4 + 0 ≤ _)⟩)
  dsimp only [Pt.U, Pt.locs, Pt.cells, Pt.slots] at X5 l5 y5 z5 st5 hQ5
  subst l5 y5 z5
  obtain ⟨rfl, N5q, e5⟩ := hQ5
  have N5 := Fr.app N1 N5q
  refine own_via st5 ?_
  show own_Go p e below s _ _ _ (T5.setTop (mkF m 27 #[.val (.ref b_), .val (.int (Nat.toInt32 s_)), .val (.int (Nat.toInt32 (s_ + n_))), .val (.int (Nat.toInt32 n_)), .val (.ref b2)] [(.int (own_min (Nat.toInt32 (4 - s_)) (Nat.toInt32 n_))), (.int (0 : Int32)), (.ref b2), (.int (Nat.toInt32 s_)), (.ref b_)]))
  rw [show (own_min (Nat.toInt32 (4 - s_)) (Nat.toInt32 n_)) = (Nat.toInt32 n_) from (own_minr (by omega) (by omega))]
  show own_Go p e below s _ _ _ (T5.setTop (mkF m 27 #[.val (.ref b_), .val (.int (Nat.toInt32 s_)), .val (.int (Nat.toInt32 (s_ + n_))), .val (.int (Nat.toInt32 n_)), .val (.ref b2)] [(.int (Nat.toInt32 n_)), (.int (0 : Int32)), (.ref b2), (.int (Nat.toInt32 s_)), (.ref b_)]))
  obtain ⟨T6, h6, L6, X6, e6, N6, Kq6, V6, st6⟩ := cpA X5 hx hZ hown (hw _ (List.mem_of_getElem? (i := 22) rfl)) (hw _ (List.mem_of_getElem? (i := 25) rfl)) (hw _ (List.mem_of_getElem? (i := 23) rfl)) (hw _ (List.mem_of_getElem? (i := 24) rfl)) e5 F4 V2 (Or.inl ⟨rfl, rfl⟩) (sp := (Nat.toInt32 s_)) (dp := (0 : Int32)) (nn := (Nat.toInt32 n_)) (us := _) (own_nn (by omega)) (by decide) (own_nn (by omega)) (by rw [own_nc (by omega), own_nc (by omega)]; show s_ + n_ ≤ 4; omega) (by rw [own_nc (by omega)]; show 0 + n_ ≤ n_; omega) rfl (by rw [own_nc (by omega)]; show 0 + n_ ≤ 4; omega) N5 g_b2 (g := (mkF m 27 #[.val (.ref b_), .val (.int (Nat.toInt32 s_)), .val (.int (Nat.toInt32 (s_ + n_))), .val (.int (Nat.toInt32 n_)), .val (.ref b2)] [(.int (Nat.toInt32 n_)), (.int (0 : Int32)), (.ref b2), (.int (Nat.toInt32 s_)), (.ref b_)])) rfl (by rw [hml]; rfl) rfl (hb hby d3_27) (by decide) (W := 0) (by show 2 * 0 + _ ≤ _; exact Nat.le_of_eq rfl) (by decide)
  have Z6 : n0 ≤ h6.size := Nat.le_trans Z2 Kq6.1
  have K6 : Keep h0 h6 [] := K2.trans Kq6 (allS (Or.inr sz_b2) all0)
  have Vp6 := Arv.pad V6 (own_pad4 us_ (N := 0) (own_nc (by omega : s_ ≤ 16)) (own_nc (by omega : n_ ≤ 16)) (by omega))
  refine own_via st6 ?_
  show own_Go p e below s _ _ _ (T6.setTop (mkF m 30 #[.val (.ref b_), .val (.int (Nat.toInt32 s_)), .val (.int (Nat.toInt32 (s_ + n_))), .val (.int (Nat.toInt32 n_)), .val (.ref b2)] []))
  refine own_via (fun _ k => XS.aload X6.here hx rfl (hb hby d3_30) rfl rfl k) ?_
  show own_Go p e below s _ _ _ (T6.setTop (mkF m 32 #[.val (.ref b_), .val (.int (Nat.toInt32 s_)), .val (.int (Nat.toInt32 (s_ + n_))), .val (.int (Nat.toInt32 n_)), .val (.ref b2)] [(.ref b2)]))
  exact own_goA X6 hx rfl Bd.returns rfl (hb hby d3_32) Bd.notSynchronized (by decide) (by decide) (by rw [e6]; exact ⟨b2, k2, rfl, N6, K6, sz_b2, Vp6⟩)
theorem d2_0 : decode jdk_65_method_136_code 0 = .ok (.iload_n 1, 1) := by decide +kernel
theorem d2_1 : decode jdk_65_method_136_code 1 = .ok (.ifCond .ne 9, 3) := by decide +kernel
theorem d2_4 : decode jdk_65_method_136_code 4 = .ok (.iload_n 2, 1) := by decide +kernel
theorem d2_5 : decode jdk_65_method_136_code 5 = .ok (.aload_n 0, 1) := by decide +kernel
theorem d2_6 : decode jdk_65_method_136_code 6 = .ok (.arraylength, 1) := by decide +kernel
theorem d2_7 : decode jdk_65_method_136_code 7 = .ok (.if_icmp .eq 10, 3) := by decide +kernel
theorem d2_17 : decode jdk_65_method_136_code 17 = .ok (.aload_n 0, 1) := by decide +kernel
theorem d2_18 : decode jdk_65_method_136_code 18 = .ok (.invokevirtual 316, 3) := by decide +kernel
theorem d2_21 : decode jdk_65_method_136_code 21 = .ok (.checkcast 317, 3) := by decide +kernel
theorem d2_24 : decode jdk_65_method_136_code 24 = .ok (.areturn, 1) := by decide +kernel
theorem d2_10 : decode jdk_65_method_136_code 10 = .ok (.aload_n 0, 1) := by decide +kernel
theorem d2_11 : decode jdk_65_method_136_code 11 = .ok (.iload_n 1, 1) := by decide +kernel
theorem d2_12 : decode jdk_65_method_136_code 12 = .ok (.iload_n 2, 1) := by decide +kernel
theorem pd_2 : parseMethodDescriptor "([III)[I" = some ⟨[(.array .int), .int, .int], some (.array .int)⟩ := by decide +kernel
theorem d2_13 : decode jdk_65_method_136_code 13 = .ok (.invokestatic 351, 3) := by decide +kernel
theorem d2_16 : decode jdk_65_method_136_code 16 = .ok (.areturn, 1) := by decide +kernel
theorem ef_2 (m : MethodId) (x0 : Addr) (x1 : Int32) (x2 : Int32) : entryFrame m #[(.ref x0), (.int x1), (.int x2)] 3 = mkF m 0 #[.val (.ref x0), .val (.int x1), .val (.int x2)] [] := by first | (simp [entryFrame, mkF, argsToLocals, Value.category]; done) | rfl
def Q2 (Z : State) (b_ : Addr) (pf_ : Int32) (pt_ : Int32) (k_ : ClassId) (us_ : List Int32) (s_ : Nat) (n_ : Nat) (h0 : Heap) (n0 : Nat) (v : Option Value) (h : Heap) (L : List Loc) : Prop := ∃ c_ : Addr, ∃ kc_ : ClassId, v = some (.ref c_) ∧ Fr n0 L ∧ Keep h0 h [] ∧ h0.size ≤ c_ ∧ Arv Z h c_ kc_ .int (Nat.toInt32 n_) ((own_sub us_ s_ n_).map Value.int) (.int (0 : Int32))
set_option maxRecDepth 65536 in
set_option maxHeartbeats 40000000 in
theorem rm2 (l : Launch) (Z : State) (a0 : Array Value) (hw : ∀ d ∈ tables_1, d.before a0 Z = true) (ws : List Jvm.Cond) (b_ : Addr) (pf_ : Int32) (pt_ : Int32) (k_ : ClassId) (us_ : List Int32) (s_ : Nat) (n_ : Nat) (h0 : Heap) (n0 : Nat) (Z0 : n0 ≤ h0.size) (V_b_ : Arv Z h0 b_ k_ .int (4 : Int32) (us_.map Value.int) (.int (0 : Int32))) (hp1 : pf_ = Nat.toInt32 s_) (hp2 : pt_ = Nat.toInt32 (s_ + n_)) (hp3 : s_ + n_ ≤ 4) (hp4 : us_.length = 4) (E_b_ : Exa Z h0 b_ "[I") :
    MetFree l (⟨"java/util/Arrays", "copyOfRange", "([III)[I"⟩ : MethodName) (head1 (Jvm.Cond.code (⟨"java/util/Arrays", "copyOfRange", "([III)[I"⟩ : MethodName) jdk_65_method_136_code 3 (some (.array .int)) :: ws) ({ frames := 2, cells := 1, slots := 4, locals := 34 } : Room)) (fun q_ U => q_ = #[(.ref b_), (.int pf_), (.int pt_)] ∧ Z.Warmed39 U.vm ∧ U.heap = h0) (fun _ _ _ _ _ => True) (fun _ U o U' => ∃ v L, o = .returned v ∧ Q2 Z b_ pf_ pt_ k_ us_ s_ n_ h0 n0 v U'.heap L ∧ FrameEnd U o U' L ({ frames := 2, cells := 1, slots := 4, locals := 34 } : Room).cells ({ frames := 2, cells := 1, slots := 4, locals := 34 } : Room).slots) := by
  refine MetFree.of_bodySF (plainFor_of_name pn_0) hisR ?_
  intro p e s m args below meth c s₁ Bd hml0 hP hK
  obtain ⟨rfl, hZ, hh⟩ := hP
  have hx := Bd.exec
  have hby := Bd.bytes
  have hml : c.maxLocals = 3 := hml0
  have hown : s.vm.findClass "java/util/Arrays" = some m.cls := findClass_of_methodNamed Bd.named
  have hnm := (name_of_methodNamed Bd.named Bd.method).1
  have X0 : Stand p l e ({ frames := 2, cells := 1, slots := 4, locals := 34 } : Room) s m #[(.ref b_), (.int pf_), (.int pt_)] below meth c s₁ [] 0 0 := Stand.of_body Bd
  have e0 : s₁.heap = h0 := by rw [← hh, Bd.state]; rfl
  have N0 := Fr.nil n0
  show own_Go p e below s (Q2 Z b_ pf_ pt_ k_ us_ s_ n_ h0 n0) ({ frames := 2, cells := 1, slots := 4, locals := 34 } : Room).cells ({ frames := 2, cells := 1, slots := 4, locals := 34 } : Room).slots (s₁.setTop (entryFrame m #[(.ref b_), (.int pf_), (.int pt_)] 3))
  refine own_via (fun t k => castTop (ef_2 m b_ pf_ pt_) k) ?_
  have K0 : Keep h0 h0 [] := Keep.refl _ _
  show own_Go p e below s _ _ _ (s₁.setTop (mkF m 0 #[.val (.ref b_), .val (.int pf_), .val (.int pt_)] []))
  subst hp1 hp2
  show own_Go p e below s _ _ _ (s₁.setTop (mkF m 0 #[.val (.ref b_), .val (.int (Nat.toInt32 s_)), .val (.int (Nat.toInt32 (s_ + n_)))] []))
  refine own_via (fun _ k => XS.iloadN X0.here hx rfl (hb hby d2_0) rfl k) ?_
  show own_Go p e below s _ _ _ (s₁.setTop (mkF m 1 #[.val (.ref b_), .val (.int (Nat.toInt32 s_)), .val (.int (Nat.toInt32 (s_ + n_)))] [(.int (Nat.toInt32 s_))]))
  by_cases hc1 : (Nat.toInt32 s_) = (0 : Int32)
  · refine own_via (fun _ k => XS.ifNo X0.here hx rfl (hb hby d2_1) rfl (Jvm.Free.XT.i0_ne_f hc1) k) ?_
    show own_Go p e below s _ _ _ (s₁.setTop (mkF m 4 #[.val (.ref b_), .val (.int (Nat.toInt32 s_)), .val (.int (Nat.toInt32 (s_ + n_)))] []))
    refine own_via (fun _ k => XS.iloadN X0.here hx rfl (hb hby d2_4) rfl k) ?_
    show own_Go p e below s _ _ _ (s₁.setTop (mkF m 5 #[.val (.ref b_), .val (.int (Nat.toInt32 s_)), .val (.int (Nat.toInt32 (s_ + n_)))] [(.int (Nat.toInt32 (s_ + n_)))]))
    refine own_via (fun _ k => XS.aloadN X0.here hx rfl (hb hby d2_5) rfl rfl k) ?_
    show own_Go p e below s _ _ _ (s₁.setTop (mkF m 6 #[.val (.ref b_), .val (.int (Nat.toInt32 s_)), .val (.int (Nat.toInt32 (s_ + n_)))] [(.ref b_), (.int (Nat.toInt32 (s_ + n_)))]))
    obtain ⟨cl2, Ar2, q2, S2, M2, H2, G2⟩ := (id V_b_)
    refine own_via (fun _ k => X0.arraylength hx (by rw [e0]; exact Ar2.1) (State.isArrayOf_alike hZ.alike Ar2.2.1) (g := (mkF m 6 #[.val (.ref b_), .val (.int (Nat.toInt32 s_)), .val (.int (Nat.toInt32 (s_ + n_)))] [(.ref b_), (.int (Nat.toInt32 (s_ + n_)))])) rfl rfl (hb hby d2_6) _ (by rw [len_of S2 M2]; exact k)) ?_
    show own_Go p e below s _ _ _ (s₁.setTop (mkF m 7 #[.val (.ref b_), .val (.int (Nat.toInt32 s_)), .val (.int (Nat.toInt32 (s_ + n_)))] [(.int (4 : Int32)), (.int (Nat.toInt32 (s_ + n_)))]))
    by_cases hc3 : (Nat.toInt32 (s_ + n_)) = (4 : Int32)
    · refine own_via (fun _ k => XS.icmpYes X0.here hx rfl (pc0 := 7) (pc' := 17) rfl (hb hby d2_7) rfl (Jvm.Free.XT.ii_eq_t hc3) (by decide) (by decide) k) ?_
      show own_Go p e below s _ _ _ (s₁.setTop (mkF m 17 #[.val (.ref b_), .val (.int (Nat.toInt32 s_)), .val (.int (Nat.toInt32 (s_ + n_)))] []))
      refine own_via (fun _ k => XS.aloadN X0.here hx rfl (hb hby d2_17) rfl rfl k) ?_
      show own_Go p e below s _ _ _ (s₁.setTop (mkF m 18 #[.val (.ref b_), .val (.int (Nat.toInt32 s_)), .val (.int (Nat.toInt32 (s_ + n_)))] [(.ref b_)]))
      obtain ⟨T4, h4, X4, e4, E4, A4, AE4, st4⟩ := cloneH X0 hx hZ hown (hw _ (List.mem_of_getElem? (i := 48) rfl)) (hw _ (List.mem_of_getElem? (i := 49) rfl)) (hw _ (List.mem_of_getElem? (i := 53) rfl)) (hw _ (List.mem_of_getElem? (i := 51) rfl)) (hw _ (List.mem_of_getElem? (i := 52) rfl)) (hw _ (List.mem_of_getElem? (i := 54) rfl)) e0 V_b_.arh E_b_ (g := (mkF m 18 #[.val (.ref b_), .val (.int (Nat.toInt32 s_)), .val (.int (Nat.toInt32 (s_ + n_)))] [(.ref b_)])) rfl (by rw [hml]; rfl) rfl (hb hby d2_18) (by decide) (W := 0) (cap := 4) (by show 2 * 0 + _ ≤ _; exact Nat.le_of_eq rfl) (by decide) (by decide) (by decide) (by decide)
      obtain ⟨b4, gg4⟩ : ∃ z, z = h0.size := ⟨_, rfl⟩
      rw [← gg4] at A4 AE4 st4
      have ne_b__b4 : b_ ≠ b4 := Nat.ne_of_lt (Nat.lt_of_lt_of_le E_b_.lt (Nat.le_of_eq gg4.symm))
      have g_b4 : n0 ≤ b4 := Nat.le_trans Z0 (Nat.le_of_eq gg4.symm)
      have sz_b4 : h0.size ≤ b4 := Nat.le_trans K0.1 (Nat.le_of_eq gg4.symm)
      have Z4 : n0 ≤ h4.size := Nat.le_trans Z0 E4.1
      have K4 : Keep h0 h4 [] := K0.ext E4
      have V4 : Arv Z h4 b4 k_ .int (4 : Int32) (us_.map Value.int) (.int (0 : Int32)) := A4
      refine own_via st4 ?_
      show own_Go p e below s _ _ _ (T4.setTop (mkF m 21 #[.val (.ref b_), .val (.int (Nat.toInt32 s_)), .val (.int (Nat.toInt32 (s_ + n_)))] [(.ref b4)]))
      obtain ⟨T5, X5, e5, st5⟩ := castY X4 hx hZ hown (hw _ (List.mem_of_getElem? (i := 55) rfl)) e4 (Ins.self AE4) (g := (mkF m 21 #[.val (.ref b_), .val (.int (Nat.toInt32 s_)), .val (.int (Nat.toInt32 (s_ + n_)))] [(.ref b4)])) rfl rfl (hb hby d2_21)
      refine own_via st5 ?_
      show own_Go p e below s _ _ _ (T5.setTop (mkF m 24 #[.val (.ref b_), .val (.int (Nat.toInt32 s_)), .val (.int (Nat.toInt32 (s_ + n_)))] [(.ref b4)]))
      obtain rfl : s_ = 0 := (own_eqn (j := 0) (by omega) (by omega)).mp hc1
      obtain rfl : n_ = 4 := by have := (own_eqn (j := 4) (by omega) (by omega)).mp hc3; omega
      have Vp6 := Arv.pad V4 (own_pad5 hp4)
      exact own_goA X5 hx rfl Bd.returns rfl (hb hby d2_24) Bd.notSynchronized (by decide) (by decide) (by rw [e5]; exact ⟨b4, k_, rfl, N0, K4, sz_b4, Vp6⟩)
    · refine own_via (fun _ k => XS.icmpNo X0.here hx rfl (hb hby d2_7) rfl (Jvm.Free.XT.ii_eq_f hc3) k) ?_
      show own_Go p e below s _ _ _ (s₁.setTop (mkF m 10 #[.val (.ref b_), .val (.int (Nat.toInt32 s_)), .val (.int (Nat.toInt32 (s_ + n_)))] []))
      refine own_via (fun _ k => XS.aloadN X0.here hx rfl (hb hby d2_10) rfl rfl k) ?_
      show own_Go p e below s _ _ _ (s₁.setTop (mkF m 11 #[.val (.ref b_), .val (.int (Nat.toInt32 s_)), .val (.int (Nat.toInt32 (s_ + n_)))] [(.ref b_)]))
      refine own_via (fun _ k => XS.iloadN X0.here hx rfl (hb hby d2_11) rfl k) ?_
      show own_Go p e below s _ _ _ (s₁.setTop (mkF m 12 #[.val (.ref b_), .val (.int (Nat.toInt32 s_)), .val (.int (Nat.toInt32 (s_ + n_)))] [(.int (Nat.toInt32 s_)), (.ref b_)]))
      refine own_via (fun _ k => XS.iloadN X0.here hx rfl (hb hby d2_12) rfl k) ?_
      show own_Go p e below s _ _ _ (s₁.setTop (mkF m 13 #[.val (.ref b_), .val (.int (Nat.toInt32 s_)), .val (.int (Nat.toInt32 (s_ + n_)))] [(.int (Nat.toInt32 (s_ + n_))), (.int (Nat.toInt32 s_)), (.ref b_)]))
      obtain ⟨_, _, ⟨T7, L7, k7, n7⟩, -, X7, ⟨Lc7, hQ7, l7, y7, z7⟩, st7⟩ := Jvm.LawKit.callS X0 hx (y := (⟨"java/util/Arrays", "copyOfRangeInt", "([III)[I"⟩ : MethodName)) hown (mvT hZ (hw _ (List.mem_of_getElem? (i := 12) rfl))) (mvT hZ (hw _ (List.mem_of_getElem? (i := 13) rfl))) (mvT hZ (hw _ (List.mem_of_getElem? (i := 10) rfl))) (mvT hZ (hw _ (List.mem_of_getElem? (i := 14) rfl))) (by decide) (backOf (W := 0) (rm3 l Z a0 hw [] b_ (Nat.toInt32 s_) (Nat.toInt32 (s_ + n_)) k_ us_ s_ n_ h0 n0 Z0 V_b_ rfl rfl hp3) hZ (hw _ (List.mem_of_getElem? (i := 14) rfl)) (hw _ (List.mem_of_getElem? (i := 10) rfl)) (by decide) (by decide)) (g := (mkF m 13 #[.val (.ref b_), .val (.int (Nat.toInt32 s_)), .val (.int (Nat.toInt32 (s_ + n_)))] [(.int (Nat.toInt32 (s_ + n_))), (.int (Nat.toInt32 s_)), (.ref b_)])) rfl (by rw [hml]; rfl) (argsL := [(.ref b_), (.int (Nat.toInt32 s_)), (.int (Nat.toInt32 (s_ + n_)))]) (rest := []) (lenOf pd_2 rfl) rfl (by show 2 * 0 + _ ≤ _; exact Nat.le_of_eq rfl) (hb hby d2_13) (fun _ _ => ⟨rfl, e0, (by decide : 0 + 1 ≤ _), (by decide : 0 + 4 ≤ _)⟩)
      dsimp only [Pt.U, Pt.locs, Pt.cells, Pt.slots] at X7 l7 y7 z7 st7 hQ7
      subst l7 y7 z7
      obtain ⟨h7, e7⟩ : ∃ h, T7.heap = h := ⟨_, rfl⟩
      rw [e7] at hQ7
      obtain ⟨c_7, kc_7, rfl, N7q, Kq7, F8, F9⟩ := hQ7
      have ne_b__c_7 : b_ ≠ c_7 := Nat.ne_of_lt (Nat.lt_of_lt_of_le E_b_.lt F8)
      have g_c_7 : n0 ≤ c_7 := Nat.le_trans Z0 F8
      have sz_c_7 : h0.size ≤ c_7 := Nat.le_trans K0.1 F8
      have Z7 : n0 ≤ h7.size := Nat.le_trans Z0 Kq7.1
      have K7 : Keep h0 h7 [] := K0.trans Kq7 all0
      have N7 := Fr.app N0 N7q
      refine own_via st7 ?_
      show own_Go p e below s _ _ _ (T7.setTop (mkF m 16 #[.val (.ref b_), .val (.int (Nat.toInt32 s_)), .val (.int (Nat.toInt32 (s_ + n_)))] [(.ref c_7)]))
      exact own_goA X7 hx rfl Bd.returns rfl (hb hby d2_16) Bd.notSynchronized (by decide) (by decide) (by rw [e7]; exact ⟨c_7, kc_7, rfl, N7, K7, sz_c_7, F9⟩)
  · refine own_via (fun _ k => XS.ifYes X0.here hx rfl (pc0 := 1) (pc' := 10) rfl (hb hby d2_1) rfl (Jvm.Free.XT.i0_ne_t hc1) (by decide) (by decide) k) ?_
    show own_Go p e below s _ _ _ (s₁.setTop (mkF m 10 #[.val (.ref b_), .val (.int (Nat.toInt32 s_)), .val (.int (Nat.toInt32 (s_ + n_)))] []))
    refine own_via (fun _ k => XS.aloadN X0.here hx rfl (hb hby d2_10) rfl rfl k) ?_
    show own_Go p e below s _ _ _ (s₁.setTop (mkF m 11 #[.val (.ref b_), .val (.int (Nat.toInt32 s_)), .val (.int (Nat.toInt32 (s_ + n_)))] [(.ref b_)]))
    refine own_via (fun _ k => XS.iloadN X0.here hx rfl (hb hby d2_11) rfl k) ?_
    show own_Go p e below s _ _ _ (s₁.setTop (mkF m 12 #[.val (.ref b_), .val (.int (Nat.toInt32 s_)), .val (.int (Nat.toInt32 (s_ + n_)))] [(.int (Nat.toInt32 s_)), (.ref b_)]))
    refine own_via (fun _ k => XS.iloadN X0.here hx rfl (hb hby d2_12) rfl k) ?_
    show own_Go p e below s _ _ _ (s₁.setTop (mkF m 13 #[.val (.ref b_), .val (.int (Nat.toInt32 s_)), .val (.int (Nat.toInt32 (s_ + n_)))] [(.int (Nat.toInt32 (s_ + n_))), (.int (Nat.toInt32 s_)), (.ref b_)]))
    obtain ⟨_, _, ⟨T10, L10, k10, n10⟩, -, X10, ⟨Lc10, hQ10, l10, y10, z10⟩, st10⟩ := Jvm.LawKit.callS X0 hx (y := (⟨"java/util/Arrays", "copyOfRangeInt", "([III)[I"⟩ : MethodName)) hown (mvT hZ (hw _ (List.mem_of_getElem? (i := 12) rfl))) (mvT hZ (hw _ (List.mem_of_getElem? (i := 13) rfl))) (mvT hZ (hw _ (List.mem_of_getElem? (i := 10) rfl))) (mvT hZ (hw _ (List.mem_of_getElem? (i := 14) rfl))) (by decide) (backOf (W := 0) (rm3 l Z a0 hw [] b_ (Nat.toInt32 s_) (Nat.toInt32 (s_ + n_)) k_ us_ s_ n_ h0 n0 Z0 V_b_ rfl rfl hp3) hZ (hw _ (List.mem_of_getElem? (i := 14) rfl)) (hw _ (List.mem_of_getElem? (i := 10) rfl)) (by decide) (by decide)) (g := (mkF m 13 #[.val (.ref b_), .val (.int (Nat.toInt32 s_)), .val (.int (Nat.toInt32 (s_ + n_)))] [(.int (Nat.toInt32 (s_ + n_))), (.int (Nat.toInt32 s_)), (.ref b_)])) rfl (by rw [hml]; rfl) (argsL := [(.ref b_), (.int (Nat.toInt32 s_)), (.int (Nat.toInt32 (s_ + n_)))]) (rest := []) (lenOf pd_2 rfl) rfl (by show 2 * 0 + _ ≤ _; exact Nat.le_of_eq rfl) (hb hby d2_13) (fun _ _ => ⟨rfl, e0, (by decide : 0 + 1 ≤ _), (by decide : 0 + 4 ≤ _)⟩)
    dsimp only [Pt.U, Pt.locs, Pt.cells, Pt.slots] at X10 l10 y10 z10 st10 hQ10
    subst l10 y10 z10
    obtain ⟨h10, e10⟩ : ∃ h, T10.heap = h := ⟨_, rfl⟩
    rw [e10] at hQ10
    obtain ⟨c_10, kc_10, rfl, N10q, Kq10, F11, F12⟩ := hQ10
    have ne_b__c_10 : b_ ≠ c_10 := Nat.ne_of_lt (Nat.lt_of_lt_of_le E_b_.lt F11)
    have g_c_10 : n0 ≤ c_10 := Nat.le_trans Z0 F11
    have sz_c_10 : h0.size ≤ c_10 := Nat.le_trans K0.1 F11
    have Z10 : n0 ≤ h10.size := Nat.le_trans Z0 Kq10.1
    have K10 : Keep h0 h10 [] := K0.trans Kq10 all0
    have N10 := Fr.app N0 N10q
    refine own_via st10 ?_
    show own_Go p e below s _ _ _ (T10.setTop (mkF m 16 #[.val (.ref b_), .val (.int (Nat.toInt32 s_)), .val (.int (Nat.toInt32 (s_ + n_)))] [(.ref c_10)]))
    exact own_goA X10 hx rfl Bd.returns rfl (hb hby d2_16) Bd.notSynchronized (by decide) (by decide) (by rw [e10]; exact ⟨c_10, kc_10, rfl, N10, K10, sz_c_10, F12⟩)
theorem d7_0 : decode jdk_30_method_1_code 0 = .ok (.aload_n 0, 1) := by decide +kernel
theorem d7_1 : decode jdk_30_method_1_code 1 = .ok (.invokespecial 1, 3) := by decide +kernel
theorem d7_4 : decode jdk_30_method_1_code 4 = .ok (.return_, 1) := by decide +kernel
theorem pn_1 : plainName "java/lang/Record" = true := by first | (simp [plainName, overriddenIn]; done) | decide +kernel
theorem ef_7 (m : MethodId) (x0 : Addr) : entryFrame m #[(.ref x0)] 1 = mkF m 0 #[.val (.ref x0)] [] := by first | (simp [entryFrame, mkF, argsToLocals, Value.category]; done) | rfl
def Q7 (Z : State) (a : Addr) (h0 : Heap) (n0 : Nat) (v : Option Value) (h : Heap) (L : List Loc) : Prop := v = none ∧ Fr n0 L ∧ h = h0
set_option maxRecDepth 65536 in
set_option maxHeartbeats 40000000 in
theorem rm7 (l : Launch) (Z : State) (a0 : Array Value) (hw : ∀ d ∈ tables_1, d.before a0 Z = true) (ws : List Jvm.Cond) (a : Addr) (h0 : Heap) (n0 : Nat) (Z0 : n0 ≤ h0.size) :
    MetFree l (⟨"java/lang/Record", "<init>", "()V"⟩ : MethodName) (head1 (Jvm.Cond.code (⟨"java/lang/Record", "<init>", "()V"⟩ : MethodName) jdk_30_method_1_code 1 none :: ws) ({ frames := 1, cells := 0, slots := 0, locals := 12 } : Room)) (fun q_ U => q_ = #[(.ref a)] ∧ Z.Warmed39 U.vm ∧ U.heap = h0) (fun _ _ _ _ _ => True) (fun _ U o U' => ∃ v L, o = .returned v ∧ Q7 Z a h0 n0 v U'.heap L ∧ FrameEnd U o U' L ({ frames := 1, cells := 0, slots := 0, locals := 12 } : Room).cells ({ frames := 1, cells := 0, slots := 0, locals := 12 } : Room).slots) := by
  refine MetFree.of_bodySF (plainFor_of_name pn_1) hisR ?_
  intro p e s m args below meth c s₁ Bd hml0 hP hK
  obtain ⟨rfl, hZ, hh⟩ := hP
  have hx := Bd.exec
  have hby := Bd.bytes
  have hml : c.maxLocals = 1 := hml0
  have hown : s.vm.findClass "java/lang/Record" = some m.cls := findClass_of_methodNamed Bd.named
  have hnm := (name_of_methodNamed Bd.named Bd.method).1
  have X0 : Stand p l e ({ frames := 1, cells := 0, slots := 0, locals := 12 } : Room) s m #[(.ref a)] below meth c s₁ [] 0 0 := Stand.of_body Bd
  have e0 : s₁.heap = h0 := by rw [← hh, Bd.state]; rfl
  have N0 := Fr.nil n0
  show own_Go p e below s (Q7 Z a h0 n0) ({ frames := 1, cells := 0, slots := 0, locals := 12 } : Room).cells ({ frames := 1, cells := 0, slots := 0, locals := 12 } : Room).slots (s₁.setTop (entryFrame m #[(.ref a)] 1))
  refine own_via (fun t k => castTop (ef_7 m a) k) ?_
  show own_Go p e below s _ _ _ (s₁.setTop (mkF m 0 #[.val (.ref a)] []))
  refine own_via (fun _ k => XS.aloadN X0.here hx rfl (hb hby d7_0) rfl rfl k) ?_
  show own_Go p e below s _ _ _ (s₁.setTop (mkF m 1 #[.val (.ref a)] [(.ref a)]))
  obtain ⟨T1, X1, e1, st1⟩ := initO X0 hx hZ hown (hw _ (List.mem_of_getElem? (i := 34) rfl)) (hw _ (List.mem_of_getElem? (i := 35) rfl)) (hw _ (List.mem_of_getElem? (i := 36) rfl)) e0 (g := (mkF m 1 #[.val (.ref a)] [(.ref a)])) rfl (by rw [hml]; rfl) rfl (hb hby d7_1) (by decide) (W := 0) (by show 2 * 0 + _ ≤ _; exact Nat.le_of_eq rfl) (by decide)
  refine own_via st1 ?_
  show own_Go p e below s _ _ _ (T1.setTop (mkF m 4 #[.val (.ref a)] []))
  exact own_goV X1 hx Bd.returns (hb hby d7_4) Bd.notSynchronized (by decide) (by decide) (by rw [e1]; exact ⟨rfl, N0, rfl⟩)
theorem d6_0 : decode prog_37_method_1_code 0 = .ok (.aload_n 0, 1) := by decide +kernel
theorem pd_3 : parseMethodDescriptor "()V" = some ⟨[], none⟩ := by decide +kernel
theorem d6_1 : decode prog_37_method_1_code 1 = .ok (.invokespecial 1, 3) := by decide +kernel
theorem d6_4 : decode prog_37_method_1_code 4 = .ok (.aload_n 0, 1) := by decide +kernel
theorem d6_5 : decode prog_37_method_1_code 5 = .ok (.aload_n 1, 1) := by decide +kernel
theorem d6_6 : decode prog_37_method_1_code 6 = .ok (.putfield 7, 3) := by decide +kernel
theorem d6_9 : decode prog_37_method_1_code 9 = .ok (.return_, 1) := by decide +kernel
theorem pn_2 : plainName "com/example/erstwhile_terms/erstwhileterms/variants/Run" = true := by first | (simp [plainName, overriddenIn]; done) | decide +kernel
theorem ef_6 (m : MethodId) (x0 : Addr) (x1 : Addr) : entryFrame m #[(.ref x0), (.ref x1)] 2 = mkF m 0 #[.val (.ref x0), .val (.ref x1)] [] := by first | (simp [entryFrame, mkF, argsToLocals, Value.category]; done) | rfl
def Q6 (Z : State) (a : Addr) (b : Addr) (h0 : Heap) (n0 : Nat) (v : Option Value) (h : Heap) (L : List Loc) : Prop := v = none ∧ Fr n0 L ∧ Keep h0 h [a] ∧ Exa Z h a "com/example/erstwhile_terms/erstwhileterms/variants/Run" ∧ Fld Z h a "com/example/erstwhile_terms/erstwhileterms/variants/Run" "words" "[I" (.ref b)
set_option maxRecDepth 65536 in
set_option maxHeartbeats 40000000 in
theorem rm6 (l : Launch) (Z : State) (a0 : Array Value) (hw : ∀ d ∈ tables_1, d.before a0 Z = true) (ws : List Jvm.Cond) (a : Addr) (b : Addr) (h0 : Heap) (n0 : Nat) (Z0 : n0 ≤ h0.size) (E_a : Exa Z h0 a "com/example/erstwhile_terms/erstwhileterms/variants/Run") (F_words_a : Fld Z h0 a "com/example/erstwhile_terms/erstwhileterms/variants/Run" "words" "[I" .null) (g_a : n0 ≤ a) :
    MetFree l (⟨"com/example/erstwhile_terms/erstwhileterms/variants/Run", "<init>", "([I)V"⟩ : MethodName) (head1 (Jvm.Cond.code (⟨"com/example/erstwhile_terms/erstwhileterms/variants/Run", "<init>", "([I)V"⟩ : MethodName) prog_37_method_1_code 2 none :: ws) ({ frames := 2, cells := 0, slots := 0, locals := 24 } : Room)) (fun q_ U => q_ = #[(.ref a), (.ref b)] ∧ Z.Warmed39 U.vm ∧ U.heap = h0) (fun _ _ _ _ _ => True) (fun _ U o U' => ∃ v L, o = .returned v ∧ Q6 Z a b h0 n0 v U'.heap L ∧ FrameEnd U o U' L ({ frames := 2, cells := 0, slots := 0, locals := 24 } : Room).cells ({ frames := 2, cells := 0, slots := 0, locals := 24 } : Room).slots) := by
  refine MetFree.of_bodySF (plainFor_of_name pn_2) hisR ?_
  intro p e s m args below meth c s₁ Bd hml0 hP hK
  obtain ⟨rfl, hZ, hh⟩ := hP
  have hx := Bd.exec
  have hby := Bd.bytes
  have hml : c.maxLocals = 2 := hml0
  have hown : s.vm.findClass "com/example/erstwhile_terms/erstwhileterms/variants/Run" = some m.cls := findClass_of_methodNamed Bd.named
  have hnm := (name_of_methodNamed Bd.named Bd.method).1
  have X0 : Stand p l e ({ frames := 2, cells := 0, slots := 0, locals := 24 } : Room) s m #[(.ref a), (.ref b)] below meth c s₁ [] 0 0 := Stand.of_body Bd
  have e0 : s₁.heap = h0 := by rw [← hh, Bd.state]; rfl
  have N0 := Fr.nil n0
  show own_Go p e below s (Q6 Z a b h0 n0) ({ frames := 2, cells := 0, slots := 0, locals := 24 } : Room).cells ({ frames := 2, cells := 0, slots := 0, locals := 24 } : Room).slots (s₁.setTop (entryFrame m #[(.ref a), (.ref b)] 2))
  refine own_via (fun t k => castTop (ef_6 m a b) k) ?_
  have K0 : Keep h0 h0 [a] := Keep.refl _ _
  show own_Go p e below s _ _ _ (s₁.setTop (mkF m 0 #[.val (.ref a), .val (.ref b)] []))
  refine own_via (fun _ k => XS.aloadN X0.here hx rfl (hb hby d6_0) rfl rfl k) ?_
  show own_Go p e below s _ _ _ (s₁.setTop (mkF m 1 #[.val (.ref a), .val (.ref b)] [(.ref a)]))
  obtain ⟨_, _, ⟨T1, L1, k1, n1⟩, -, X1, ⟨Lc1, hQ1, l1, y1, z1⟩, st1⟩ := X0.specialBack hx (y := (⟨"java/lang/Record", "<init>", "()V"⟩ : MethodName)) rfl hown (mvT hZ (hw _ (List.mem_of_getElem? (i := 29) rfl))) (mvT hZ (hw _ (List.mem_of_getElem? (i := 30) rfl))) (mvT hZ (hw _ (List.mem_of_getElem? (i := 33) rfl))) (by decide) (backOf (W := 0) (rm7 l Z a0 hw [] a h0 n0 Z0 ) hZ (hw _ (List.mem_of_getElem? (i := 33) rfl)) (hw _ (List.mem_of_getElem? (i := 32) rfl)) (by decide) (by decide)) (g := (mkF m 1 #[.val (.ref a), .val (.ref b)] [(.ref a)])) rfl (by rw [hml]; rfl) (Steps.refl _) (a := a) (argsL := []) (rest := []) (lenOf pd_3 rfl) rfl (by show 2 * 0 + _ ≤ _; exact Nat.le_of_eq rfl) (hb hby d6_1) (fun _ _ => ⟨rfl, e0, (by decide : 0 + 0 ≤ _), (by decide : 0 + 0 ≤ _)⟩)
  dsimp only [Pt.U, Pt.locs, Pt.cells, Pt.slots] at X1 l1 y1 z1 st1 hQ1
  subst l1 y1 z1
  obtain ⟨rfl, N1q, e1⟩ := hQ1
  have N1 := Fr.app N0 N1q
  refine own_viaT st1 ?_
  show own_Go p e below s _ _ _ (T1.setTop (mkF m 4 #[.val (.ref a), .val (.ref b)] []))
  refine own_via (fun _ k => XS.aloadN X1.here hx rfl (hb hby d6_4) rfl rfl k) ?_
  show own_Go p e below s _ _ _ (T1.setTop (mkF m 5 #[.val (.ref a), .val (.ref b)] [(.ref a)]))
  refine own_via (fun _ k => XS.aloadN X1.here hx rfl (hb hby d6_5) rfl rfl k) ?_
  show own_Go p e below s _ _ _ (T1.setTop (mkF m 6 #[.val (.ref a), .val (.ref b)] [(.ref b), (.ref a)]))
  obtain ⟨T2, h2, X2, e2, W2, st2⟩ := putF X1 hx hZ hown (host := "") (Or.inl (hw _ (List.mem_of_getElem? (i := 37) rfl))) Via.refl e1 F_words_a E_a (Or.inr ⟨(hw _ (List.mem_of_getElem? (i := 38) rfl)), rfl, hnm⟩) (hw _ (List.mem_of_getElem? (i := 7) rfl)) (ty := (.array .int)) (by decide) rfl rfl (g := (mkF m 6 #[.val (.ref a), .val (.ref b)] [(.ref b), (.ref a)])) rfl rfl (hb hby d6_6)
  have N2 := Fr.snoc X2 N1 g_a
  have Fw2 := F_words_a.same W2
  have Z2 : n0 ≤ h2.size := Nat.le_trans Z0 (Keep.of_wr W2).1
  have K2 : Keep h0 h2 [a] := K0.wr W2 (Or.inl (List.mem_of_getElem? (i := 0) rfl))
  refine own_via st2 ?_
  show own_Go p e below s _ _ _ (T2.setTop (mkF m 9 #[.val (.ref a), .val (.ref b)] []))
  have F3 := (E_a.wr W2)
  exact own_goV X2 hx Bd.returns (hb hby d6_9) Bd.notSynchronized (by decide) (by decide) (by rw [e2]; exact ⟨rfl, N2, K2, F3, Fw2⟩)
theorem d1_0 : decode prog_37_method_2_code 0 = .ok (.new 8, 3) := by decide +kernel
theorem d1_3 : decode prog_37_method_2_code 3 = .ok (.dup, 1) := by decide +kernel
theorem d1_4 : decode prog_37_method_2_code 4 = .ok (.aload_n 0, 1) := by decide +kernel
theorem d1_5 : decode prog_37_method_2_code 5 = .ok (.iload_n 1, 1) := by decide +kernel
theorem d1_6 : decode prog_37_method_2_code 6 = .ok (.iload_n 1, 1) := by decide +kernel
theorem d1_7 : decode prog_37_method_2_code 7 = .ok (.iload_n 2, 1) := by decide +kernel
theorem d1_8 : decode prog_37_method_2_code 8 = .ok (.iadd, 1) := by decide +kernel
theorem d1_9 : decode prog_37_method_2_code 9 = .ok (.invokestatic 13, 3) := by decide +kernel
theorem pd_4 : parseMethodDescriptor "([I)V" = some ⟨[(.array .int)], none⟩ := by decide +kernel
theorem d1_12 : decode prog_37_method_2_code 12 = .ok (.invokespecial 19, 3) := by decide +kernel
theorem d1_15 : decode prog_37_method_2_code 15 = .ok (.areturn, 1) := by decide +kernel
theorem ef_1 (m : MethodId) (x0 : Addr) (x1 : Int32) (x2 : Int32) : entryFrame m #[(.ref x0), (.int x1), (.int x2)] 3 = mkF m 0 #[.val (.ref x0), .val (.int x1), .val (.int x2)] [] := by first | (simp [entryFrame, mkF, argsToLocals, Value.category]; done) | rfl
def Q1 (Z : State) (b_ : Addr) (ps_ : Int32) (pl_ : Int32) (k_ : ClassId) (us_ : List Int32) (s_ : Nat) (n_ : Nat) (h0 : Heap) (n0 : Nat) (v : Option Value) (h : Heap) (L : List Loc) : Prop := ∃ r_ : Addr, ∃ c_ : Addr, ∃ kc_ : ClassId, v = some (.ref r_) ∧ Fr n0 L ∧ Keep h0 h [] ∧ h0.size ≤ r_ ∧ h0.size ≤ c_ ∧ Exa Z h r_ "com/example/erstwhile_terms/erstwhileterms/variants/Run" ∧ Fld Z h r_ "com/example/erstwhile_terms/erstwhileterms/variants/Run" "words" "[I" (.ref c_) ∧ Arv Z h c_ kc_ .int (Nat.toInt32 n_) ((own_sub us_ s_ n_).map Value.int) (.int (0 : Int32)) ∧ r_ ≠ c_
set_option maxRecDepth 65536 in
set_option maxHeartbeats 40000000 in
theorem rm1 (l : Launch) (Z : State) (a0 : Array Value) (hw : ∀ d ∈ tables_1, d.before a0 Z = true) (ws : List Jvm.Cond) (b_ : Addr) (ps_ : Int32) (pl_ : Int32) (k_ : ClassId) (us_ : List Int32) (s_ : Nat) (n_ : Nat) (h0 : Heap) (n0 : Nat) (Z0 : n0 ≤ h0.size) (V_b_ : Arv Z h0 b_ k_ .int (4 : Int32) (us_.map Value.int) (.int (0 : Int32))) (hp1 : ps_ = Nat.toInt32 s_) (hp2 : pl_ = Nat.toInt32 n_) (hp3 : s_ + n_ ≤ 4) (hp4 : us_.length = 4) (E_b_ : Exa Z h0 b_ "[I") :
    MetFree l (⟨"com/example/erstwhile_terms/erstwhileterms/variants/Run", "of", "([III)Lcom/example/erstwhile_terms/erstwhileterms/variants/Run;"⟩ : MethodName) (head1 (Jvm.Cond.code (⟨"com/example/erstwhile_terms/erstwhileterms/variants/Run", "of", "([III)Lcom/example/erstwhile_terms/erstwhileterms/variants/Run;"⟩ : MethodName) prog_37_method_2_code 3 (some (.object "com/example/erstwhile_terms/erstwhileterms/variants/Run")) :: ws) ({ frames := 3, cells := 2, slots := 5, locals := 50 } : Room)) (fun q_ U => q_ = #[(.ref b_), (.int ps_), (.int pl_)] ∧ Z.Warmed39 U.vm ∧ U.heap = h0) (fun _ _ _ _ _ => True) (fun _ U o U' => ∃ v L, o = .returned v ∧ Q1 Z b_ ps_ pl_ k_ us_ s_ n_ h0 n0 v U'.heap L ∧ FrameEnd U o U' L ({ frames := 3, cells := 2, slots := 5, locals := 50 } : Room).cells ({ frames := 3, cells := 2, slots := 5, locals := 50 } : Room).slots) := by
  refine MetFree.of_bodySF (plainFor_of_name pn_2) hisR ?_
  intro p e s m args below meth c s₁ Bd hml0 hP hK
  obtain ⟨rfl, hZ, hh⟩ := hP
  have hx := Bd.exec
  have hby := Bd.bytes
  have hml : c.maxLocals = 3 := hml0
  have hown : s.vm.findClass "com/example/erstwhile_terms/erstwhileterms/variants/Run" = some m.cls := findClass_of_methodNamed Bd.named
  have hnm := (name_of_methodNamed Bd.named Bd.method).1
  have X0 : Stand p l e ({ frames := 3, cells := 2, slots := 5, locals := 50 } : Room) s m #[(.ref b_), (.int ps_), (.int pl_)] below meth c s₁ [] 0 0 := Stand.of_body Bd
  have e0 : s₁.heap = h0 := by rw [← hh, Bd.state]; rfl
  have N0 := Fr.nil n0
  show own_Go p e below s (Q1 Z b_ ps_ pl_ k_ us_ s_ n_ h0 n0) ({ frames := 3, cells := 2, slots := 5, locals := 50 } : Room).cells ({ frames := 3, cells := 2, slots := 5, locals := 50 } : Room).slots (s₁.setTop (entryFrame m #[(.ref b_), (.int ps_), (.int pl_)] 3))
  refine own_via (fun t k => castTop (ef_1 m b_ ps_ pl_) k) ?_
  have K0 : Keep h0 h0 [] := Keep.refl _ _
  show own_Go p e below s _ _ _ (s₁.setTop (mkF m 0 #[.val (.ref b_), .val (.int ps_), .val (.int pl_)] []))
  subst hp1 hp2
  show own_Go p e below s _ _ _ (s₁.setTop (mkF m 0 #[.val (.ref b_), .val (.int (Nat.toInt32 s_)), .val (.int (Nat.toInt32 n_))] []))
  obtain ⟨T1, h1, X1, e1, E1, A1, D1, -, st1⟩ := newO X0 hx hZ hown (hw _ (List.mem_of_getElem? (i := 6) rfl)) (hw _ (List.mem_of_getElem? (i := 7) rfl)) (hw _ (List.mem_of_getElem? (i := 4) rfl)) e0 (g := (mkF m 0 #[.val (.ref b_), .val (.int (Nat.toInt32 s_)), .val (.int (Nat.toInt32 n_))] [])) rfl (hb hby d1_0) (by decide) (by decide)
  obtain ⟨b1, gg1⟩ : ∃ z, z = h0.size := ⟨_, rfl⟩
  rw [← gg1] at A1 D1 st1
  have ne_b__b1 : b_ ≠ b1 := Nat.ne_of_lt (Nat.lt_of_lt_of_le E_b_.lt (Nat.le_of_eq gg1.symm))
  have g_b1 : n0 ≤ b1 := Nat.le_trans Z0 (Nat.le_of_eq gg1.symm)
  have sz_b1 : h0.size ≤ b1 := Nat.le_trans K0.1 (Nat.le_of_eq gg1.symm)
  have Z1 : n0 ≤ h1.size := Nat.le_trans Z0 E1.1
  have K1 : Keep h0 h1 [] := K0.ext E1
  have F2 : Fld Z h1 b1 "com/example/erstwhile_terms/erstwhileterms/variants/Run" "words" "[I" .null := D1 (Or.inr (hw _ (List.mem_of_getElem? (i := 38) rfl))) (ty := (.array .int)) (by decide)
  refine own_via st1 ?_
  show own_Go p e below s _ _ _ (T1.setTop (mkF m 3 #[.val (.ref b_), .val (.int (Nat.toInt32 s_)), .val (.int (Nat.toInt32 n_))] [(.ref b1)]))
  refine own_via (fun _ k => XS.dup X1.here hx rfl (hb hby d1_3) rfl rfl k) ?_
  show own_Go p e below s _ _ _ (T1.setTop (mkF m 4 #[.val (.ref b_), .val (.int (Nat.toInt32 s_)), .val (.int (Nat.toInt32 n_))] [(.ref b1), (.ref b1)]))
  refine own_via (fun _ k => XS.aloadN X1.here hx rfl (hb hby d1_4) rfl rfl k) ?_
  show own_Go p e below s _ _ _ (T1.setTop (mkF m 5 #[.val (.ref b_), .val (.int (Nat.toInt32 s_)), .val (.int (Nat.toInt32 n_))] [(.ref b_), (.ref b1), (.ref b1)]))
  refine own_via (fun _ k => XS.iloadN X1.here hx rfl (hb hby d1_5) rfl k) ?_
  show own_Go p e below s _ _ _ (T1.setTop (mkF m 6 #[.val (.ref b_), .val (.int (Nat.toInt32 s_)), .val (.int (Nat.toInt32 n_))] [(.int (Nat.toInt32 s_)), (.ref b_), (.ref b1), (.ref b1)]))
  refine own_via (fun _ k => XS.iloadN X1.here hx rfl (hb hby d1_6) rfl k) ?_
  show own_Go p e below s _ _ _ (T1.setTop (mkF m 7 #[.val (.ref b_), .val (.int (Nat.toInt32 s_)), .val (.int (Nat.toInt32 n_))] [(.int (Nat.toInt32 s_)), (.int (Nat.toInt32 s_)), (.ref b_), (.ref b1), (.ref b1)]))
  refine own_via (fun _ k => XS.iloadN X1.here hx rfl (hb hby d1_7) rfl k) ?_
  show own_Go p e below s _ _ _ (T1.setTop (mkF m 8 #[.val (.ref b_), .val (.int (Nat.toInt32 s_)), .val (.int (Nat.toInt32 n_))] [(.int (Nat.toInt32 n_)), (.int (Nat.toInt32 s_)), (.int (Nat.toInt32 s_)), (.ref b_), (.ref b1), (.ref b1)]))
  refine own_via (fun _ k => XS.iadd X1.here hx rfl (hb hby d1_8) rfl k) ?_
  show own_Go p e below s _ _ _ (T1.setTop (mkF m 9 #[.val (.ref b_), .val (.int (Nat.toInt32 s_)), .val (.int (Nat.toInt32 n_))] [(.int ((Nat.toInt32 s_) + (Nat.toInt32 n_))), (.int (Nat.toInt32 s_)), (.ref b_), (.ref b1), (.ref b1)]))
  rw [show ((Nat.toInt32 s_) + (Nat.toInt32 n_)) = (Nat.toInt32 (s_ + n_)) from (own_addn (by omega))]
  show own_Go p e below s _ _ _ (T1.setTop (mkF m 9 #[.val (.ref b_), .val (.int (Nat.toInt32 s_)), .val (.int (Nat.toInt32 n_))] [(.int (Nat.toInt32 (s_ + n_))), (.int (Nat.toInt32 s_)), (.ref b_), (.ref b1), (.ref b1)]))
  have F4 := (V_b_.ext E1)
  have F5 := (E_b_.ext E1)
  obtain ⟨_, _, ⟨T3, L3, k3, n3⟩, -, X3, ⟨Lc3, hQ3, l3, y3, z3⟩, st3⟩ := Jvm.LawKit.callS X1 hx (y := (⟨"java/util/Arrays", "copyOfRange", "([III)[I"⟩ : MethodName)) hown (mvT hZ (hw _ (List.mem_of_getElem? (i := 8) rfl))) (mvT hZ (hw _ (List.mem_of_getElem? (i := 9) rfl))) (mvT hZ (hw _ (List.mem_of_getElem? (i := 10) rfl))) (mvT hZ (hw _ (List.mem_of_getElem? (i := 11) rfl))) (by decide) (backOf (W := 2) (rm2 l Z a0 hw [] b_ (Nat.toInt32 s_) (Nat.toInt32 (s_ + n_)) k_ us_ s_ n_ h1 n0 Z1 F4 rfl rfl hp3 hp4 F5) hZ (hw _ (List.mem_of_getElem? (i := 11) rfl)) (hw _ (List.mem_of_getElem? (i := 10) rfl)) (by decide) (by decide)) (g := (mkF m 9 #[.val (.ref b_), .val (.int (Nat.toInt32 s_)), .val (.int (Nat.toInt32 n_))] [(.int (Nat.toInt32 (s_ + n_))), (.int (Nat.toInt32 s_)), (.ref b_), (.ref b1), (.ref b1)])) rfl (by rw [hml]; rfl) (argsL := [(.ref b_), (.int (Nat.toInt32 s_)), (.int (Nat.toInt32 (s_ + n_)))]) (rest := [(.ref b1), (.ref b1)]) (lenOf pd_2 rfl) rfl (by show 2 * 0 + _ ≤ _; exact Nat.le_of_eq rfl) (hb hby d1_9) (fun _ _ => ⟨rfl, e1, (by decide : 1 + 1 ≤ _), (by decide : 1 + 4 ≤ _)⟩)
  dsimp only [Pt.U, Pt.locs, Pt.cells, Pt.slots] at X3 l3 y3 z3 st3 hQ3
  subst l3 y3 z3
  obtain ⟨h3, e3⟩ : ∃ h, T3.heap = h := ⟨_, rfl⟩
  rw [e3] at hQ3
  obtain ⟨c_3, kc_3, rfl, N3q, Kq3, F6, F7⟩ := hQ3
  have ne_b1_c_3 : b1 ≠ c_3 := Nat.ne_of_lt (Nat.lt_of_lt_of_le A1.lt F6)
  have ne_b__c_3 : b_ ≠ c_3 := Nat.ne_of_lt (Nat.lt_of_lt_of_le F5.lt F6)
  have g_c_3 : n0 ≤ c_3 := Nat.le_trans Z1 F6
  have sz_c_3 : h0.size ≤ c_3 := Nat.le_trans K1.1 F6
  have Z3 : n0 ≤ h3.size := Nat.le_trans Z1 Kq3.1
  have K3 : Keep h0 h3 [] := K1.trans Kq3 all0
  have N3 := Fr.app N0 N3q
  refine own_via st3 ?_
  show own_Go p e below s _ _ _ (T3.setTop (mkF m 12 #[.val (.ref b_), .val (.int (Nat.toInt32 s_)), .val (.int (Nat.toInt32 n_))] [(.ref c_3), (.ref b1), (.ref b1)]))
  have F9 := (A1.keep Kq3)
  have F10 := (F2.keep Kq3 nin0)
  obtain ⟨_, _, ⟨T8, L8, k8, n8⟩, -, X8, ⟨Lc8, hQ8, l8, y8, z8⟩, st8⟩ := X3.specialBack hx (y := (⟨"com/example/erstwhile_terms/erstwhileterms/variants/Run", "<init>", "([I)V"⟩ : MethodName)) rfl hown (mvT hZ (hw _ (List.mem_of_getElem? (i := 26) rfl))) (mvT hZ (hw _ (List.mem_of_getElem? (i := 27) rfl))) (mvT hZ (hw _ (List.mem_of_getElem? (i := 28) rfl))) (by decide) (backOf (W := 1) (rm6 l Z a0 hw [] b1 c_3 h3 n0 Z3 F9 F10 g_b1) hZ (hw _ (List.mem_of_getElem? (i := 28) rfl)) (hw _ (List.mem_of_getElem? (i := 4) rfl)) (by decide) (by decide)) (g := (mkF m 12 #[.val (.ref b_), .val (.int (Nat.toInt32 s_)), .val (.int (Nat.toInt32 n_))] [(.ref c_3), (.ref b1), (.ref b1)])) rfl (by rw [hml]; rfl) (Steps.refl _) (a := b1) (argsL := [(.ref c_3)]) (rest := [(.ref b1)]) (lenOf pd_4 rfl) rfl (by show 2 * 0 + _ ≤ _; exact Nat.le_of_eq rfl) (hb hby d1_12) (fun _ _ => ⟨rfl, e3, (by decide : 2 + 0 ≤ _), (by decide : 5 + 0 ≤ _)⟩)
  dsimp only [Pt.U, Pt.locs, Pt.cells, Pt.slots] at X8 l8 y8 z8 st8 hQ8
  subst l8 y8 z8
  obtain ⟨h8, e8⟩ : ∃ h, T8.heap = h := ⟨_, rfl⟩
  rw [e8] at hQ8
  obtain ⟨rfl, N8q, Kq8, F11, F12⟩ := hQ8
  have Z8 : n0 ≤ h8.size := Nat.le_trans Z3 Kq8.1
  have K8 : Keep h0 h8 [] := K3.trans Kq8 (allS (Or.inr sz_b1) all0)
  have N8 := Fr.app N3 N8q
  refine own_viaT st8 ?_
  show own_Go p e below s _ _ _ (T8.setTop (mkF m 15 #[.val (.ref b_), .val (.int (Nat.toInt32 s_)), .val (.int (Nat.toInt32 n_))] [(.ref b1)]))
  have F13 := (F7.keep Kq8 (ninS (Ne.symm ne_b1_c_3) nin0))
  exact own_goA X8 hx rfl Bd.returns rfl (hb hby d1_15) Bd.notSynchronized (by decide) (by decide) (by rw [e8]; exact ⟨b1, c_3, kc_3, rfl, N8, K8, sz_b1, sz_c_3, F11, F12, F13, ne_b1_c_3⟩)
theorem d9_0 : decode prog_37_method_8_code 0 = .ok (.aload_n 0, 1) := by decide +kernel
theorem d9_1 : decode prog_37_method_8_code 1 = .ok (.getfield 7, 3) := by decide +kernel
theorem d9_4 : decode prog_37_method_8_code 4 = .ok (.areturn, 1) := by decide +kernel
theorem ef_9 (m : MethodId) (x0 : Addr) : entryFrame m #[(.ref x0)] 1 = mkF m 0 #[.val (.ref x0)] [] := by first | (simp [entryFrame, mkF, argsToLocals, Value.category]; done) | rfl
def Q9 (Z : State) (a : Addr) (c_ : Addr) (h0 : Heap) (n0 : Nat) (v : Option Value) (h : Heap) (L : List Loc) : Prop := v = some (.ref c_) ∧ Fr n0 L ∧ h = h0
set_option maxRecDepth 65536 in
set_option maxHeartbeats 40000000 in
theorem rm9 (l : Launch) (Z : State) (a0 : Array Value) (hw : ∀ d ∈ tables_1, d.before a0 Z = true) (ws : List Jvm.Cond) (a : Addr) (c_ : Addr) (h0 : Heap) (n0 : Nat) (Z0 : n0 ≤ h0.size) (F_words_a : Fld Z h0 a "com/example/erstwhile_terms/erstwhileterms/variants/Run" "words" "[I" (.ref c_)) :
    MetFree l (⟨"com/example/erstwhile_terms/erstwhileterms/variants/Run", "words", "()[I"⟩ : MethodName) (head1 (Jvm.Cond.code (⟨"com/example/erstwhile_terms/erstwhileterms/variants/Run", "words", "()[I"⟩ : MethodName) prog_37_method_8_code 1 (some (.array .int)) :: ws) ({ frames := 0, cells := 0, slots := 0, locals := 0 } : Room)) (fun q_ U => q_ = #[(.ref a)] ∧ Z.Warmed39 U.vm ∧ U.heap = h0) (fun _ _ _ _ _ => True) (fun _ U o U' => ∃ v L, o = .returned v ∧ Q9 Z a c_ h0 n0 v U'.heap L ∧ FrameEnd U o U' L ({ frames := 0, cells := 0, slots := 0, locals := 0 } : Room).cells ({ frames := 0, cells := 0, slots := 0, locals := 0 } : Room).slots) := by
  refine MetFree.of_bodySF (plainFor_of_name pn_2) hisR ?_
  intro p e s m args below meth c s₁ Bd hml0 hP hK
  obtain ⟨rfl, hZ, hh⟩ := hP
  have hx := Bd.exec
  have hby := Bd.bytes
  have hml : c.maxLocals = 1 := hml0
  have hown : s.vm.findClass "com/example/erstwhile_terms/erstwhileterms/variants/Run" = some m.cls := findClass_of_methodNamed Bd.named
  have hnm := (name_of_methodNamed Bd.named Bd.method).1
  have X0 : Stand p l e ({ frames := 0, cells := 0, slots := 0, locals := 0 } : Room) s m #[(.ref a)] below meth c s₁ [] 0 0 := Stand.of_body Bd
  have e0 : s₁.heap = h0 := by rw [← hh, Bd.state]; rfl
  have N0 := Fr.nil n0
  show own_Go p e below s (Q9 Z a c_ h0 n0) ({ frames := 0, cells := 0, slots := 0, locals := 0 } : Room).cells ({ frames := 0, cells := 0, slots := 0, locals := 0 } : Room).slots (s₁.setTop (entryFrame m #[(.ref a)] 1))
  refine own_via (fun t k => castTop (ef_9 m a) k) ?_
  show own_Go p e below s _ _ _ (s₁.setTop (mkF m 0 #[.val (.ref a)] []))
  refine own_via (fun _ k => XS.aloadN X0.here hx rfl (hb hby d9_0) rfl rfl k) ?_
  show own_Go p e below s _ _ _ (s₁.setTop (mkF m 1 #[.val (.ref a)] [(.ref a)]))
  obtain ⟨T1, X1, e1, st1⟩ := getF X0 hx hZ hown (host := "") (Or.inl (hw _ (List.mem_of_getElem? (i := 37) rfl))) Via.refl e0 F_words_a (g := (mkF m 1 #[.val (.ref a)] [(.ref a)])) rfl rfl (hb hby d9_1)
  refine own_via st1 ?_
  show own_Go p e below s _ _ _ (T1.setTop (mkF m 4 #[.val (.ref a)] [(.ref c_)]))
  exact own_goA X1 hx rfl Bd.returns rfl (hb hby d9_4) Bd.notSynchronized (by decide) (by decide) (by rw [e1]; exact ⟨rfl, N0, rfl⟩)
theorem d10_0 : decode method_3_code 0 = .ok (.iload 4, 2) := by decide +kernel
theorem d10_2 : decode method_3_code 2 = .ok (.iload_n 3, 1) := by decide +kernel
theorem d10_3 : decode method_3_code 3 = .ok (.if_icmp .ge 16, 3) := by decide +kernel
theorem d10_6 : decode method_3_code 6 = .ok (.aload_n 0, 1) := by decide +kernel
theorem d10_7 : decode method_3_code 7 = .ok (.iload 4, 2) := by decide +kernel
theorem d10_9 : decode method_3_code 9 = .ok (.iaload, 1) := by decide +kernel
theorem d10_10 : decode method_3_code 10 = .ok (.aload_n 1, 1) := by decide +kernel
theorem d10_11 : decode method_3_code 11 = .ok (.iload_n 2, 1) := by decide +kernel
theorem d10_12 : decode method_3_code 12 = .ok (.iload 4, 2) := by decide +kernel
theorem d10_14 : decode method_3_code 14 = .ok (.iadd, 1) := by decide +kernel
theorem d10_15 : decode method_3_code 15 = .ok (.iaload, 1) := by decide +kernel
theorem d10_16 : decode method_3_code 16 = .ok (.if_icmp .ne 7, 3) := by decide +kernel
theorem d10_19 : decode method_3_code 19 = .ok (.iconst 1, 1) := by decide +kernel
theorem d10_20 : decode method_3_code 20 = .ok (.goto 4, 3) := by decide +kernel
theorem d10_24 : decode method_3_code 24 = .ok (.ireturn, 1) := by decide +kernel
theorem pn_3 : plainName "com/example/erstwhile_terms/erstwhileterms/variants/RunOfPinLaw" = true := by first | (simp [plainName, overriddenIn]; done) | decide +kernel
theorem ef_10 (m : MethodId) (x0 : Addr) (x1 : Addr) (x2 : Int32) (x3 : Int32) (x4 : Int32) : entryFrame m #[(.ref x0), (.ref x1), (.int x2), (.int x3), (.int x4)] 5 = mkF m 0 #[.val (.ref x0), .val (.ref x1), .val (.int x2), .val (.int x3), .val (.int x4)] [] := by first | (simp [entryFrame, mkF, argsToLocals, Value.category]; done) | rfl
def Q10 (Z : State) (w_ : Addr) (o_ : Addr) (ps_ : Int32) (pl_ : Int32) (pi_ : Int32) (kw_ : ClassId) (ko_ : ClassId) (us_ : List Int32) (s_ : Nat) (n_ : Nat) (i_ : Nat) (h0 : Heap) (n0 : Nat) (v : Option Value) (h : Heap) (L : List Loc) : Prop := v = some (.int (1 : Int32)) ∧ Fr n0 L ∧ h = h0
set_option maxRecDepth 65536 in
set_option maxHeartbeats 40000000 in
theorem rm10 (l : Launch) (Z : State) (a0 : Array Value) (hw : ∀ d ∈ tables_1, d.before a0 Z = true) (ws : List Jvm.Cond) (w_ : Addr) (o_ : Addr) (ps_ : Int32) (pl_ : Int32) (pi_ : Int32) (kw_ : ClassId) (ko_ : ClassId) (us_ : List Int32) (s_ : Nat) (n_ : Nat) (i_ : Nat) (h0 : Heap) (n0 : Nat) (Z0 : n0 ≤ h0.size) (V_w_ : Arv Z h0 w_ kw_ .int (Nat.toInt32 n_) ((own_sub us_ s_ n_).map Value.int) (.int (0 : Int32))) (V_o_ : Arv Z h0 o_ ko_ .int (4 : Int32) (us_.map Value.int) (.int (0 : Int32))) (hp2 : ps_ = Nat.toInt32 s_) (hp3 : pl_ = Nat.toInt32 n_) (hp4 : pi_ = Nat.toInt32 i_) (hp5 : s_ + n_ ≤ 4) (hp6 : i_ ≤ 4) :
    MetFree l (⟨"com/example/erstwhile_terms/erstwhileterms/variants/RunOfPinLaw", "at", "([I[IIII)Z"⟩ : MethodName) (head1 (Jvm.Cond.code (⟨"com/example/erstwhile_terms/erstwhileterms/variants/RunOfPinLaw", "at", "([I[IIII)Z"⟩ : MethodName) method_3_code 5 (some .boolean) :: ws) ({ frames := 0, cells := 0, slots := 0, locals := 0 } : Room)) (fun q_ U => q_ = #[(.ref w_), (.ref o_), (.int ps_), (.int pl_), (.int pi_)] ∧ Z.Warmed39 U.vm ∧ U.heap = h0) (fun _ _ _ _ _ => True) (fun _ U o U' => ∃ v L, o = .returned v ∧ Q10 Z w_ o_ ps_ pl_ pi_ kw_ ko_ us_ s_ n_ i_ h0 n0 v U'.heap L ∧ FrameEnd U o U' L ({ frames := 0, cells := 0, slots := 0, locals := 0 } : Room).cells ({ frames := 0, cells := 0, slots := 0, locals := 0 } : Room).slots) := by
  refine MetFree.of_bodySF (plainFor_of_name pn_3) hisR ?_
  intro p e s m args below meth c s₁ Bd hml0 hP hK
  obtain ⟨rfl, hZ, hh⟩ := hP
  have hx := Bd.exec
  have hby := Bd.bytes
  have hml : c.maxLocals = 5 := hml0
  have hown : s.vm.findClass "com/example/erstwhile_terms/erstwhileterms/variants/RunOfPinLaw" = some m.cls := findClass_of_methodNamed Bd.named
  have hnm := (name_of_methodNamed Bd.named Bd.method).1
  have X0 : Stand p l e ({ frames := 0, cells := 0, slots := 0, locals := 0 } : Room) s m #[(.ref w_), (.ref o_), (.int ps_), (.int pl_), (.int pi_)] below meth c s₁ [] 0 0 := Stand.of_body Bd
  have e0 : s₁.heap = h0 := by rw [← hh, Bd.state]; rfl
  have N0 := Fr.nil n0
  show own_Go p e below s (Q10 Z w_ o_ ps_ pl_ pi_ kw_ ko_ us_ s_ n_ i_ h0 n0) ({ frames := 0, cells := 0, slots := 0, locals := 0 } : Room).cells ({ frames := 0, cells := 0, slots := 0, locals := 0 } : Room).slots (s₁.setTop (entryFrame m #[(.ref w_), (.ref o_), (.int ps_), (.int pl_), (.int pi_)] 5))
  refine own_via (fun t k => castTop (ef_10 m w_ o_ ps_ pl_ pi_) k) ?_
  show own_Go p e below s _ _ _ (s₁.setTop (mkF m 0 #[.val (.ref w_), .val (.ref o_), .val (.int ps_), .val (.int pl_), .val (.int pi_)] []))
  subst hp2 hp3 hp4
  show own_Go p e below s _ _ _ (s₁.setTop (mkF m 0 #[.val (.ref w_), .val (.ref o_), .val (.int (Nat.toInt32 s_)), .val (.int (Nat.toInt32 n_)), .val (.int (Nat.toInt32 i_))] []))
  refine own_via (fun _ k => XS.iload X0.here hx rfl (hb hby d10_0) rfl k) ?_
  show own_Go p e below s _ _ _ (s₁.setTop (mkF m 2 #[.val (.ref w_), .val (.ref o_), .val (.int (Nat.toInt32 s_)), .val (.int (Nat.toInt32 n_)), .val (.int (Nat.toInt32 i_))] [(.int (Nat.toInt32 i_))]))
  refine own_via (fun _ k => XS.iloadN X0.here hx rfl (hb hby d10_2) rfl k) ?_
  show own_Go p e below s _ _ _ (s₁.setTop (mkF m 3 #[.val (.ref w_), .val (.ref o_), .val (.int (Nat.toInt32 s_)), .val (.int (Nat.toInt32 n_)), .val (.int (Nat.toInt32 i_))] [(.int (Nat.toInt32 n_)), (.int (Nat.toInt32 i_))]))
  by_cases hc1 : (Nat.toInt32 i_) < (Nat.toInt32 n_)
  · refine own_via (fun _ k => XS.icmpNo X0.here hx rfl (hb hby d10_3) rfl (Jvm.Free.XT.ii_ge_f hc1) k) ?_
    show own_Go p e below s _ _ _ (s₁.setTop (mkF m 6 #[.val (.ref w_), .val (.ref o_), .val (.int (Nat.toInt32 s_)), .val (.int (Nat.toInt32 n_)), .val (.int (Nat.toInt32 i_))] []))
    have hin : i_ < n_ := (own_ltn (by omega) (by omega)).mp hc1
    refine own_via (fun _ k => XS.aloadN X0.here hx rfl (hb hby d10_6) rfl rfl k) ?_
    show own_Go p e below s _ _ _ (s₁.setTop (mkF m 7 #[.val (.ref w_), .val (.ref o_), .val (.int (Nat.toInt32 s_)), .val (.int (Nat.toInt32 n_)), .val (.int (Nat.toInt32 i_))] [(.ref w_)]))
    refine own_via (fun _ k => XS.iload X0.here hx rfl (hb hby d10_7) rfl k) ?_
    show own_Go p e below s _ _ _ (s₁.setTop (mkF m 9 #[.val (.ref w_), .val (.ref o_), .val (.int (Nat.toInt32 s_)), .val (.int (Nat.toInt32 n_)), .val (.int (Nat.toInt32 i_))] [(.int (Nat.toInt32 i_)), (.ref w_)]))
    obtain ⟨cl2, Ar2, q2, S2, M2, H2, G2⟩ := (id V_w_)
    have hin2 : ¬ ((Nat.toInt32 i_) < 0 ∨ cl2.slots.size ≤ ((Nat.toInt32 i_)).toNatClampNeg) := inb_of S2 ⟨own_nn (by omega), hc1⟩
    have hat2 : cl2.slots[((Nat.toInt32 i_)).toNatClampNeg]? = some (.int (own_g (own_sub us_ s_ n_) i_)) := Has.at H2 hin2 (own_gm (own_sub us_ s_ n_) (by omega))
    refine own_via (fun _ k => X0.iaload hx (j := (Nat.toInt32 i_)) (v := (.int (own_g (own_sub us_ s_ n_) i_))) (by rw [e0]; exact Ar2.1) (State.isArrayOf_alike hZ.alike Ar2.2.1) Ar2.2.2 hin2 hat2 (g := (mkF m 9 #[.val (.ref w_), .val (.ref o_), .val (.int (Nat.toInt32 s_)), .val (.int (Nat.toInt32 n_)), .val (.int (Nat.toInt32 i_))] [(.int (Nat.toInt32 i_)), (.ref w_)])) rfl rfl (hb hby d10_9) _ k) ?_
    show own_Go p e below s _ _ _ (s₁.setTop (mkF m 10 #[.val (.ref w_), .val (.ref o_), .val (.int (Nat.toInt32 s_)), .val (.int (Nat.toInt32 n_)), .val (.int (Nat.toInt32 i_))] [(.int (own_g (own_sub us_ s_ n_) i_))]))
    refine own_via (fun _ k => XS.aloadN X0.here hx rfl (hb hby d10_10) rfl rfl k) ?_
    show own_Go p e below s _ _ _ (s₁.setTop (mkF m 11 #[.val (.ref w_), .val (.ref o_), .val (.int (Nat.toInt32 s_)), .val (.int (Nat.toInt32 n_)), .val (.int (Nat.toInt32 i_))] [(.ref o_), (.int (own_g (own_sub us_ s_ n_) i_))]))
    refine own_via (fun _ k => XS.iloadN X0.here hx rfl (hb hby d10_11) rfl k) ?_
    show own_Go p e below s _ _ _ (s₁.setTop (mkF m 12 #[.val (.ref w_), .val (.ref o_), .val (.int (Nat.toInt32 s_)), .val (.int (Nat.toInt32 n_)), .val (.int (Nat.toInt32 i_))] [(.int (Nat.toInt32 s_)), (.ref o_), (.int (own_g (own_sub us_ s_ n_) i_))]))
    refine own_via (fun _ k => XS.iload X0.here hx rfl (hb hby d10_12) rfl k) ?_
    show own_Go p e below s _ _ _ (s₁.setTop (mkF m 14 #[.val (.ref w_), .val (.ref o_), .val (.int (Nat.toInt32 s_)), .val (.int (Nat.toInt32 n_)), .val (.int (Nat.toInt32 i_))] [(.int (Nat.toInt32 i_)), (.int (Nat.toInt32 s_)), (.ref o_), (.int (own_g (own_sub us_ s_ n_) i_))]))
    refine own_via (fun _ k => XS.iadd X0.here hx rfl (hb hby d10_14) rfl k) ?_
    show own_Go p e below s _ _ _ (s₁.setTop (mkF m 15 #[.val (.ref w_), .val (.ref o_), .val (.int (Nat.toInt32 s_)), .val (.int (Nat.toInt32 n_)), .val (.int (Nat.toInt32 i_))] [(.int ((Nat.toInt32 s_) + (Nat.toInt32 i_))), (.ref o_), (.int (own_g (own_sub us_ s_ n_) i_))]))
    rw [show ((Nat.toInt32 s_) + (Nat.toInt32 i_)) = (Nat.toInt32 (s_ + i_)) from (own_addn (by omega))]
    show own_Go p e below s _ _ _ (s₁.setTop (mkF m 15 #[.val (.ref w_), .val (.ref o_), .val (.int (Nat.toInt32 s_)), .val (.int (Nat.toInt32 n_)), .val (.int (Nat.toInt32 i_))] [(.int (Nat.toInt32 (s_ + i_))), (.ref o_), (.int (own_g (own_sub us_ s_ n_) i_))]))
    obtain ⟨cl3, Ar3, q3, S3, M3, H3, G3⟩ := (id V_o_)
    have hin3 : ¬ ((Nat.toInt32 (s_ + i_)) < 0 ∨ cl3.slots.size ≤ ((Nat.toInt32 (s_ + i_))).toNatClampNeg) := inb_of S3 (own_inb (by omega) (by show ((s_ + i_ : Nat) : Int) < 4; omega))
    have hat3 : cl3.slots[((Nat.toInt32 (s_ + i_))).toNatClampNeg]? = some (.int (own_g us_ (s_ + i_))) := Has.at H3 hin3 (own_gm us_ (by omega))
    refine own_via (fun _ k => X0.iaload hx (j := (Nat.toInt32 (s_ + i_))) (v := (.int (own_g us_ (s_ + i_)))) (by rw [e0]; exact Ar3.1) (State.isArrayOf_alike hZ.alike Ar3.2.1) Ar3.2.2 hin3 hat3 (g := (mkF m 15 #[.val (.ref w_), .val (.ref o_), .val (.int (Nat.toInt32 s_)), .val (.int (Nat.toInt32 n_)), .val (.int (Nat.toInt32 i_))] [(.int (Nat.toInt32 (s_ + i_))), (.ref o_), (.int (own_g (own_sub us_ s_ n_) i_))])) rfl rfl (hb hby d10_15) _ k) ?_
    show own_Go p e below s _ _ _ (s₁.setTop (mkF m 16 #[.val (.ref w_), .val (.ref o_), .val (.int (Nat.toInt32 s_)), .val (.int (Nat.toInt32 n_)), .val (.int (Nat.toInt32 i_))] [(.int (own_g us_ (s_ + i_))), (.int (own_g (own_sub us_ s_ n_) i_))]))
    have hc4 : (own_g (own_sub us_ s_ n_) i_) = (own_g us_ (s_ + i_)) := own_sub_g hin
    refine own_via (fun _ k => XS.icmpNo X0.here hx rfl (hb hby d10_16) rfl (Jvm.Free.XT.ii_ne_f hc4) k) ?_
    show own_Go p e below s _ _ _ (s₁.setTop (mkF m 19 #[.val (.ref w_), .val (.ref o_), .val (.int (Nat.toInt32 s_)), .val (.int (Nat.toInt32 n_)), .val (.int (Nat.toInt32 i_))] []))
    refine own_via (fun _ k => XS.iconst X0.here hx rfl (hb hby d10_19) k) ?_
    show own_Go p e below s _ _ _ (s₁.setTop (mkF m 20 #[.val (.ref w_), .val (.ref o_), .val (.int (Nat.toInt32 s_)), .val (.int (Nat.toInt32 n_)), .val (.int (Nat.toInt32 i_))] [(.int (1 : Int32))]))
    refine own_via (fun _ k => XS.goto X0.here hx rfl (pc0 := 20) (pc' := 24) rfl (hb hby d10_20) (by decide) (by decide) k) ?_
    show own_Go p e below s _ _ _ (s₁.setTop (mkF m 24 #[.val (.ref w_), .val (.ref o_), .val (.int (Nat.toInt32 s_)), .val (.int (Nat.toInt32 n_)), .val (.int (Nat.toInt32 i_))] [(.int (1 : Int32))]))
    exact own_goN X0 hx (t := .boolean) Bd.returns (by simp) (hb hby d10_24) Bd.notSynchronized (by decide) (by decide) (by rw [e0]; exact ⟨rfl, N0, rfl⟩)
  · refine own_via (fun _ k => XS.icmpYes X0.here hx rfl (pc0 := 3) (pc' := 19) rfl (hb hby d10_3) rfl (Jvm.Free.XT.ii_ge_t hc1) (by decide) (by decide) k) ?_
    show own_Go p e below s _ _ _ (s₁.setTop (mkF m 19 #[.val (.ref w_), .val (.ref o_), .val (.int (Nat.toInt32 s_)), .val (.int (Nat.toInt32 n_)), .val (.int (Nat.toInt32 i_))] []))
    refine own_via (fun _ k => XS.iconst X0.here hx rfl (hb hby d10_19) k) ?_
    show own_Go p e below s _ _ _ (s₁.setTop (mkF m 20 #[.val (.ref w_), .val (.ref o_), .val (.int (Nat.toInt32 s_)), .val (.int (Nat.toInt32 n_)), .val (.int (Nat.toInt32 i_))] [(.int (1 : Int32))]))
    refine own_via (fun _ k => XS.goto X0.here hx rfl (pc0 := 20) (pc' := 24) rfl (hb hby d10_20) (by decide) (by decide) k) ?_
    show own_Go p e below s _ _ _ (s₁.setTop (mkF m 24 #[.val (.ref w_), .val (.ref o_), .val (.int (Nat.toInt32 s_)), .val (.int (Nat.toInt32 n_)), .val (.int (Nat.toInt32 i_))] [(.int (1 : Int32))]))
    exact own_goN X0 hx (t := .boolean) Bd.returns (by simp) (hb hby d10_24) Bd.notSynchronized (by decide) (by decide) (by rw [e0]; exact ⟨rfl, N0, rfl⟩)

theorem own_st (x : Int32) {v : Int32} (h : (o_irem (x &&& (2147483647 : Int32)) (5 : Int32)) = v) : ∃ s : Nat, s < 5 ∧ v = Nat.toInt32 s := by
  have m0 := (c_and x 2147483647 (by decide)).1
  have m1 : o_irem (x &&& (2147483647 : Int32)) (5 : Int32) = (x &&& (2147483647 : Int32)) % 5 := irem_eq_mod _ _
  have m2 := (c_irem (x &&& (2147483647 : Int32)) 5 5 rfl).1 m0
  rw [← m1, h] at m2
  refine ⟨v.toInt.toNat, by omega, ?_⟩
  apply Int32.toInt_inj.mp
  rw [own_t _ (by omega)]; omega
theorem own_sub5 {s : Nat} (hs : s < 5) : ((5 : Int32) - Nat.toInt32 s).toInt = 5 - s := by
  have := c_isub 5 (Nat.toInt32 s); have := rng32 ((5 : Int32) - Nat.toInt32 s); have := own_t s (by omega)
  simp only [Int32.reduceToInt] at *; omega
theorem own_nz5 {s : Nat} (hs : s < 5) : ((5 : Int32) - Nat.toInt32 s) ≠ 0 := by
  intro q; have := own_sub5 hs; rw [q] at this; simp only [Int32.reduceToInt] at this; omega
theorem own_en (x : Int32) {s : Nat} {v : Int32} (hs : s < 5) (h : (o_irem (x &&& (2147483647 : Int32)) ((5 : Int32) - (Nat.toInt32 s))) = v) : ∃ n : Nat, s + n ≤ 4 ∧ v = Nat.toInt32 n := by
  have m0 := (c_and x 2147483647 (by decide)).1
  have m1 : o_irem (x &&& (2147483647 : Int32)) ((5 : Int32) - Nat.toInt32 s) = (x &&& (2147483647 : Int32)) % ((5 : Int32) - Nat.toInt32 s) := irem_eq_mod _ _
  have m3 := own_sub5 hs
  have m2 := (c_iremV (x &&& (2147483647 : Int32)) ((5 : Int32) - Nat.toInt32 s)).1 m0 (by omega)
  rw [← m1, h] at m2
  refine ⟨v.toInt.toNat, by omega, ?_⟩
  apply Int32.toInt_inj.mp
  rw [own_t _ (by omega)]; omega

theorem pd_5 : parseMethodDescriptor "([III)Lcom/example/erstwhile_terms/erstwhileterms/variants/Run;" = some ⟨[(.array .int), .int, .int], some (.object "com/example/erstwhile_terms/erstwhileterms/variants/Run")⟩ := by decide +kernel
theorem pd_6 : parseMethodDescriptor "()[I" = some ⟨[], some (.array .int)⟩ := by decide +kernel
theorem pd_7 : parseMethodDescriptor "([I[IIII)Z" = some ⟨[(.array .int), (.array .int), .int, .int, .int], some .boolean⟩ := by decide +kernel
theorem ef_0 (m : MethodId) (x0 : Int32) (x1 : Int32) (x2 : Int32) (x3 : Int32) (x4 : Int32) (x5 : Int32) : entryFrame m #[(.int x0), (.int x1), (.int x2), (.int x3), (.int x4), (.int x5)] maxLocals = mkF m 0 #[.val (.int x0), .val (.int x1), .val (.int x2), .val (.int x3), .val (.int x4), .val (.int x5), .unset, .unset, .unset, .unset, .unset, .unset] [] := by first | (simp [entryFrame, mkF, argsToLocals, Value.category, maxLocals]; done) | rfl
def Q0 (Z : State) (p0 : Int32) (p1 : Int32) (p2 : Int32) (p3 : Int32) (p4 : Int32) (p5 : Int32) (h0 : Heap) (n0 : Nat) (v : Option Value) (h : Heap) (L : List Loc) : Prop := v = some (.int 1) ∧ Fr n0 L
set_option maxRecDepth 65536 in
set_option maxHeartbeats 40000000 in
theorem rm0 (l : Launch) (Z : State) (a0 : Array Value) (hw : ∀ d ∈ tables_1, d.before a0 Z = true) (ws : List Jvm.Cond) (p0 : Int32) (p1 : Int32) (p2 : Int32) (p3 : Int32) (p4 : Int32) (p5 : Int32) (h0 : Heap) (n0 : Nat) (Z0 : n0 ≤ h0.size) :
    MetFree l x (head1 (Jvm.Cond.code x code maxLocals ret :: ws) room_1) (fun q_ U => q_ = #[(.int p0), (.int p1), (.int p2), (.int p3), (.int p4), (.int p5)] ∧ Z.Warmed39 U.vm ∧ U.heap = h0) (fun _ _ _ _ _ => True) (fun _ U o U' => ∃ v L, o = .returned v ∧ Q0 Z p0 p1 p2 p3 p4 p5 h0 n0 v U'.heap L ∧ FrameEnd U o U' L room_1.cells room_1.slots) := by
  refine MetFree.of_bodySF (plainFor_of_name pn_3) hisR ?_
  intro p e s m args below meth c s₁ Bd hml0 hP hK
  obtain ⟨rfl, hZ, hh⟩ := hP
  have hx := Bd.exec
  have hby := Bd.bytes
  have hml : c.maxLocals = 12 := hml0
  have hown : s.vm.findClass "com/example/erstwhile_terms/erstwhileterms/variants/RunOfPinLaw" = some m.cls := findClass_of_methodNamed Bd.named
  have hnm := (name_of_methodNamed Bd.named Bd.method).1
  have X0 : Stand p l e room_1 s m #[(.int p0), (.int p1), (.int p2), (.int p3), (.int p4), (.int p5)] below meth c s₁ [] 0 0 := Stand.of_body Bd
  have e0 : s₁.heap = h0 := by rw [← hh, Bd.state]; rfl
  have N0 := Fr.nil n0
  show own_Go p e below s (Q0 Z p0 p1 p2 p3 p4 p5 h0 n0) room_1.cells room_1.slots (s₁.setTop (entryFrame m #[(.int p0), (.int p1), (.int p2), (.int p3), (.int p4), (.int p5)] maxLocals))
  refine own_via (fun t k => castTop (ef_0 m p0 p1 p2 p3 p4 p5) k) ?_
  show own_Go p e below s _ _ _ (s₁.setTop (mkF m 0 #[.val (.int p0), .val (.int p1), .val (.int p2), .val (.int p3), .val (.int p4), .val (.int p5), .unset, .unset, .unset, .unset, .unset, .unset] []))
  refine own_via (fun _ k => XS.iload X0.here hx rfl (hb hby at_0) rfl k) ?_
  show own_Go p e below s _ _ _ (s₁.setTop (mkF m 2 #[.val (.int p0), .val (.int p1), .val (.int p2), .val (.int p3), .val (.int p4), .val (.int p5), .unset, .unset, .unset, .unset, .unset, .unset] [(.int p4)]))
  refine own_via (fun _ k => X0.ldcInt hx hown (mvT hZ (hw _ (List.mem_of_getElem? (i := 0) rfl))) (g := (mkF m 2 #[.val (.int p0), .val (.int p1), .val (.int p2), .val (.int p3), .val (.int p4), .val (.int p5), .unset, .unset, .unset, .unset, .unset, .unset] [(.int p4)])) rfl (hb hby at_2) _ k) ?_
  show own_Go p e below s _ _ _ (s₁.setTop (mkF m 4 #[.val (.int p0), .val (.int p1), .val (.int p2), .val (.int p3), .val (.int p4), .val (.int p5), .unset, .unset, .unset, .unset, .unset, .unset] [(.int (2147483647 : Int32)), (.int p4)]))
  refine own_via (fun _ k => XS.iand X0.here hx rfl (hb hby at_4) rfl k) ?_
  show own_Go p e below s _ _ _ (s₁.setTop (mkF m 5 #[.val (.int p0), .val (.int p1), .val (.int p2), .val (.int p3), .val (.int p4), .val (.int p5), .unset, .unset, .unset, .unset, .unset, .unset] [(.int (p4 &&& (2147483647 : Int32)))]))
  refine own_via (fun _ k => XS.iconst X0.here hx rfl (hb hby at_5) k) ?_
  show own_Go p e below s _ _ _ (s₁.setTop (mkF m 6 #[.val (.int p0), .val (.int p1), .val (.int p2), .val (.int p3), .val (.int p4), .val (.int p5), .unset, .unset, .unset, .unset, .unset, .unset] [(.int (5 : Int32)), (.int (p4 &&& (2147483647 : Int32)))]))
  refine own_via (fun _ k => XS.irem X0.here hx rfl (hb hby at_6) rfl (by decide) k) ?_
  show own_Go p e below s _ _ _ (s₁.setTop (mkF m 7 #[.val (.int p0), .val (.int p1), .val (.int p2), .val (.int p3), .val (.int p4), .val (.int p5), .unset, .unset, .unset, .unset, .unset, .unset] [(.int (o_irem (p4 &&& (2147483647 : Int32)) (5 : Int32)))]))
  refine own_via (fun _ k => XS.istore X0.here hx rfl (hb hby at_7) rfl (l' := #[.val (.int p0), .val (.int p1), .val (.int p2), .val (.int p3), .val (.int p4), .val (.int p5), .val (.int (o_irem (p4 &&& (2147483647 : Int32)) (5 : Int32))), .unset, .unset, .unset, .unset, .unset]) rfl k) ?_
  show own_Go p e below s _ _ _ (s₁.setTop (mkF m 9 #[.val (.int p0), .val (.int p1), .val (.int p2), .val (.int p3), .val (.int p4), .val (.int p5), .val (.int (o_irem (p4 &&& (2147483647 : Int32)) (5 : Int32))), .unset, .unset, .unset, .unset, .unset] []))
  generalize hv1 : (o_irem (p4 &&& (2147483647 : Int32)) (5 : Int32)) = v1
  show own_Go p e below s _ _ _ (s₁.setTop (mkF m 9 #[.val (.int p0), .val (.int p1), .val (.int p2), .val (.int p3), .val (.int p4), .val (.int p5), .val (.int v1), .unset, .unset, .unset, .unset, .unset] []))
  obtain ⟨sN, hs, rfl⟩ := own_st p4 hv1
  show own_Go p e below s _ _ _ (s₁.setTop (mkF m 9 #[.val (.int p0), .val (.int p1), .val (.int p2), .val (.int p3), .val (.int p4), .val (.int p5), .val (.int (Nat.toInt32 sN)), .unset, .unset, .unset, .unset, .unset] []))
  refine own_via (fun _ k => XS.iload X0.here hx rfl (hb hby at_9) rfl k) ?_
  show own_Go p e below s _ _ _ (s₁.setTop (mkF m 11 #[.val (.int p0), .val (.int p1), .val (.int p2), .val (.int p3), .val (.int p4), .val (.int p5), .val (.int (Nat.toInt32 sN)), .unset, .unset, .unset, .unset, .unset] [(.int p5)]))
  refine own_via (fun _ k => X0.ldcInt hx hown (mvT hZ (hw _ (List.mem_of_getElem? (i := 0) rfl))) (g := (mkF m 11 #[.val (.int p0), .val (.int p1), .val (.int p2), .val (.int p3), .val (.int p4), .val (.int p5), .val (.int (Nat.toInt32 sN)), .unset, .unset, .unset, .unset, .unset] [(.int p5)])) rfl (hb hby at_11) _ k) ?_
  show own_Go p e below s _ _ _ (s₁.setTop (mkF m 13 #[.val (.int p0), .val (.int p1), .val (.int p2), .val (.int p3), .val (.int p4), .val (.int p5), .val (.int (Nat.toInt32 sN)), .unset, .unset, .unset, .unset, .unset] [(.int (2147483647 : Int32)), (.int p5)]))
  refine own_via (fun _ k => XS.iand X0.here hx rfl (hb hby at_13) rfl k) ?_
  show own_Go p e below s _ _ _ (s₁.setTop (mkF m 14 #[.val (.int p0), .val (.int p1), .val (.int p2), .val (.int p3), .val (.int p4), .val (.int p5), .val (.int (Nat.toInt32 sN)), .unset, .unset, .unset, .unset, .unset] [(.int (p5 &&& (2147483647 : Int32)))]))
  refine own_via (fun _ k => XS.iconst X0.here hx rfl (hb hby at_14) k) ?_
  show own_Go p e below s _ _ _ (s₁.setTop (mkF m 15 #[.val (.int p0), .val (.int p1), .val (.int p2), .val (.int p3), .val (.int p4), .val (.int p5), .val (.int (Nat.toInt32 sN)), .unset, .unset, .unset, .unset, .unset] [(.int (5 : Int32)), (.int (p5 &&& (2147483647 : Int32)))]))
  refine own_via (fun _ k => XS.iload X0.here hx rfl (hb hby at_15) rfl k) ?_
  show own_Go p e below s _ _ _ (s₁.setTop (mkF m 17 #[.val (.int p0), .val (.int p1), .val (.int p2), .val (.int p3), .val (.int p4), .val (.int p5), .val (.int (Nat.toInt32 sN)), .unset, .unset, .unset, .unset, .unset] [(.int (Nat.toInt32 sN)), (.int (5 : Int32)), (.int (p5 &&& (2147483647 : Int32)))]))
  refine own_via (fun _ k => XS.isub X0.here hx rfl (hb hby at_17) rfl k) ?_
  show own_Go p e below s _ _ _ (s₁.setTop (mkF m 18 #[.val (.int p0), .val (.int p1), .val (.int p2), .val (.int p3), .val (.int p4), .val (.int p5), .val (.int (Nat.toInt32 sN)), .unset, .unset, .unset, .unset, .unset] [(.int ((5 : Int32) - (Nat.toInt32 sN))), (.int (p5 &&& (2147483647 : Int32)))]))
  have hnz18 := own_nz5 hs
  refine own_via (fun _ k => XS.irem X0.here hx rfl (hb hby at_18) rfl hnz18 k) ?_
  show own_Go p e below s _ _ _ (s₁.setTop (mkF m 19 #[.val (.int p0), .val (.int p1), .val (.int p2), .val (.int p3), .val (.int p4), .val (.int p5), .val (.int (Nat.toInt32 sN)), .unset, .unset, .unset, .unset, .unset] [(.int (o_irem (p5 &&& (2147483647 : Int32)) ((5 : Int32) - (Nat.toInt32 sN))))]))
  refine own_via (fun _ k => XS.istore X0.here hx rfl (hb hby at_19) rfl (l' := #[.val (.int p0), .val (.int p1), .val (.int p2), .val (.int p3), .val (.int p4), .val (.int p5), .val (.int (Nat.toInt32 sN)), .val (.int (o_irem (p5 &&& (2147483647 : Int32)) ((5 : Int32) - (Nat.toInt32 sN)))), .unset, .unset, .unset, .unset]) rfl k) ?_
  show own_Go p e below s _ _ _ (s₁.setTop (mkF m 21 #[.val (.int p0), .val (.int p1), .val (.int p2), .val (.int p3), .val (.int p4), .val (.int p5), .val (.int (Nat.toInt32 sN)), .val (.int (o_irem (p5 &&& (2147483647 : Int32)) ((5 : Int32) - (Nat.toInt32 sN)))), .unset, .unset, .unset, .unset] []))
  generalize hv2 : (o_irem (p5 &&& (2147483647 : Int32)) ((5 : Int32) - (Nat.toInt32 sN))) = v2
  show own_Go p e below s _ _ _ (s₁.setTop (mkF m 21 #[.val (.int p0), .val (.int p1), .val (.int p2), .val (.int p3), .val (.int p4), .val (.int p5), .val (.int (Nat.toInt32 sN)), .val (.int v2), .unset, .unset, .unset, .unset] []))
  obtain ⟨nN, hn, rfl⟩ := own_en p5 hs hv2
  show own_Go p e below s _ _ _ (s₁.setTop (mkF m 21 #[.val (.int p0), .val (.int p1), .val (.int p2), .val (.int p3), .val (.int p4), .val (.int p5), .val (.int (Nat.toInt32 sN)), .val (.int (Nat.toInt32 nN)), .unset, .unset, .unset, .unset] []))
  refine own_via (fun _ k => XS.iconst X0.here hx rfl (hb hby at_21) k) ?_
  show own_Go p e below s _ _ _ (s₁.setTop (mkF m 22 #[.val (.int p0), .val (.int p1), .val (.int p2), .val (.int p3), .val (.int p4), .val (.int p5), .val (.int (Nat.toInt32 sN)), .val (.int (Nat.toInt32 nN)), .unset, .unset, .unset, .unset] [(.int (4 : Int32))]))
  obtain ⟨T3, h3, k3, X3, e3, E3, A3, AE3, st3⟩ := newPE X0 hx hZ (hw _ (List.mem_of_getElem? (i := 1) rfl)) e0 (g := (mkF m 22 #[.val (.int p0), .val (.int p1), .val (.int p2), .val (.int p3), .val (.int p4), .val (.int p5), .val (.int (Nat.toInt32 sN)), .val (.int (Nat.toInt32 nN)), .unset, .unset, .unset, .unset] [(.int (4 : Int32))])) rfl (hb hby at_22) rfl (by decide) (cap := 4) (by decide) (by decide) (by decide) (by decide) (ad := "[I") (by decide)
  obtain ⟨b3, gg3⟩ : ∃ z, z = h0.size := ⟨_, rfl⟩
  rw [← gg3] at A3 AE3 st3
  have g_b3 : n0 ≤ b3 := Nat.le_trans Z0 (Nat.le_of_eq gg3.symm)
  have Z3 : n0 ≤ h3.size := Nat.le_trans Z0 E3.1
  have V3 : Arv Z h3 b3 k3 .int (4 : Int32) [(.int (0 : Int32)), (.int (0 : Int32)), (.int (0 : Int32)), (.int (0 : Int32))] (.int (0 : Int32)) := (Arv.new A3 (by decide)).pad (pad_rep [] (.int (0 : Int32)) 4)
  refine own_via st3 ?_
  show own_Go p e below s _ _ _ (T3.setTop (mkF m 24 #[.val (.int p0), .val (.int p1), .val (.int p2), .val (.int p3), .val (.int p4), .val (.int p5), .val (.int (Nat.toInt32 sN)), .val (.int (Nat.toInt32 nN)), .unset, .unset, .unset, .unset] [(.ref b3)]))
  refine own_via (fun _ k => XS.dup X3.here hx rfl (hb hby at_24) rfl rfl k) ?_
  show own_Go p e below s _ _ _ (T3.setTop (mkF m 25 #[.val (.int p0), .val (.int p1), .val (.int p2), .val (.int p3), .val (.int p4), .val (.int p5), .val (.int (Nat.toInt32 sN)), .val (.int (Nat.toInt32 nN)), .unset, .unset, .unset, .unset] [(.ref b3), (.ref b3)]))
  refine own_via (fun _ k => XS.iconst X3.here hx rfl (hb hby at_25) k) ?_
  show own_Go p e below s _ _ _ (T3.setTop (mkF m 26 #[.val (.int p0), .val (.int p1), .val (.int p2), .val (.int p3), .val (.int p4), .val (.int p5), .val (.int (Nat.toInt32 sN)), .val (.int (Nat.toInt32 nN)), .unset, .unset, .unset, .unset] [(.int (0 : Int32)), (.ref b3), (.ref b3)]))
  refine own_via (fun _ k => XS.iloadN X3.here hx rfl (hb hby at_26) rfl k) ?_
  show own_Go p e below s _ _ _ (T3.setTop (mkF m 27 #[.val (.int p0), .val (.int p1), .val (.int p2), .val (.int p3), .val (.int p4), .val (.int p5), .val (.int (Nat.toInt32 sN)), .val (.int (Nat.toInt32 nN)), .unset, .unset, .unset, .unset] [(.int p0), (.int (0 : Int32)), (.ref b3), (.ref b3)]))
  obtain ⟨cl4, Ar4, q4, S4, M4, H4, G4⟩ := (id V3)
  have hin4 : ¬ ((0 : Int32) < 0 ∨ cl4.slots.size ≤ ((0 : Int32)).toNatClampNeg) := inb_of S4 ⟨by decide, by decide⟩
  obtain ⟨T4, h4, X4, e4, W4, st4⟩ := stI X3 hx hZ e3 Ar4 (j := (0 : Int32)) hin4 (g := (mkF m 27 #[.val (.int p0), .val (.int p1), .val (.int p2), .val (.int p3), .val (.int p4), .val (.int p5), .val (.int (Nat.toInt32 sN)), .val (.int (Nat.toInt32 nN)), .unset, .unset, .unset, .unset] [(.int p0), (.int (0 : Int32)), (.ref b3), (.ref b3)])) rfl rfl (hb hby at_27)
  have V4 : Arv Z h4 b3 k3 .int (4 : Int32) [(.int p0), (.int (0 : Int32)), (.int (0 : Int32)), (.int (0 : Int32))] (.int (0 : Int32)) := Arv.set Ar4 q4 S4 M4 H4 G4 rfl W4 0 rfl (Nat.le_of_ble_eq_true rfl)
  have N4 := Fr.snoc X4 N0 g_b3
  have Z4 : n0 ≤ h4.size := Nat.le_trans Z3 (Keep.of_wr W4).1
  refine own_via st4 ?_
  show own_Go p e below s _ _ _ (T4.setTop (mkF m 28 #[.val (.int p0), .val (.int p1), .val (.int p2), .val (.int p3), .val (.int p4), .val (.int p5), .val (.int (Nat.toInt32 sN)), .val (.int (Nat.toInt32 nN)), .unset, .unset, .unset, .unset] [(.ref b3)]))
  refine own_via (fun _ k => XS.dup X4.here hx rfl (hb hby at_28) rfl rfl k) ?_
  show own_Go p e below s _ _ _ (T4.setTop (mkF m 29 #[.val (.int p0), .val (.int p1), .val (.int p2), .val (.int p3), .val (.int p4), .val (.int p5), .val (.int (Nat.toInt32 sN)), .val (.int (Nat.toInt32 nN)), .unset, .unset, .unset, .unset] [(.ref b3), (.ref b3)]))
  refine own_via (fun _ k => XS.iconst X4.here hx rfl (hb hby at_29) k) ?_
  show own_Go p e below s _ _ _ (T4.setTop (mkF m 30 #[.val (.int p0), .val (.int p1), .val (.int p2), .val (.int p3), .val (.int p4), .val (.int p5), .val (.int (Nat.toInt32 sN)), .val (.int (Nat.toInt32 nN)), .unset, .unset, .unset, .unset] [(.int (1 : Int32)), (.ref b3), (.ref b3)]))
  refine own_via (fun _ k => XS.iloadN X4.here hx rfl (hb hby at_30) rfl k) ?_
  show own_Go p e below s _ _ _ (T4.setTop (mkF m 31 #[.val (.int p0), .val (.int p1), .val (.int p2), .val (.int p3), .val (.int p4), .val (.int p5), .val (.int (Nat.toInt32 sN)), .val (.int (Nat.toInt32 nN)), .unset, .unset, .unset, .unset] [(.int p1), (.int (1 : Int32)), (.ref b3), (.ref b3)]))
  obtain ⟨cl5, Ar5, q5, S5, M5, H5, G5⟩ := (id V4)
  have hin5 : ¬ ((1 : Int32) < 0 ∨ cl5.slots.size ≤ ((1 : Int32)).toNatClampNeg) := inb_of S5 ⟨by decide, by decide⟩
  obtain ⟨T5, h5, X5, e5, W5, st5⟩ := stI X4 hx hZ e4 Ar5 (j := (1 : Int32)) hin5 (g := (mkF m 31 #[.val (.int p0), .val (.int p1), .val (.int p2), .val (.int p3), .val (.int p4), .val (.int p5), .val (.int (Nat.toInt32 sN)), .val (.int (Nat.toInt32 nN)), .unset, .unset, .unset, .unset] [(.int p1), (.int (1 : Int32)), (.ref b3), (.ref b3)])) rfl rfl (hb hby at_31)
  have V5 : Arv Z h5 b3 k3 .int (4 : Int32) [(.int p0), (.int p1), (.int (0 : Int32)), (.int (0 : Int32))] (.int (0 : Int32)) := Arv.set Ar5 q5 S5 M5 H5 G5 rfl W5 1 rfl (Nat.le_of_ble_eq_true rfl)
  have N5 := Fr.snoc X5 N4 g_b3
  have Z5 : n0 ≤ h5.size := Nat.le_trans Z4 (Keep.of_wr W5).1
  refine own_via st5 ?_
  show own_Go p e below s _ _ _ (T5.setTop (mkF m 32 #[.val (.int p0), .val (.int p1), .val (.int p2), .val (.int p3), .val (.int p4), .val (.int p5), .val (.int (Nat.toInt32 sN)), .val (.int (Nat.toInt32 nN)), .unset, .unset, .unset, .unset] [(.ref b3)]))
  refine own_via (fun _ k => XS.dup X5.here hx rfl (hb hby at_32) rfl rfl k) ?_
  show own_Go p e below s _ _ _ (T5.setTop (mkF m 33 #[.val (.int p0), .val (.int p1), .val (.int p2), .val (.int p3), .val (.int p4), .val (.int p5), .val (.int (Nat.toInt32 sN)), .val (.int (Nat.toInt32 nN)), .unset, .unset, .unset, .unset] [(.ref b3), (.ref b3)]))
  refine own_via (fun _ k => XS.iconst X5.here hx rfl (hb hby at_33) k) ?_
  show own_Go p e below s _ _ _ (T5.setTop (mkF m 34 #[.val (.int p0), .val (.int p1), .val (.int p2), .val (.int p3), .val (.int p4), .val (.int p5), .val (.int (Nat.toInt32 sN)), .val (.int (Nat.toInt32 nN)), .unset, .unset, .unset, .unset] [(.int (2 : Int32)), (.ref b3), (.ref b3)]))
  refine own_via (fun _ k => XS.iloadN X5.here hx rfl (hb hby at_34) rfl k) ?_
  show own_Go p e below s _ _ _ (T5.setTop (mkF m 35 #[.val (.int p0), .val (.int p1), .val (.int p2), .val (.int p3), .val (.int p4), .val (.int p5), .val (.int (Nat.toInt32 sN)), .val (.int (Nat.toInt32 nN)), .unset, .unset, .unset, .unset] [(.int p2), (.int (2 : Int32)), (.ref b3), (.ref b3)]))
  obtain ⟨cl6, Ar6, q6, S6, M6, H6, G6⟩ := (id V5)
  have hin6 : ¬ ((2 : Int32) < 0 ∨ cl6.slots.size ≤ ((2 : Int32)).toNatClampNeg) := inb_of S6 ⟨by decide, by decide⟩
  obtain ⟨T6, h6, X6, e6, W6, st6⟩ := stI X5 hx hZ e5 Ar6 (j := (2 : Int32)) hin6 (g := (mkF m 35 #[.val (.int p0), .val (.int p1), .val (.int p2), .val (.int p3), .val (.int p4), .val (.int p5), .val (.int (Nat.toInt32 sN)), .val (.int (Nat.toInt32 nN)), .unset, .unset, .unset, .unset] [(.int p2), (.int (2 : Int32)), (.ref b3), (.ref b3)])) rfl rfl (hb hby at_35)
  have V6 : Arv Z h6 b3 k3 .int (4 : Int32) [(.int p0), (.int p1), (.int p2), (.int (0 : Int32))] (.int (0 : Int32)) := Arv.set Ar6 q6 S6 M6 H6 G6 rfl W6 2 rfl (Nat.le_of_ble_eq_true rfl)
  have N6 := Fr.snoc X6 N5 g_b3
  have Z6 : n0 ≤ h6.size := Nat.le_trans Z5 (Keep.of_wr W6).1
  refine own_via st6 ?_
  show own_Go p e below s _ _ _ (T6.setTop (mkF m 36 #[.val (.int p0), .val (.int p1), .val (.int p2), .val (.int p3), .val (.int p4), .val (.int p5), .val (.int (Nat.toInt32 sN)), .val (.int (Nat.toInt32 nN)), .unset, .unset, .unset, .unset] [(.ref b3)]))
  refine own_via (fun _ k => XS.dup X6.here hx rfl (hb hby at_36) rfl rfl k) ?_
  show own_Go p e below s _ _ _ (T6.setTop (mkF m 37 #[.val (.int p0), .val (.int p1), .val (.int p2), .val (.int p3), .val (.int p4), .val (.int p5), .val (.int (Nat.toInt32 sN)), .val (.int (Nat.toInt32 nN)), .unset, .unset, .unset, .unset] [(.ref b3), (.ref b3)]))
  refine own_via (fun _ k => XS.iconst X6.here hx rfl (hb hby at_37) k) ?_
  show own_Go p e below s _ _ _ (T6.setTop (mkF m 38 #[.val (.int p0), .val (.int p1), .val (.int p2), .val (.int p3), .val (.int p4), .val (.int p5), .val (.int (Nat.toInt32 sN)), .val (.int (Nat.toInt32 nN)), .unset, .unset, .unset, .unset] [(.int (3 : Int32)), (.ref b3), (.ref b3)]))
  refine own_via (fun _ k => XS.iloadN X6.here hx rfl (hb hby at_38) rfl k) ?_
  show own_Go p e below s _ _ _ (T6.setTop (mkF m 39 #[.val (.int p0), .val (.int p1), .val (.int p2), .val (.int p3), .val (.int p4), .val (.int p5), .val (.int (Nat.toInt32 sN)), .val (.int (Nat.toInt32 nN)), .unset, .unset, .unset, .unset] [(.int p3), (.int (3 : Int32)), (.ref b3), (.ref b3)]))
  obtain ⟨cl7, Ar7, q7, S7, M7, H7, G7⟩ := (id V6)
  have hin7 : ¬ ((3 : Int32) < 0 ∨ cl7.slots.size ≤ ((3 : Int32)).toNatClampNeg) := inb_of S7 ⟨by decide, by decide⟩
  obtain ⟨T7, h7, X7, e7, W7, st7⟩ := stI X6 hx hZ e6 Ar7 (j := (3 : Int32)) hin7 (g := (mkF m 39 #[.val (.int p0), .val (.int p1), .val (.int p2), .val (.int p3), .val (.int p4), .val (.int p5), .val (.int (Nat.toInt32 sN)), .val (.int (Nat.toInt32 nN)), .unset, .unset, .unset, .unset] [(.int p3), (.int (3 : Int32)), (.ref b3), (.ref b3)])) rfl rfl (hb hby at_39)
  have V7 : Arv Z h7 b3 k3 .int (4 : Int32) [(.int p0), (.int p1), (.int p2), (.int p3)] (.int (0 : Int32)) := Arv.set Ar7 q7 S7 M7 H7 G7 rfl W7 3 rfl (Nat.le_of_ble_eq_true rfl)
  have N7 := Fr.snoc X7 N6 g_b3
  have Z7 : n0 ≤ h7.size := Nat.le_trans Z6 (Keep.of_wr W7).1
  refine own_via st7 ?_
  show own_Go p e below s _ _ _ (T7.setTop (mkF m 40 #[.val (.int p0), .val (.int p1), .val (.int p2), .val (.int p3), .val (.int p4), .val (.int p5), .val (.int (Nat.toInt32 sN)), .val (.int (Nat.toInt32 nN)), .unset, .unset, .unset, .unset] [(.ref b3)]))
  refine own_via (fun _ k => XS.astore X7.here hx rfl (hb hby at_40) rfl rfl (l' := #[.val (.int p0), .val (.int p1), .val (.int p2), .val (.int p3), .val (.int p4), .val (.int p5), .val (.int (Nat.toInt32 sN)), .val (.int (Nat.toInt32 nN)), .val (.ref b3), .unset, .unset, .unset]) rfl k) ?_
  show own_Go p e below s _ _ _ (T7.setTop (mkF m 42 #[.val (.int p0), .val (.int p1), .val (.int p2), .val (.int p3), .val (.int p4), .val (.int p5), .val (.int (Nat.toInt32 sN)), .val (.int (Nat.toInt32 nN)), .val (.ref b3), .unset, .unset, .unset] []))
  refine own_via (fun _ k => XS.iconst X7.here hx rfl (hb hby at_42) k) ?_
  show own_Go p e below s _ _ _ (T7.setTop (mkF m 43 #[.val (.int p0), .val (.int p1), .val (.int p2), .val (.int p3), .val (.int p4), .val (.int p5), .val (.int (Nat.toInt32 sN)), .val (.int (Nat.toInt32 nN)), .val (.ref b3), .unset, .unset, .unset] [(.int (4 : Int32))]))
  obtain ⟨T8, h8, k8, X8, e8, E8, A8, AE8, st8⟩ := newPE X7 hx hZ (hw _ (List.mem_of_getElem? (i := 1) rfl)) e7 (g := (mkF m 43 #[.val (.int p0), .val (.int p1), .val (.int p2), .val (.int p3), .val (.int p4), .val (.int p5), .val (.int (Nat.toInt32 sN)), .val (.int (Nat.toInt32 nN)), .val (.ref b3), .unset, .unset, .unset] [(.int (4 : Int32))])) rfl (hb hby at_43) rfl (by decide) (cap := 4) (by decide) (by decide) (by decide) (by decide) (ad := "[I") (by decide)
  obtain ⟨b8, gg8⟩ : ∃ z, z = h7.size := ⟨_, rfl⟩
  rw [← gg8] at A8 AE8 st8
  have ne_b3_b8 : b3 ≠ b8 := Nat.ne_of_lt (Nat.lt_of_lt_of_le ((((AE3.wr W4).wr W5).wr W6).wr W7).lt (Nat.le_of_eq gg8.symm))
  have g_b8 : n0 ≤ b8 := Nat.le_trans Z7 (Nat.le_of_eq gg8.symm)
  have Z8 : n0 ≤ h8.size := Nat.le_trans Z7 E8.1
  have V8 : Arv Z h8 b8 k8 .int (4 : Int32) [(.int (0 : Int32)), (.int (0 : Int32)), (.int (0 : Int32)), (.int (0 : Int32))] (.int (0 : Int32)) := (Arv.new A8 (by decide)).pad (pad_rep [] (.int (0 : Int32)) 4)
  refine own_via st8 ?_
  show own_Go p e below s _ _ _ (T8.setTop (mkF m 45 #[.val (.int p0), .val (.int p1), .val (.int p2), .val (.int p3), .val (.int p4), .val (.int p5), .val (.int (Nat.toInt32 sN)), .val (.int (Nat.toInt32 nN)), .val (.ref b3), .unset, .unset, .unset] [(.ref b8)]))
  refine own_via (fun _ k => XS.dup X8.here hx rfl (hb hby at_45) rfl rfl k) ?_
  show own_Go p e below s _ _ _ (T8.setTop (mkF m 46 #[.val (.int p0), .val (.int p1), .val (.int p2), .val (.int p3), .val (.int p4), .val (.int p5), .val (.int (Nat.toInt32 sN)), .val (.int (Nat.toInt32 nN)), .val (.ref b3), .unset, .unset, .unset] [(.ref b8), (.ref b8)]))
  refine own_via (fun _ k => XS.iconst X8.here hx rfl (hb hby at_46) k) ?_
  show own_Go p e below s _ _ _ (T8.setTop (mkF m 47 #[.val (.int p0), .val (.int p1), .val (.int p2), .val (.int p3), .val (.int p4), .val (.int p5), .val (.int (Nat.toInt32 sN)), .val (.int (Nat.toInt32 nN)), .val (.ref b3), .unset, .unset, .unset] [(.int (0 : Int32)), (.ref b8), (.ref b8)]))
  refine own_via (fun _ k => XS.iloadN X8.here hx rfl (hb hby at_47) rfl k) ?_
  show own_Go p e below s _ _ _ (T8.setTop (mkF m 48 #[.val (.int p0), .val (.int p1), .val (.int p2), .val (.int p3), .val (.int p4), .val (.int p5), .val (.int (Nat.toInt32 sN)), .val (.int (Nat.toInt32 nN)), .val (.ref b3), .unset, .unset, .unset] [(.int p0), (.int (0 : Int32)), (.ref b8), (.ref b8)]))
  obtain ⟨cl9, Ar9, q9, S9, M9, H9, G9⟩ := (id V8)
  have hin9 : ¬ ((0 : Int32) < 0 ∨ cl9.slots.size ≤ ((0 : Int32)).toNatClampNeg) := inb_of S9 ⟨by decide, by decide⟩
  obtain ⟨T9, h9, X9, e9, W9, st9⟩ := stI X8 hx hZ e8 Ar9 (j := (0 : Int32)) hin9 (g := (mkF m 48 #[.val (.int p0), .val (.int p1), .val (.int p2), .val (.int p3), .val (.int p4), .val (.int p5), .val (.int (Nat.toInt32 sN)), .val (.int (Nat.toInt32 nN)), .val (.ref b3), .unset, .unset, .unset] [(.int p0), (.int (0 : Int32)), (.ref b8), (.ref b8)])) rfl rfl (hb hby at_48)
  have V9 : Arv Z h9 b8 k8 .int (4 : Int32) [(.int p0), (.int (0 : Int32)), (.int (0 : Int32)), (.int (0 : Int32))] (.int (0 : Int32)) := Arv.set Ar9 q9 S9 M9 H9 G9 rfl W9 0 rfl (Nat.le_of_ble_eq_true rfl)
  have N9 := Fr.snoc X9 N7 g_b8
  have Z9 : n0 ≤ h9.size := Nat.le_trans Z8 (Keep.of_wr W9).1
  refine own_via st9 ?_
  show own_Go p e below s _ _ _ (T9.setTop (mkF m 49 #[.val (.int p0), .val (.int p1), .val (.int p2), .val (.int p3), .val (.int p4), .val (.int p5), .val (.int (Nat.toInt32 sN)), .val (.int (Nat.toInt32 nN)), .val (.ref b3), .unset, .unset, .unset] [(.ref b8)]))
  refine own_via (fun _ k => XS.dup X9.here hx rfl (hb hby at_49) rfl rfl k) ?_
  show own_Go p e below s _ _ _ (T9.setTop (mkF m 50 #[.val (.int p0), .val (.int p1), .val (.int p2), .val (.int p3), .val (.int p4), .val (.int p5), .val (.int (Nat.toInt32 sN)), .val (.int (Nat.toInt32 nN)), .val (.ref b3), .unset, .unset, .unset] [(.ref b8), (.ref b8)]))
  refine own_via (fun _ k => XS.iconst X9.here hx rfl (hb hby at_50) k) ?_
  show own_Go p e below s _ _ _ (T9.setTop (mkF m 51 #[.val (.int p0), .val (.int p1), .val (.int p2), .val (.int p3), .val (.int p4), .val (.int p5), .val (.int (Nat.toInt32 sN)), .val (.int (Nat.toInt32 nN)), .val (.ref b3), .unset, .unset, .unset] [(.int (1 : Int32)), (.ref b8), (.ref b8)]))
  refine own_via (fun _ k => XS.iloadN X9.here hx rfl (hb hby at_51) rfl k) ?_
  show own_Go p e below s _ _ _ (T9.setTop (mkF m 52 #[.val (.int p0), .val (.int p1), .val (.int p2), .val (.int p3), .val (.int p4), .val (.int p5), .val (.int (Nat.toInt32 sN)), .val (.int (Nat.toInt32 nN)), .val (.ref b3), .unset, .unset, .unset] [(.int p1), (.int (1 : Int32)), (.ref b8), (.ref b8)]))
  obtain ⟨cl10, Ar10, q10, S10, M10, H10, G10⟩ := (id V9)
  have hin10 : ¬ ((1 : Int32) < 0 ∨ cl10.slots.size ≤ ((1 : Int32)).toNatClampNeg) := inb_of S10 ⟨by decide, by decide⟩
  obtain ⟨T10, h10, X10, e10, W10, st10⟩ := stI X9 hx hZ e9 Ar10 (j := (1 : Int32)) hin10 (g := (mkF m 52 #[.val (.int p0), .val (.int p1), .val (.int p2), .val (.int p3), .val (.int p4), .val (.int p5), .val (.int (Nat.toInt32 sN)), .val (.int (Nat.toInt32 nN)), .val (.ref b3), .unset, .unset, .unset] [(.int p1), (.int (1 : Int32)), (.ref b8), (.ref b8)])) rfl rfl (hb hby at_52)
  have V10 : Arv Z h10 b8 k8 .int (4 : Int32) [(.int p0), (.int p1), (.int (0 : Int32)), (.int (0 : Int32))] (.int (0 : Int32)) := Arv.set Ar10 q10 S10 M10 H10 G10 rfl W10 1 rfl (Nat.le_of_ble_eq_true rfl)
  have N10 := Fr.snoc X10 N9 g_b8
  have Z10 : n0 ≤ h10.size := Nat.le_trans Z9 (Keep.of_wr W10).1
  refine own_via st10 ?_
  show own_Go p e below s _ _ _ (T10.setTop (mkF m 53 #[.val (.int p0), .val (.int p1), .val (.int p2), .val (.int p3), .val (.int p4), .val (.int p5), .val (.int (Nat.toInt32 sN)), .val (.int (Nat.toInt32 nN)), .val (.ref b3), .unset, .unset, .unset] [(.ref b8)]))
  refine own_via (fun _ k => XS.dup X10.here hx rfl (hb hby at_53) rfl rfl k) ?_
  show own_Go p e below s _ _ _ (T10.setTop (mkF m 54 #[.val (.int p0), .val (.int p1), .val (.int p2), .val (.int p3), .val (.int p4), .val (.int p5), .val (.int (Nat.toInt32 sN)), .val (.int (Nat.toInt32 nN)), .val (.ref b3), .unset, .unset, .unset] [(.ref b8), (.ref b8)]))
  refine own_via (fun _ k => XS.iconst X10.here hx rfl (hb hby at_54) k) ?_
  show own_Go p e below s _ _ _ (T10.setTop (mkF m 55 #[.val (.int p0), .val (.int p1), .val (.int p2), .val (.int p3), .val (.int p4), .val (.int p5), .val (.int (Nat.toInt32 sN)), .val (.int (Nat.toInt32 nN)), .val (.ref b3), .unset, .unset, .unset] [(.int (2 : Int32)), (.ref b8), (.ref b8)]))
  refine own_via (fun _ k => XS.iloadN X10.here hx rfl (hb hby at_55) rfl k) ?_
  show own_Go p e below s _ _ _ (T10.setTop (mkF m 56 #[.val (.int p0), .val (.int p1), .val (.int p2), .val (.int p3), .val (.int p4), .val (.int p5), .val (.int (Nat.toInt32 sN)), .val (.int (Nat.toInt32 nN)), .val (.ref b3), .unset, .unset, .unset] [(.int p2), (.int (2 : Int32)), (.ref b8), (.ref b8)]))
  obtain ⟨cl11, Ar11, q11, S11, M11, H11, G11⟩ := (id V10)
  have hin11 : ¬ ((2 : Int32) < 0 ∨ cl11.slots.size ≤ ((2 : Int32)).toNatClampNeg) := inb_of S11 ⟨by decide, by decide⟩
  obtain ⟨T11, h11, X11, e11, W11, st11⟩ := stI X10 hx hZ e10 Ar11 (j := (2 : Int32)) hin11 (g := (mkF m 56 #[.val (.int p0), .val (.int p1), .val (.int p2), .val (.int p3), .val (.int p4), .val (.int p5), .val (.int (Nat.toInt32 sN)), .val (.int (Nat.toInt32 nN)), .val (.ref b3), .unset, .unset, .unset] [(.int p2), (.int (2 : Int32)), (.ref b8), (.ref b8)])) rfl rfl (hb hby at_56)
  have V11 : Arv Z h11 b8 k8 .int (4 : Int32) [(.int p0), (.int p1), (.int p2), (.int (0 : Int32))] (.int (0 : Int32)) := Arv.set Ar11 q11 S11 M11 H11 G11 rfl W11 2 rfl (Nat.le_of_ble_eq_true rfl)
  have N11 := Fr.snoc X11 N10 g_b8
  have Z11 : n0 ≤ h11.size := Nat.le_trans Z10 (Keep.of_wr W11).1
  refine own_via st11 ?_
  show own_Go p e below s _ _ _ (T11.setTop (mkF m 57 #[.val (.int p0), .val (.int p1), .val (.int p2), .val (.int p3), .val (.int p4), .val (.int p5), .val (.int (Nat.toInt32 sN)), .val (.int (Nat.toInt32 nN)), .val (.ref b3), .unset, .unset, .unset] [(.ref b8)]))
  refine own_via (fun _ k => XS.dup X11.here hx rfl (hb hby at_57) rfl rfl k) ?_
  show own_Go p e below s _ _ _ (T11.setTop (mkF m 58 #[.val (.int p0), .val (.int p1), .val (.int p2), .val (.int p3), .val (.int p4), .val (.int p5), .val (.int (Nat.toInt32 sN)), .val (.int (Nat.toInt32 nN)), .val (.ref b3), .unset, .unset, .unset] [(.ref b8), (.ref b8)]))
  refine own_via (fun _ k => XS.iconst X11.here hx rfl (hb hby at_58) k) ?_
  show own_Go p e below s _ _ _ (T11.setTop (mkF m 59 #[.val (.int p0), .val (.int p1), .val (.int p2), .val (.int p3), .val (.int p4), .val (.int p5), .val (.int (Nat.toInt32 sN)), .val (.int (Nat.toInt32 nN)), .val (.ref b3), .unset, .unset, .unset] [(.int (3 : Int32)), (.ref b8), (.ref b8)]))
  refine own_via (fun _ k => XS.iloadN X11.here hx rfl (hb hby at_59) rfl k) ?_
  show own_Go p e below s _ _ _ (T11.setTop (mkF m 60 #[.val (.int p0), .val (.int p1), .val (.int p2), .val (.int p3), .val (.int p4), .val (.int p5), .val (.int (Nat.toInt32 sN)), .val (.int (Nat.toInt32 nN)), .val (.ref b3), .unset, .unset, .unset] [(.int p3), (.int (3 : Int32)), (.ref b8), (.ref b8)]))
  obtain ⟨cl12, Ar12, q12, S12, M12, H12, G12⟩ := (id V11)
  have hin12 : ¬ ((3 : Int32) < 0 ∨ cl12.slots.size ≤ ((3 : Int32)).toNatClampNeg) := inb_of S12 ⟨by decide, by decide⟩
  obtain ⟨T12, h12, X12, e12, W12, st12⟩ := stI X11 hx hZ e11 Ar12 (j := (3 : Int32)) hin12 (g := (mkF m 60 #[.val (.int p0), .val (.int p1), .val (.int p2), .val (.int p3), .val (.int p4), .val (.int p5), .val (.int (Nat.toInt32 sN)), .val (.int (Nat.toInt32 nN)), .val (.ref b3), .unset, .unset, .unset] [(.int p3), (.int (3 : Int32)), (.ref b8), (.ref b8)])) rfl rfl (hb hby at_60)
  have V12 : Arv Z h12 b8 k8 .int (4 : Int32) [(.int p0), (.int p1), (.int p2), (.int p3)] (.int (0 : Int32)) := Arv.set Ar12 q12 S12 M12 H12 G12 rfl W12 3 rfl (Nat.le_of_ble_eq_true rfl)
  have N12 := Fr.snoc X12 N11 g_b8
  have Z12 : n0 ≤ h12.size := Nat.le_trans Z11 (Keep.of_wr W12).1
  refine own_via st12 ?_
  show own_Go p e below s _ _ _ (T12.setTop (mkF m 61 #[.val (.int p0), .val (.int p1), .val (.int p2), .val (.int p3), .val (.int p4), .val (.int p5), .val (.int (Nat.toInt32 sN)), .val (.int (Nat.toInt32 nN)), .val (.ref b3), .unset, .unset, .unset] [(.ref b8)]))
  refine own_via (fun _ k => XS.astore X12.here hx rfl (hb hby at_61) rfl rfl (l' := #[.val (.int p0), .val (.int p1), .val (.int p2), .val (.int p3), .val (.int p4), .val (.int p5), .val (.int (Nat.toInt32 sN)), .val (.int (Nat.toInt32 nN)), .val (.ref b3), .val (.ref b8), .unset, .unset]) rfl k) ?_
  show own_Go p e below s _ _ _ (T12.setTop (mkF m 63 #[.val (.int p0), .val (.int p1), .val (.int p2), .val (.int p3), .val (.int p4), .val (.int p5), .val (.int (Nat.toInt32 sN)), .val (.int (Nat.toInt32 nN)), .val (.ref b3), .val (.ref b8), .unset, .unset] []))
  refine own_via (fun _ k => XS.aload X12.here hx rfl (hb hby at_63) rfl rfl k) ?_
  show own_Go p e below s _ _ _ (T12.setTop (mkF m 65 #[.val (.int p0), .val (.int p1), .val (.int p2), .val (.int p3), .val (.int p4), .val (.int p5), .val (.int (Nat.toInt32 sN)), .val (.int (Nat.toInt32 nN)), .val (.ref b3), .val (.ref b8), .unset, .unset] [(.ref b8)]))
  refine own_via (fun _ k => XS.iload X12.here hx rfl (hb hby at_65) rfl k) ?_
  show own_Go p e below s _ _ _ (T12.setTop (mkF m 67 #[.val (.int p0), .val (.int p1), .val (.int p2), .val (.int p3), .val (.int p4), .val (.int p5), .val (.int (Nat.toInt32 sN)), .val (.int (Nat.toInt32 nN)), .val (.ref b3), .val (.ref b8), .unset, .unset] [(.int (Nat.toInt32 sN)), (.ref b8)]))
  refine own_via (fun _ k => XS.iload X12.here hx rfl (hb hby at_67) rfl k) ?_
  show own_Go p e below s _ _ _ (T12.setTop (mkF m 69 #[.val (.int p0), .val (.int p1), .val (.int p2), .val (.int p3), .val (.int p4), .val (.int p5), .val (.int (Nat.toInt32 sN)), .val (.int (Nat.toInt32 nN)), .val (.ref b3), .val (.ref b8), .unset, .unset] [(.int (Nat.toInt32 nN)), (.int (Nat.toInt32 sN)), (.ref b8)]))
  have F14 := ((((AE8.wr W9).wr W10).wr W11).wr W12)
  obtain ⟨_, _, ⟨T13, L13, k13, n13⟩, -, X13, ⟨Lc13, hQ13, l13, y13, z13⟩, st13⟩ := Jvm.LawKit.callS X12 hx (y := (⟨"com/example/erstwhile_terms/erstwhileterms/variants/Run", "of", "([III)Lcom/example/erstwhile_terms/erstwhileterms/variants/Run;"⟩ : MethodName)) hown (mvT hZ (hw _ (List.mem_of_getElem? (i := 2) rfl))) (mvT hZ (hw _ (List.mem_of_getElem? (i := 3) rfl))) (mvT hZ (hw _ (List.mem_of_getElem? (i := 4) rfl))) (mvT hZ (hw _ (List.mem_of_getElem? (i := 5) rfl))) (by decide) (backOf (W := 0) (rm1 l Z a0 hw [] b8 (Nat.toInt32 sN) (Nat.toInt32 nN) k8 [p0, p1, p2, p3] sN nN h12 n0 Z12 V12 rfl rfl hn rfl F14) hZ (hw _ (List.mem_of_getElem? (i := 5) rfl)) (hw _ (List.mem_of_getElem? (i := 4) rfl)) (by decide) (by decide)) (g := (mkF m 69 #[.val (.int p0), .val (.int p1), .val (.int p2), .val (.int p3), .val (.int p4), .val (.int p5), .val (.int (Nat.toInt32 sN)), .val (.int (Nat.toInt32 nN)), .val (.ref b3), .val (.ref b8), .unset, .unset] [(.int (Nat.toInt32 nN)), (.int (Nat.toInt32 sN)), (.ref b8)])) rfl (by rw [hml]; rfl) (argsL := [(.ref b8), (.int (Nat.toInt32 sN)), (.int (Nat.toInt32 nN))]) (rest := []) (lenOf pd_5 rfl) rfl (by show 2 * 0 + _ ≤ _; exact Nat.le_of_eq rfl) (hb hby at_69) (fun _ _ => ⟨rfl, e12, (by decide : 2 + 2 ≤ _), (by decide : 8 + 5 ≤ _)⟩)
  dsimp only [Pt.U, Pt.locs, Pt.cells, Pt.slots] at X13 l13 y13 z13 st13 hQ13
  subst l13 y13 z13
  obtain ⟨h13, e13⟩ : ∃ h, T13.heap = h := ⟨_, rfl⟩
  rw [e13] at hQ13
  obtain ⟨r_13, c_13, kc_13, rfl, N13q, Kq13, F15, F16, F17, F18, F19, F20⟩ := hQ13
  have ne_b3_r_13 : b3 ≠ r_13 := Nat.ne_of_lt (Nat.lt_of_lt_of_le (((((((((AE3.wr W4).wr W5).wr W6).wr W7).ext E8).wr W9).wr W10).wr W11).wr W12).lt F15)
  have ne_b8_r_13 : b8 ≠ r_13 := Nat.ne_of_lt (Nat.lt_of_lt_of_le F14.lt F15)
  have g_r_13 : n0 ≤ r_13 := Nat.le_trans Z12 F15
  have ne_b3_c_13 : b3 ≠ c_13 := Nat.ne_of_lt (Nat.lt_of_lt_of_le (((((((((AE3.wr W4).wr W5).wr W6).wr W7).ext E8).wr W9).wr W10).wr W11).wr W12).lt F16)
  have ne_b8_c_13 : b8 ≠ c_13 := Nat.ne_of_lt (Nat.lt_of_lt_of_le F14.lt F16)
  have g_c_13 : n0 ≤ c_13 := Nat.le_trans Z12 F16
  have Z13 : n0 ≤ h13.size := Nat.le_trans Z12 Kq13.1
  have N13 := Fr.app N12 N13q
  refine own_via st13 ?_
  show own_Go p e below s _ _ _ (T13.setTop (mkF m 72 #[.val (.int p0), .val (.int p1), .val (.int p2), .val (.int p3), .val (.int p4), .val (.int p5), .val (.int (Nat.toInt32 sN)), .val (.int (Nat.toInt32 nN)), .val (.ref b3), .val (.ref b8), .unset, .unset] [(.ref r_13)]))
  refine own_via (fun _ k => XS.astore X13.here hx rfl (hb hby at_72) rfl rfl (l' := #[.val (.int p0), .val (.int p1), .val (.int p2), .val (.int p3), .val (.int p4), .val (.int p5), .val (.int (Nat.toInt32 sN)), .val (.int (Nat.toInt32 nN)), .val (.ref b3), .val (.ref b8), .val (.ref r_13), .unset]) rfl k) ?_
  show own_Go p e below s _ _ _ (T13.setTop (mkF m 74 #[.val (.int p0), .val (.int p1), .val (.int p2), .val (.int p3), .val (.int p4), .val (.int p5), .val (.int (Nat.toInt32 sN)), .val (.int (Nat.toInt32 nN)), .val (.ref b3), .val (.ref b8), .val (.ref r_13), .unset] []))
  refine own_via (fun _ k => XS.aload X13.here hx rfl (hb hby at_74) rfl rfl k) ?_
  show own_Go p e below s _ _ _ (T13.setTop (mkF m 76 #[.val (.int p0), .val (.int p1), .val (.int p2), .val (.int p3), .val (.int p4), .val (.int p5), .val (.int (Nat.toInt32 sN)), .val (.int (Nat.toInt32 nN)), .val (.ref b3), .val (.ref b8), .val (.ref r_13), .unset] [(.ref b8)]))
  refine own_via (fun _ k => XS.iconst X13.here hx rfl (hb hby at_76) k) ?_
  show own_Go p e below s _ _ _ (T13.setTop (mkF m 77 #[.val (.int p0), .val (.int p1), .val (.int p2), .val (.int p3), .val (.int p4), .val (.int p5), .val (.int (Nat.toInt32 sN)), .val (.int (Nat.toInt32 nN)), .val (.ref b3), .val (.ref b8), .val (.ref r_13), .unset] [(.int (0 : Int32)), (.ref b8)]))
  refine own_via (fun _ k => XS.iloadN X13.here hx rfl (hb hby at_77) rfl k) ?_
  show own_Go p e below s _ _ _ (T13.setTop (mkF m 78 #[.val (.int p0), .val (.int p1), .val (.int p2), .val (.int p3), .val (.int p4), .val (.int p5), .val (.int (Nat.toInt32 sN)), .val (.int (Nat.toInt32 nN)), .val (.ref b3), .val (.ref b8), .val (.ref r_13), .unset] [(.int p0), (.int (0 : Int32)), (.ref b8)]))
  refine own_via (fun _ k => XS.iconst X13.here hx rfl (hb hby at_78) k) ?_
  show own_Go p e below s _ _ _ (T13.setTop (mkF m 79 #[.val (.int p0), .val (.int p1), .val (.int p2), .val (.int p3), .val (.int p4), .val (.int p5), .val (.int (Nat.toInt32 sN)), .val (.int (Nat.toInt32 nN)), .val (.ref b3), .val (.ref b8), .val (.ref r_13), .unset] [(.int (-1 : Int32)), (.int p0), (.int (0 : Int32)), (.ref b8)]))
  refine own_via (fun _ k => XS.ixor X13.here hx rfl (hb hby at_79) rfl k) ?_
  show own_Go p e below s _ _ _ (T13.setTop (mkF m 80 #[.val (.int p0), .val (.int p1), .val (.int p2), .val (.int p3), .val (.int p4), .val (.int p5), .val (.int (Nat.toInt32 sN)), .val (.int (Nat.toInt32 nN)), .val (.ref b3), .val (.ref b8), .val (.ref r_13), .unset] [(.int (p0 ^^^ (-1 : Int32))), (.int (0 : Int32)), (.ref b8)]))
  have F22 := (V12.keep Kq13 nin0)
  obtain ⟨cl21, Ar21, q21, S21, M21, H21, G21⟩ := (id F22)
  have hin21 : ¬ ((0 : Int32) < 0 ∨ cl21.slots.size ≤ ((0 : Int32)).toNatClampNeg) := inb_of S21 ⟨by decide, by decide⟩
  obtain ⟨T21, h21, X21, e21, W21, st21⟩ := stI X13 hx hZ e13 Ar21 (j := (0 : Int32)) hin21 (g := (mkF m 80 #[.val (.int p0), .val (.int p1), .val (.int p2), .val (.int p3), .val (.int p4), .val (.int p5), .val (.int (Nat.toInt32 sN)), .val (.int (Nat.toInt32 nN)), .val (.ref b3), .val (.ref b8), .val (.ref r_13), .unset] [(.int (p0 ^^^ (-1 : Int32))), (.int (0 : Int32)), (.ref b8)])) rfl rfl (hb hby at_80)
  have V21 : Arv Z h21 b8 k8 .int (4 : Int32) [(.int (p0 ^^^ (-1 : Int32))), (.int p1), (.int p2), (.int p3)] (.int (0 : Int32)) := Arv.set Ar21 q21 S21 M21 H21 G21 rfl W21 0 rfl (Nat.le_of_ble_eq_true rfl)
  have N21 := Fr.snoc X21 N13 g_b8
  have Z21 : n0 ≤ h21.size := Nat.le_trans Z13 (Keep.of_wr W21).1
  refine own_via st21 ?_
  show own_Go p e below s _ _ _ (T21.setTop (mkF m 81 #[.val (.int p0), .val (.int p1), .val (.int p2), .val (.int p3), .val (.int p4), .val (.int p5), .val (.int (Nat.toInt32 sN)), .val (.int (Nat.toInt32 nN)), .val (.ref b3), .val (.ref b8), .val (.ref r_13), .unset] []))
  refine own_via (fun _ k => XS.aload X21.here hx rfl (hb hby at_81) rfl rfl k) ?_
  show own_Go p e below s _ _ _ (T21.setTop (mkF m 83 #[.val (.int p0), .val (.int p1), .val (.int p2), .val (.int p3), .val (.int p4), .val (.int p5), .val (.int (Nat.toInt32 sN)), .val (.int (Nat.toInt32 nN)), .val (.ref b3), .val (.ref b8), .val (.ref r_13), .unset] [(.ref b8)]))
  refine own_via (fun _ k => XS.iconst X21.here hx rfl (hb hby at_83) k) ?_
  show own_Go p e below s _ _ _ (T21.setTop (mkF m 84 #[.val (.int p0), .val (.int p1), .val (.int p2), .val (.int p3), .val (.int p4), .val (.int p5), .val (.int (Nat.toInt32 sN)), .val (.int (Nat.toInt32 nN)), .val (.ref b3), .val (.ref b8), .val (.ref r_13), .unset] [(.int (1 : Int32)), (.ref b8)]))
  refine own_via (fun _ k => XS.iloadN X21.here hx rfl (hb hby at_84) rfl k) ?_
  show own_Go p e below s _ _ _ (T21.setTop (mkF m 85 #[.val (.int p0), .val (.int p1), .val (.int p2), .val (.int p3), .val (.int p4), .val (.int p5), .val (.int (Nat.toInt32 sN)), .val (.int (Nat.toInt32 nN)), .val (.ref b3), .val (.ref b8), .val (.ref r_13), .unset] [(.int p1), (.int (1 : Int32)), (.ref b8)]))
  refine own_via (fun _ k => XS.iconst X21.here hx rfl (hb hby at_85) k) ?_
  show own_Go p e below s _ _ _ (T21.setTop (mkF m 86 #[.val (.int p0), .val (.int p1), .val (.int p2), .val (.int p3), .val (.int p4), .val (.int p5), .val (.int (Nat.toInt32 sN)), .val (.int (Nat.toInt32 nN)), .val (.ref b3), .val (.ref b8), .val (.ref r_13), .unset] [(.int (-1 : Int32)), (.int p1), (.int (1 : Int32)), (.ref b8)]))
  refine own_via (fun _ k => XS.ixor X21.here hx rfl (hb hby at_86) rfl k) ?_
  show own_Go p e below s _ _ _ (T21.setTop (mkF m 87 #[.val (.int p0), .val (.int p1), .val (.int p2), .val (.int p3), .val (.int p4), .val (.int p5), .val (.int (Nat.toInt32 sN)), .val (.int (Nat.toInt32 nN)), .val (.ref b3), .val (.ref b8), .val (.ref r_13), .unset] [(.int (p1 ^^^ (-1 : Int32))), (.int (1 : Int32)), (.ref b8)]))
  obtain ⟨cl23, Ar23, q23, S23, M23, H23, G23⟩ := (id V21)
  have hin23 : ¬ ((1 : Int32) < 0 ∨ cl23.slots.size ≤ ((1 : Int32)).toNatClampNeg) := inb_of S23 ⟨by decide, by decide⟩
  obtain ⟨T23, h23, X23, e23, W23, st23⟩ := stI X21 hx hZ e21 Ar23 (j := (1 : Int32)) hin23 (g := (mkF m 87 #[.val (.int p0), .val (.int p1), .val (.int p2), .val (.int p3), .val (.int p4), .val (.int p5), .val (.int (Nat.toInt32 sN)), .val (.int (Nat.toInt32 nN)), .val (.ref b3), .val (.ref b8), .val (.ref r_13), .unset] [(.int (p1 ^^^ (-1 : Int32))), (.int (1 : Int32)), (.ref b8)])) rfl rfl (hb hby at_87)
  have V23 : Arv Z h23 b8 k8 .int (4 : Int32) [(.int (p0 ^^^ (-1 : Int32))), (.int (p1 ^^^ (-1 : Int32))), (.int p2), (.int p3)] (.int (0 : Int32)) := Arv.set Ar23 q23 S23 M23 H23 G23 rfl W23 1 rfl (Nat.le_of_ble_eq_true rfl)
  have N23 := Fr.snoc X23 N21 g_b8
  have Z23 : n0 ≤ h23.size := Nat.le_trans Z21 (Keep.of_wr W23).1
  refine own_via st23 ?_
  show own_Go p e below s _ _ _ (T23.setTop (mkF m 88 #[.val (.int p0), .val (.int p1), .val (.int p2), .val (.int p3), .val (.int p4), .val (.int p5), .val (.int (Nat.toInt32 sN)), .val (.int (Nat.toInt32 nN)), .val (.ref b3), .val (.ref b8), .val (.ref r_13), .unset] []))
  refine own_via (fun _ k => XS.aload X23.here hx rfl (hb hby at_88) rfl rfl k) ?_
  show own_Go p e below s _ _ _ (T23.setTop (mkF m 90 #[.val (.int p0), .val (.int p1), .val (.int p2), .val (.int p3), .val (.int p4), .val (.int p5), .val (.int (Nat.toInt32 sN)), .val (.int (Nat.toInt32 nN)), .val (.ref b3), .val (.ref b8), .val (.ref r_13), .unset] [(.ref b8)]))
  refine own_via (fun _ k => XS.iconst X23.here hx rfl (hb hby at_90) k) ?_
  show own_Go p e below s _ _ _ (T23.setTop (mkF m 91 #[.val (.int p0), .val (.int p1), .val (.int p2), .val (.int p3), .val (.int p4), .val (.int p5), .val (.int (Nat.toInt32 sN)), .val (.int (Nat.toInt32 nN)), .val (.ref b3), .val (.ref b8), .val (.ref r_13), .unset] [(.int (2 : Int32)), (.ref b8)]))
  refine own_via (fun _ k => XS.iloadN X23.here hx rfl (hb hby at_91) rfl k) ?_
  show own_Go p e below s _ _ _ (T23.setTop (mkF m 92 #[.val (.int p0), .val (.int p1), .val (.int p2), .val (.int p3), .val (.int p4), .val (.int p5), .val (.int (Nat.toInt32 sN)), .val (.int (Nat.toInt32 nN)), .val (.ref b3), .val (.ref b8), .val (.ref r_13), .unset] [(.int p2), (.int (2 : Int32)), (.ref b8)]))
  refine own_via (fun _ k => XS.iconst X23.here hx rfl (hb hby at_92) k) ?_
  show own_Go p e below s _ _ _ (T23.setTop (mkF m 93 #[.val (.int p0), .val (.int p1), .val (.int p2), .val (.int p3), .val (.int p4), .val (.int p5), .val (.int (Nat.toInt32 sN)), .val (.int (Nat.toInt32 nN)), .val (.ref b3), .val (.ref b8), .val (.ref r_13), .unset] [(.int (-1 : Int32)), (.int p2), (.int (2 : Int32)), (.ref b8)]))
  refine own_via (fun _ k => XS.ixor X23.here hx rfl (hb hby at_93) rfl k) ?_
  show own_Go p e below s _ _ _ (T23.setTop (mkF m 94 #[.val (.int p0), .val (.int p1), .val (.int p2), .val (.int p3), .val (.int p4), .val (.int p5), .val (.int (Nat.toInt32 sN)), .val (.int (Nat.toInt32 nN)), .val (.ref b3), .val (.ref b8), .val (.ref r_13), .unset] [(.int (p2 ^^^ (-1 : Int32))), (.int (2 : Int32)), (.ref b8)]))
  obtain ⟨cl24, Ar24, q24, S24, M24, H24, G24⟩ := (id V23)
  have hin24 : ¬ ((2 : Int32) < 0 ∨ cl24.slots.size ≤ ((2 : Int32)).toNatClampNeg) := inb_of S24 ⟨by decide, by decide⟩
  obtain ⟨T24, h24, X24, e24, W24, st24⟩ := stI X23 hx hZ e23 Ar24 (j := (2 : Int32)) hin24 (g := (mkF m 94 #[.val (.int p0), .val (.int p1), .val (.int p2), .val (.int p3), .val (.int p4), .val (.int p5), .val (.int (Nat.toInt32 sN)), .val (.int (Nat.toInt32 nN)), .val (.ref b3), .val (.ref b8), .val (.ref r_13), .unset] [(.int (p2 ^^^ (-1 : Int32))), (.int (2 : Int32)), (.ref b8)])) rfl rfl (hb hby at_94)
  have V24 : Arv Z h24 b8 k8 .int (4 : Int32) [(.int (p0 ^^^ (-1 : Int32))), (.int (p1 ^^^ (-1 : Int32))), (.int (p2 ^^^ (-1 : Int32))), (.int p3)] (.int (0 : Int32)) := Arv.set Ar24 q24 S24 M24 H24 G24 rfl W24 2 rfl (Nat.le_of_ble_eq_true rfl)
  have N24 := Fr.snoc X24 N23 g_b8
  have Z24 : n0 ≤ h24.size := Nat.le_trans Z23 (Keep.of_wr W24).1
  refine own_via st24 ?_
  show own_Go p e below s _ _ _ (T24.setTop (mkF m 95 #[.val (.int p0), .val (.int p1), .val (.int p2), .val (.int p3), .val (.int p4), .val (.int p5), .val (.int (Nat.toInt32 sN)), .val (.int (Nat.toInt32 nN)), .val (.ref b3), .val (.ref b8), .val (.ref r_13), .unset] []))
  refine own_via (fun _ k => XS.aload X24.here hx rfl (hb hby at_95) rfl rfl k) ?_
  show own_Go p e below s _ _ _ (T24.setTop (mkF m 97 #[.val (.int p0), .val (.int p1), .val (.int p2), .val (.int p3), .val (.int p4), .val (.int p5), .val (.int (Nat.toInt32 sN)), .val (.int (Nat.toInt32 nN)), .val (.ref b3), .val (.ref b8), .val (.ref r_13), .unset] [(.ref b8)]))
  refine own_via (fun _ k => XS.iconst X24.here hx rfl (hb hby at_97) k) ?_
  show own_Go p e below s _ _ _ (T24.setTop (mkF m 98 #[.val (.int p0), .val (.int p1), .val (.int p2), .val (.int p3), .val (.int p4), .val (.int p5), .val (.int (Nat.toInt32 sN)), .val (.int (Nat.toInt32 nN)), .val (.ref b3), .val (.ref b8), .val (.ref r_13), .unset] [(.int (3 : Int32)), (.ref b8)]))
  refine own_via (fun _ k => XS.iloadN X24.here hx rfl (hb hby at_98) rfl k) ?_
  show own_Go p e below s _ _ _ (T24.setTop (mkF m 99 #[.val (.int p0), .val (.int p1), .val (.int p2), .val (.int p3), .val (.int p4), .val (.int p5), .val (.int (Nat.toInt32 sN)), .val (.int (Nat.toInt32 nN)), .val (.ref b3), .val (.ref b8), .val (.ref r_13), .unset] [(.int p3), (.int (3 : Int32)), (.ref b8)]))
  refine own_via (fun _ k => XS.iconst X24.here hx rfl (hb hby at_99) k) ?_
  show own_Go p e below s _ _ _ (T24.setTop (mkF m 100 #[.val (.int p0), .val (.int p1), .val (.int p2), .val (.int p3), .val (.int p4), .val (.int p5), .val (.int (Nat.toInt32 sN)), .val (.int (Nat.toInt32 nN)), .val (.ref b3), .val (.ref b8), .val (.ref r_13), .unset] [(.int (-1 : Int32)), (.int p3), (.int (3 : Int32)), (.ref b8)]))
  refine own_via (fun _ k => XS.ixor X24.here hx rfl (hb hby at_100) rfl k) ?_
  show own_Go p e below s _ _ _ (T24.setTop (mkF m 101 #[.val (.int p0), .val (.int p1), .val (.int p2), .val (.int p3), .val (.int p4), .val (.int p5), .val (.int (Nat.toInt32 sN)), .val (.int (Nat.toInt32 nN)), .val (.ref b3), .val (.ref b8), .val (.ref r_13), .unset] [(.int (p3 ^^^ (-1 : Int32))), (.int (3 : Int32)), (.ref b8)]))
  obtain ⟨cl25, Ar25, q25, S25, M25, H25, G25⟩ := (id V24)
  have hin25 : ¬ ((3 : Int32) < 0 ∨ cl25.slots.size ≤ ((3 : Int32)).toNatClampNeg) := inb_of S25 ⟨by decide, by decide⟩
  obtain ⟨T25, h25, X25, e25, W25, st25⟩ := stI X24 hx hZ e24 Ar25 (j := (3 : Int32)) hin25 (g := (mkF m 101 #[.val (.int p0), .val (.int p1), .val (.int p2), .val (.int p3), .val (.int p4), .val (.int p5), .val (.int (Nat.toInt32 sN)), .val (.int (Nat.toInt32 nN)), .val (.ref b3), .val (.ref b8), .val (.ref r_13), .unset] [(.int (p3 ^^^ (-1 : Int32))), (.int (3 : Int32)), (.ref b8)])) rfl rfl (hb hby at_101)
  have V25 : Arv Z h25 b8 k8 .int (4 : Int32) [(.int (p0 ^^^ (-1 : Int32))), (.int (p1 ^^^ (-1 : Int32))), (.int (p2 ^^^ (-1 : Int32))), (.int (p3 ^^^ (-1 : Int32)))] (.int (0 : Int32)) := Arv.set Ar25 q25 S25 M25 H25 G25 rfl W25 3 rfl (Nat.le_of_ble_eq_true rfl)
  have N25 := Fr.snoc X25 N24 g_b8
  have Z25 : n0 ≤ h25.size := Nat.le_trans Z24 (Keep.of_wr W25).1
  refine own_via st25 ?_
  show own_Go p e below s _ _ _ (T25.setTop (mkF m 102 #[.val (.int p0), .val (.int p1), .val (.int p2), .val (.int p3), .val (.int p4), .val (.int p5), .val (.int (Nat.toInt32 sN)), .val (.int (Nat.toInt32 nN)), .val (.ref b3), .val (.ref b8), .val (.ref r_13), .unset] []))
  refine own_via (fun _ k => XS.aload X25.here hx rfl (hb hby at_102) rfl rfl k) ?_
  show own_Go p e below s _ _ _ (T25.setTop (mkF m 104 #[.val (.int p0), .val (.int p1), .val (.int p2), .val (.int p3), .val (.int p4), .val (.int p5), .val (.int (Nat.toInt32 sN)), .val (.int (Nat.toInt32 nN)), .val (.ref b3), .val (.ref b8), .val (.ref r_13), .unset] [(.ref r_13)]))
  have F27 := ((((F18.other W21 (Or.inl (Ne.symm ne_b8_r_13))).other W23 (Or.inl (Ne.symm ne_b8_r_13))).other W24 (Or.inl (Ne.symm ne_b8_r_13))).other W25 (Or.inl (Ne.symm ne_b8_r_13)))
  have F28 := ((((F17.wr W21).wr W23).wr W24).wr W25)
  obtain ⟨cq26, kq26, qa26, qb26, qc26⟩ := isOf hZ e25 F28
  obtain ⟨_, _, ⟨T26, L26, k26, n26⟩, -, X26, ⟨Lc26, hQ26, l26, y26, z26⟩, st26⟩ := X25.virtualBack hx (y := (⟨"com/example/erstwhile_terms/erstwhileterms/variants/Run", "words", "()[I"⟩ : MethodName)) (z := (⟨"com/example/erstwhile_terms/erstwhileterms/variants/Run", "words", "()[I"⟩ : MethodName)) hown (mvT hZ (hw _ (List.mem_of_getElem? (i := 39) rfl))) (mvT hZ (hw _ (List.mem_of_getElem? (i := 40) rfl))) (notFace_of_selects (args := #[]) (mvT hZ (hw _ (List.mem_of_getElem? (i := 42) rfl)))) (mvT hZ (hw _ (List.mem_of_getElem? (i := 42) rfl))) (mvT hZ (hw _ (List.mem_of_getElem? (i := 41) rfl))) (by decide) (backOf (W := 0) (rm9 l Z a0 hw [] r_13 c_13 h25 n0 Z25 F27) hZ (hw _ (List.mem_of_getElem? (i := 43) rfl)) (hw _ (List.mem_of_getElem? (i := 4) rfl)) (by decide) (by decide)) qa26 qc26 (g := (mkF m 104 #[.val (.int p0), .val (.int p1), .val (.int p2), .val (.int p3), .val (.int p4), .val (.int p5), .val (.int (Nat.toInt32 sN)), .val (.int (Nat.toInt32 nN)), .val (.ref b3), .val (.ref b8), .val (.ref r_13), .unset] [(.ref r_13)])) rfl (by rw [hml]; rfl) (Steps.refl _) (argsL := []) (rest := []) (lenOf pd_6 rfl) rfl (by show 2 * 0 + _ ≤ _; exact Nat.le_of_eq rfl) (hb hby at_104) (fun _ _ => ⟨rfl, e25, (by decide : 4 + 0 ≤ _), (by decide : 13 + 0 ≤ _)⟩)
  dsimp only [Pt.U, Pt.locs, Pt.cells, Pt.slots] at X26 l26 y26 z26 st26 hQ26
  subst l26 y26 z26
  obtain ⟨rfl, N26q, e26⟩ := hQ26
  have N26 := Fr.app N25 N26q
  refine own_viaT st26 ?_
  show own_Go p e below s _ _ _ (T26.setTop (mkF m 107 #[.val (.int p0), .val (.int p1), .val (.int p2), .val (.int p3), .val (.int p4), .val (.int p5), .val (.int (Nat.toInt32 sN)), .val (.int (Nat.toInt32 nN)), .val (.ref b3), .val (.ref b8), .val (.ref r_13), .unset] [(.ref c_13)]))
  refine own_via (fun _ k => XS.astore X26.here hx rfl (hb hby at_107) rfl rfl (l' := #[.val (.int p0), .val (.int p1), .val (.int p2), .val (.int p3), .val (.int p4), .val (.int p5), .val (.int (Nat.toInt32 sN)), .val (.int (Nat.toInt32 nN)), .val (.ref b3), .val (.ref b8), .val (.ref r_13), .val (.ref c_13)]) rfl k) ?_
  show own_Go p e below s _ _ _ (T26.setTop (mkF m 109 #[.val (.int p0), .val (.int p1), .val (.int p2), .val (.int p3), .val (.int p4), .val (.int p5), .val (.int (Nat.toInt32 sN)), .val (.int (Nat.toInt32 nN)), .val (.ref b3), .val (.ref b8), .val (.ref r_13), .val (.ref c_13)] []))
  refine own_via (fun _ k => XS.aload X26.here hx rfl (hb hby at_109) rfl rfl k) ?_
  show own_Go p e below s _ _ _ (T26.setTop (mkF m 111 #[.val (.int p0), .val (.int p1), .val (.int p2), .val (.int p3), .val (.int p4), .val (.int p5), .val (.int (Nat.toInt32 sN)), .val (.int (Nat.toInt32 nN)), .val (.ref b3), .val (.ref b8), .val (.ref r_13), .val (.ref c_13)] [(.ref c_13)]))
  refine own_via (fun _ k => XS.ifnullNo X26.here hx rfl (hb hby at_111) rfl k) ?_
  show own_Go p e below s _ _ _ (T26.setTop (mkF m 114 #[.val (.int p0), .val (.int p1), .val (.int p2), .val (.int p3), .val (.int p4), .val (.int p5), .val (.int (Nat.toInt32 sN)), .val (.int (Nat.toInt32 nN)), .val (.ref b3), .val (.ref b8), .val (.ref r_13), .val (.ref c_13)] []))
  refine own_via (fun _ k => XS.aload X26.here hx rfl (hb hby at_114) rfl rfl k) ?_
  show own_Go p e below s _ _ _ (T26.setTop (mkF m 116 #[.val (.int p0), .val (.int p1), .val (.int p2), .val (.int p3), .val (.int p4), .val (.int p5), .val (.int (Nat.toInt32 sN)), .val (.int (Nat.toInt32 nN)), .val (.ref b3), .val (.ref b8), .val (.ref r_13), .val (.ref c_13)] [(.ref c_13)]))
  have F30 := ((((F19.other W21 (Ne.symm ne_b8_c_13)).other W23 (Ne.symm ne_b8_c_13)).other W24 (Ne.symm ne_b8_c_13)).other W25 (Ne.symm ne_b8_c_13))
  obtain ⟨cl29, Ar29, q29, S29, M29, H29, G29⟩ := (id F30)
  refine own_via (fun _ k => X26.arraylength hx (by rw [e26]; exact Ar29.1) (State.isArrayOf_alike hZ.alike Ar29.2.1) (g := (mkF m 116 #[.val (.int p0), .val (.int p1), .val (.int p2), .val (.int p3), .val (.int p4), .val (.int p5), .val (.int (Nat.toInt32 sN)), .val (.int (Nat.toInt32 nN)), .val (.ref b3), .val (.ref b8), .val (.ref r_13), .val (.ref c_13)] [(.ref c_13)])) rfl rfl (hb hby at_116) _ (by rw [len_of S29 M29]; exact k)) ?_
  show own_Go p e below s _ _ _ (T26.setTop (mkF m 117 #[.val (.int p0), .val (.int p1), .val (.int p2), .val (.int p3), .val (.int p4), .val (.int p5), .val (.int (Nat.toInt32 sN)), .val (.int (Nat.toInt32 nN)), .val (.ref b3), .val (.ref b8), .val (.ref r_13), .val (.ref c_13)] [(.int (Nat.toInt32 nN))]))
  refine own_via (fun _ k => XS.iload X26.here hx rfl (hb hby at_117) rfl k) ?_
  show own_Go p e below s _ _ _ (T26.setTop (mkF m 119 #[.val (.int p0), .val (.int p1), .val (.int p2), .val (.int p3), .val (.int p4), .val (.int p5), .val (.int (Nat.toInt32 sN)), .val (.int (Nat.toInt32 nN)), .val (.ref b3), .val (.ref b8), .val (.ref r_13), .val (.ref c_13)] [(.int (Nat.toInt32 nN)), (.int (Nat.toInt32 nN))]))
  refine own_via (fun _ k => XS.icmpYes X26.here hx rfl (pc0 := 119) (pc' := 124) rfl (hb hby at_119) rfl (Jvm.Free.XT.ii_eq_t rfl) (by decide) (by decide) k) ?_
  show own_Go p e below s _ _ _ (T26.setTop (mkF m 124 #[.val (.int p0), .val (.int p1), .val (.int p2), .val (.int p3), .val (.int p4), .val (.int p5), .val (.int (Nat.toInt32 sN)), .val (.int (Nat.toInt32 nN)), .val (.ref b3), .val (.ref b8), .val (.ref r_13), .val (.ref c_13)] []))
  refine own_via (fun _ k => XS.aload X26.here hx rfl (hb hby at_124) rfl rfl k) ?_
  show own_Go p e below s _ _ _ (T26.setTop (mkF m 126 #[.val (.int p0), .val (.int p1), .val (.int p2), .val (.int p3), .val (.int p4), .val (.int p5), .val (.int (Nat.toInt32 sN)), .val (.int (Nat.toInt32 nN)), .val (.ref b3), .val (.ref b8), .val (.ref r_13), .val (.ref c_13)] [(.ref c_13)]))
  refine own_via (fun _ k => XS.aload X26.here hx rfl (hb hby at_126) rfl rfl k) ?_
  show own_Go p e below s _ _ _ (T26.setTop (mkF m 128 #[.val (.int p0), .val (.int p1), .val (.int p2), .val (.int p3), .val (.int p4), .val (.int p5), .val (.int (Nat.toInt32 sN)), .val (.int (Nat.toInt32 nN)), .val (.ref b3), .val (.ref b8), .val (.ref r_13), .val (.ref c_13)] [(.ref b3), (.ref c_13)]))
  refine own_via (fun _ k => XS.iload X26.here hx rfl (hb hby at_128) rfl k) ?_
  show own_Go p e below s _ _ _ (T26.setTop (mkF m 130 #[.val (.int p0), .val (.int p1), .val (.int p2), .val (.int p3), .val (.int p4), .val (.int p5), .val (.int (Nat.toInt32 sN)), .val (.int (Nat.toInt32 nN)), .val (.ref b3), .val (.ref b8), .val (.ref r_13), .val (.ref c_13)] [(.int (Nat.toInt32 sN)), (.ref b3), (.ref c_13)]))
  refine own_via (fun _ k => XS.iload X26.here hx rfl (hb hby at_130) rfl k) ?_
  show own_Go p e below s _ _ _ (T26.setTop (mkF m 132 #[.val (.int p0), .val (.int p1), .val (.int p2), .val (.int p3), .val (.int p4), .val (.int p5), .val (.int (Nat.toInt32 sN)), .val (.int (Nat.toInt32 nN)), .val (.ref b3), .val (.ref b8), .val (.ref r_13), .val (.ref c_13)] [(.int (Nat.toInt32 nN)), (.int (Nat.toInt32 sN)), (.ref b3), (.ref c_13)]))
  refine own_via (fun _ k => XS.iconst X26.here hx rfl (hb hby at_132) k) ?_
  show own_Go p e below s _ _ _ (T26.setTop (mkF m 133 #[.val (.int p0), .val (.int p1), .val (.int p2), .val (.int p3), .val (.int p4), .val (.int p5), .val (.int (Nat.toInt32 sN)), .val (.int (Nat.toInt32 nN)), .val (.ref b3), .val (.ref b8), .val (.ref r_13), .val (.ref c_13)] [(.int (0 : Int32)), (.int (Nat.toInt32 nN)), (.int (Nat.toInt32 sN)), (.ref b3), (.ref c_13)]))
  have F32 := ((((((((((V7.ext E8).other W9 ne_b3_b8).other W10 ne_b3_b8).other W11 ne_b3_b8).other W12 ne_b3_b8).keep Kq13 nin0).other W21 ne_b3_b8).other W23 ne_b3_b8).other W24 ne_b3_b8).other W25 ne_b3_b8)
  obtain ⟨_, _, ⟨T31, L31, k31, n31⟩, -, X31, ⟨Lc31, hQ31, l31, y31, z31⟩, st31⟩ := Jvm.LawKit.callS X26 hx (y := (⟨"com/example/erstwhile_terms/erstwhileterms/variants/RunOfPinLaw", "at", "([I[IIII)Z"⟩ : MethodName)) hown (mvT hZ (hw _ (List.mem_of_getElem? (i := 44) rfl))) (mvT hZ (hw _ (List.mem_of_getElem? (i := 45) rfl))) (mvT hZ (hw _ (List.mem_of_getElem? (i := 46) rfl))) (mvT hZ (hw _ (List.mem_of_getElem? (i := 47) rfl))) (by decide) (backOf (W := 0) (rm10 l Z a0 hw [] c_13 b3 (Nat.toInt32 sN) (Nat.toInt32 nN) (0 : Int32) kc_13 k3 [p0, p1, p2, p3] sN nN 0 h25 n0 Z25 F30 F32 rfl rfl (by decide) hn (by decide)) hZ (hw _ (List.mem_of_getElem? (i := 47) rfl)) (hw _ (List.mem_of_getElem? (i := 46) rfl)) (by decide) (by decide)) (g := (mkF m 133 #[.val (.int p0), .val (.int p1), .val (.int p2), .val (.int p3), .val (.int p4), .val (.int p5), .val (.int (Nat.toInt32 sN)), .val (.int (Nat.toInt32 nN)), .val (.ref b3), .val (.ref b8), .val (.ref r_13), .val (.ref c_13)] [(.int (0 : Int32)), (.int (Nat.toInt32 nN)), (.int (Nat.toInt32 sN)), (.ref b3), (.ref c_13)])) rfl (by rw [hml]; rfl) (argsL := [(.ref c_13), (.ref b3), (.int (Nat.toInt32 sN)), (.int (Nat.toInt32 nN)), (.int (0 : Int32))]) (rest := []) (lenOf pd_7 rfl) rfl (by show 2 * 0 + _ ≤ _; exact Nat.le_of_eq rfl) (hb hby at_133) (fun _ _ => ⟨rfl, e26, (by decide : 4 + 0 ≤ _), (by decide : 13 + 0 ≤ _)⟩)
  dsimp only [Pt.U, Pt.locs, Pt.cells, Pt.slots] at X31 l31 y31 z31 st31 hQ31
  subst l31 y31 z31
  obtain ⟨rfl, N31q, e31⟩ := hQ31
  have N31 := Fr.app N26 N31q
  refine own_via st31 ?_
  show own_Go p e below s _ _ _ (T31.setTop (mkF m 136 #[.val (.int p0), .val (.int p1), .val (.int p2), .val (.int p3), .val (.int p4), .val (.int p5), .val (.int (Nat.toInt32 sN)), .val (.int (Nat.toInt32 nN)), .val (.ref b3), .val (.ref b8), .val (.ref r_13), .val (.ref c_13)] [(.int (1 : Int32))]))
  refine own_via (fun _ k => XS.ifNo X31.here hx rfl (hb hby at_136) rfl (Jvm.Free.XT.i0_eq_f (by decide)) k) ?_
  show own_Go p e below s _ _ _ (T31.setTop (mkF m 139 #[.val (.int p0), .val (.int p1), .val (.int p2), .val (.int p3), .val (.int p4), .val (.int p5), .val (.int (Nat.toInt32 sN)), .val (.int (Nat.toInt32 nN)), .val (.ref b3), .val (.ref b8), .val (.ref r_13), .val (.ref c_13)] []))
  refine own_via (fun _ k => XS.aload X31.here hx rfl (hb hby at_139) rfl rfl k) ?_
  show own_Go p e below s _ _ _ (T31.setTop (mkF m 141 #[.val (.int p0), .val (.int p1), .val (.int p2), .val (.int p3), .val (.int p4), .val (.int p5), .val (.int (Nat.toInt32 sN)), .val (.int (Nat.toInt32 nN)), .val (.ref b3), .val (.ref b8), .val (.ref r_13), .val (.ref c_13)] [(.ref c_13)]))
  refine own_via (fun _ k => XS.aload X31.here hx rfl (hb hby at_141) rfl rfl k) ?_
  show own_Go p e below s _ _ _ (T31.setTop (mkF m 143 #[.val (.int p0), .val (.int p1), .val (.int p2), .val (.int p3), .val (.int p4), .val (.int p5), .val (.int (Nat.toInt32 sN)), .val (.int (Nat.toInt32 nN)), .val (.ref b3), .val (.ref b8), .val (.ref r_13), .val (.ref c_13)] [(.ref b3), (.ref c_13)]))
  refine own_via (fun _ k => XS.iload X31.here hx rfl (hb hby at_143) rfl k) ?_
  show own_Go p e below s _ _ _ (T31.setTop (mkF m 145 #[.val (.int p0), .val (.int p1), .val (.int p2), .val (.int p3), .val (.int p4), .val (.int p5), .val (.int (Nat.toInt32 sN)), .val (.int (Nat.toInt32 nN)), .val (.ref b3), .val (.ref b8), .val (.ref r_13), .val (.ref c_13)] [(.int (Nat.toInt32 sN)), (.ref b3), (.ref c_13)]))
  refine own_via (fun _ k => XS.iload X31.here hx rfl (hb hby at_145) rfl k) ?_
  show own_Go p e below s _ _ _ (T31.setTop (mkF m 147 #[.val (.int p0), .val (.int p1), .val (.int p2), .val (.int p3), .val (.int p4), .val (.int p5), .val (.int (Nat.toInt32 sN)), .val (.int (Nat.toInt32 nN)), .val (.ref b3), .val (.ref b8), .val (.ref r_13), .val (.ref c_13)] [(.int (Nat.toInt32 nN)), (.int (Nat.toInt32 sN)), (.ref b3), (.ref c_13)]))
  refine own_via (fun _ k => XS.iconst X31.here hx rfl (hb hby at_147) k) ?_
  show own_Go p e below s _ _ _ (T31.setTop (mkF m 148 #[.val (.int p0), .val (.int p1), .val (.int p2), .val (.int p3), .val (.int p4), .val (.int p5), .val (.int (Nat.toInt32 sN)), .val (.int (Nat.toInt32 nN)), .val (.ref b3), .val (.ref b8), .val (.ref r_13), .val (.ref c_13)] [(.int (1 : Int32)), (.int (Nat.toInt32 nN)), (.int (Nat.toInt32 sN)), (.ref b3), (.ref c_13)]))
  obtain ⟨_, _, ⟨T33, L33, k33, n33⟩, -, X33, ⟨Lc33, hQ33, l33, y33, z33⟩, st33⟩ := Jvm.LawKit.callS X31 hx (y := (⟨"com/example/erstwhile_terms/erstwhileterms/variants/RunOfPinLaw", "at", "([I[IIII)Z"⟩ : MethodName)) hown (mvT hZ (hw _ (List.mem_of_getElem? (i := 44) rfl))) (mvT hZ (hw _ (List.mem_of_getElem? (i := 45) rfl))) (mvT hZ (hw _ (List.mem_of_getElem? (i := 46) rfl))) (mvT hZ (hw _ (List.mem_of_getElem? (i := 47) rfl))) (by decide) (backOf (W := 0) (rm10 l Z a0 hw [] c_13 b3 (Nat.toInt32 sN) (Nat.toInt32 nN) (1 : Int32) kc_13 k3 [p0, p1, p2, p3] sN nN 1 h25 n0 Z25 F30 F32 rfl rfl (by decide) hn (by decide)) hZ (hw _ (List.mem_of_getElem? (i := 47) rfl)) (hw _ (List.mem_of_getElem? (i := 46) rfl)) (by decide) (by decide)) (g := (mkF m 148 #[.val (.int p0), .val (.int p1), .val (.int p2), .val (.int p3), .val (.int p4), .val (.int p5), .val (.int (Nat.toInt32 sN)), .val (.int (Nat.toInt32 nN)), .val (.ref b3), .val (.ref b8), .val (.ref r_13), .val (.ref c_13)] [(.int (1 : Int32)), (.int (Nat.toInt32 nN)), (.int (Nat.toInt32 sN)), (.ref b3), (.ref c_13)])) rfl (by rw [hml]; rfl) (argsL := [(.ref c_13), (.ref b3), (.int (Nat.toInt32 sN)), (.int (Nat.toInt32 nN)), (.int (1 : Int32))]) (rest := []) (lenOf pd_7 rfl) rfl (by show 2 * 0 + _ ≤ _; exact Nat.le_of_eq rfl) (hb hby at_148) (fun _ _ => ⟨rfl, e31, (by decide : 4 + 0 ≤ _), (by decide : 13 + 0 ≤ _)⟩)
  dsimp only [Pt.U, Pt.locs, Pt.cells, Pt.slots] at X33 l33 y33 z33 st33 hQ33
  subst l33 y33 z33
  obtain ⟨rfl, N33q, e33⟩ := hQ33
  have N33 := Fr.app N31 N33q
  refine own_via st33 ?_
  show own_Go p e below s _ _ _ (T33.setTop (mkF m 151 #[.val (.int p0), .val (.int p1), .val (.int p2), .val (.int p3), .val (.int p4), .val (.int p5), .val (.int (Nat.toInt32 sN)), .val (.int (Nat.toInt32 nN)), .val (.ref b3), .val (.ref b8), .val (.ref r_13), .val (.ref c_13)] [(.int (1 : Int32))]))
  refine own_via (fun _ k => XS.ifNo X33.here hx rfl (hb hby at_151) rfl (Jvm.Free.XT.i0_eq_f (by decide)) k) ?_
  show own_Go p e below s _ _ _ (T33.setTop (mkF m 154 #[.val (.int p0), .val (.int p1), .val (.int p2), .val (.int p3), .val (.int p4), .val (.int p5), .val (.int (Nat.toInt32 sN)), .val (.int (Nat.toInt32 nN)), .val (.ref b3), .val (.ref b8), .val (.ref r_13), .val (.ref c_13)] []))
  refine own_via (fun _ k => XS.aload X33.here hx rfl (hb hby at_154) rfl rfl k) ?_
  show own_Go p e below s _ _ _ (T33.setTop (mkF m 156 #[.val (.int p0), .val (.int p1), .val (.int p2), .val (.int p3), .val (.int p4), .val (.int p5), .val (.int (Nat.toInt32 sN)), .val (.int (Nat.toInt32 nN)), .val (.ref b3), .val (.ref b8), .val (.ref r_13), .val (.ref c_13)] [(.ref c_13)]))
  refine own_via (fun _ k => XS.aload X33.here hx rfl (hb hby at_156) rfl rfl k) ?_
  show own_Go p e below s _ _ _ (T33.setTop (mkF m 158 #[.val (.int p0), .val (.int p1), .val (.int p2), .val (.int p3), .val (.int p4), .val (.int p5), .val (.int (Nat.toInt32 sN)), .val (.int (Nat.toInt32 nN)), .val (.ref b3), .val (.ref b8), .val (.ref r_13), .val (.ref c_13)] [(.ref b3), (.ref c_13)]))
  refine own_via (fun _ k => XS.iload X33.here hx rfl (hb hby at_158) rfl k) ?_
  show own_Go p e below s _ _ _ (T33.setTop (mkF m 160 #[.val (.int p0), .val (.int p1), .val (.int p2), .val (.int p3), .val (.int p4), .val (.int p5), .val (.int (Nat.toInt32 sN)), .val (.int (Nat.toInt32 nN)), .val (.ref b3), .val (.ref b8), .val (.ref r_13), .val (.ref c_13)] [(.int (Nat.toInt32 sN)), (.ref b3), (.ref c_13)]))
  refine own_via (fun _ k => XS.iload X33.here hx rfl (hb hby at_160) rfl k) ?_
  show own_Go p e below s _ _ _ (T33.setTop (mkF m 162 #[.val (.int p0), .val (.int p1), .val (.int p2), .val (.int p3), .val (.int p4), .val (.int p5), .val (.int (Nat.toInt32 sN)), .val (.int (Nat.toInt32 nN)), .val (.ref b3), .val (.ref b8), .val (.ref r_13), .val (.ref c_13)] [(.int (Nat.toInt32 nN)), (.int (Nat.toInt32 sN)), (.ref b3), (.ref c_13)]))
  refine own_via (fun _ k => XS.iconst X33.here hx rfl (hb hby at_162) k) ?_
  show own_Go p e below s _ _ _ (T33.setTop (mkF m 163 #[.val (.int p0), .val (.int p1), .val (.int p2), .val (.int p3), .val (.int p4), .val (.int p5), .val (.int (Nat.toInt32 sN)), .val (.int (Nat.toInt32 nN)), .val (.ref b3), .val (.ref b8), .val (.ref r_13), .val (.ref c_13)] [(.int (2 : Int32)), (.int (Nat.toInt32 nN)), (.int (Nat.toInt32 sN)), (.ref b3), (.ref c_13)]))
  obtain ⟨_, _, ⟨T34, L34, k34, n34⟩, -, X34, ⟨Lc34, hQ34, l34, y34, z34⟩, st34⟩ := Jvm.LawKit.callS X33 hx (y := (⟨"com/example/erstwhile_terms/erstwhileterms/variants/RunOfPinLaw", "at", "([I[IIII)Z"⟩ : MethodName)) hown (mvT hZ (hw _ (List.mem_of_getElem? (i := 44) rfl))) (mvT hZ (hw _ (List.mem_of_getElem? (i := 45) rfl))) (mvT hZ (hw _ (List.mem_of_getElem? (i := 46) rfl))) (mvT hZ (hw _ (List.mem_of_getElem? (i := 47) rfl))) (by decide) (backOf (W := 0) (rm10 l Z a0 hw [] c_13 b3 (Nat.toInt32 sN) (Nat.toInt32 nN) (2 : Int32) kc_13 k3 [p0, p1, p2, p3] sN nN 2 h25 n0 Z25 F30 F32 rfl rfl (by decide) hn (by decide)) hZ (hw _ (List.mem_of_getElem? (i := 47) rfl)) (hw _ (List.mem_of_getElem? (i := 46) rfl)) (by decide) (by decide)) (g := (mkF m 163 #[.val (.int p0), .val (.int p1), .val (.int p2), .val (.int p3), .val (.int p4), .val (.int p5), .val (.int (Nat.toInt32 sN)), .val (.int (Nat.toInt32 nN)), .val (.ref b3), .val (.ref b8), .val (.ref r_13), .val (.ref c_13)] [(.int (2 : Int32)), (.int (Nat.toInt32 nN)), (.int (Nat.toInt32 sN)), (.ref b3), (.ref c_13)])) rfl (by rw [hml]; rfl) (argsL := [(.ref c_13), (.ref b3), (.int (Nat.toInt32 sN)), (.int (Nat.toInt32 nN)), (.int (2 : Int32))]) (rest := []) (lenOf pd_7 rfl) rfl (by show 2 * 0 + _ ≤ _; exact Nat.le_of_eq rfl) (hb hby at_163) (fun _ _ => ⟨rfl, e33, (by decide : 4 + 0 ≤ _), (by decide : 13 + 0 ≤ _)⟩)
  dsimp only [Pt.U, Pt.locs, Pt.cells, Pt.slots] at X34 l34 y34 z34 st34 hQ34
  subst l34 y34 z34
  obtain ⟨rfl, N34q, e34⟩ := hQ34
  have N34 := Fr.app N33 N34q
  refine own_via st34 ?_
  show own_Go p e below s _ _ _ (T34.setTop (mkF m 166 #[.val (.int p0), .val (.int p1), .val (.int p2), .val (.int p3), .val (.int p4), .val (.int p5), .val (.int (Nat.toInt32 sN)), .val (.int (Nat.toInt32 nN)), .val (.ref b3), .val (.ref b8), .val (.ref r_13), .val (.ref c_13)] [(.int (1 : Int32))]))
  refine own_via (fun _ k => XS.ifNo X34.here hx rfl (hb hby at_166) rfl (Jvm.Free.XT.i0_eq_f (by decide)) k) ?_
  show own_Go p e below s _ _ _ (T34.setTop (mkF m 169 #[.val (.int p0), .val (.int p1), .val (.int p2), .val (.int p3), .val (.int p4), .val (.int p5), .val (.int (Nat.toInt32 sN)), .val (.int (Nat.toInt32 nN)), .val (.ref b3), .val (.ref b8), .val (.ref r_13), .val (.ref c_13)] []))
  refine own_via (fun _ k => XS.aload X34.here hx rfl (hb hby at_169) rfl rfl k) ?_
  show own_Go p e below s _ _ _ (T34.setTop (mkF m 171 #[.val (.int p0), .val (.int p1), .val (.int p2), .val (.int p3), .val (.int p4), .val (.int p5), .val (.int (Nat.toInt32 sN)), .val (.int (Nat.toInt32 nN)), .val (.ref b3), .val (.ref b8), .val (.ref r_13), .val (.ref c_13)] [(.ref c_13)]))
  refine own_via (fun _ k => XS.aload X34.here hx rfl (hb hby at_171) rfl rfl k) ?_
  show own_Go p e below s _ _ _ (T34.setTop (mkF m 173 #[.val (.int p0), .val (.int p1), .val (.int p2), .val (.int p3), .val (.int p4), .val (.int p5), .val (.int (Nat.toInt32 sN)), .val (.int (Nat.toInt32 nN)), .val (.ref b3), .val (.ref b8), .val (.ref r_13), .val (.ref c_13)] [(.ref b3), (.ref c_13)]))
  refine own_via (fun _ k => XS.iload X34.here hx rfl (hb hby at_173) rfl k) ?_
  show own_Go p e below s _ _ _ (T34.setTop (mkF m 175 #[.val (.int p0), .val (.int p1), .val (.int p2), .val (.int p3), .val (.int p4), .val (.int p5), .val (.int (Nat.toInt32 sN)), .val (.int (Nat.toInt32 nN)), .val (.ref b3), .val (.ref b8), .val (.ref r_13), .val (.ref c_13)] [(.int (Nat.toInt32 sN)), (.ref b3), (.ref c_13)]))
  refine own_via (fun _ k => XS.iload X34.here hx rfl (hb hby at_175) rfl k) ?_
  show own_Go p e below s _ _ _ (T34.setTop (mkF m 177 #[.val (.int p0), .val (.int p1), .val (.int p2), .val (.int p3), .val (.int p4), .val (.int p5), .val (.int (Nat.toInt32 sN)), .val (.int (Nat.toInt32 nN)), .val (.ref b3), .val (.ref b8), .val (.ref r_13), .val (.ref c_13)] [(.int (Nat.toInt32 nN)), (.int (Nat.toInt32 sN)), (.ref b3), (.ref c_13)]))
  refine own_via (fun _ k => XS.iconst X34.here hx rfl (hb hby at_177) k) ?_
  show own_Go p e below s _ _ _ (T34.setTop (mkF m 178 #[.val (.int p0), .val (.int p1), .val (.int p2), .val (.int p3), .val (.int p4), .val (.int p5), .val (.int (Nat.toInt32 sN)), .val (.int (Nat.toInt32 nN)), .val (.ref b3), .val (.ref b8), .val (.ref r_13), .val (.ref c_13)] [(.int (3 : Int32)), (.int (Nat.toInt32 nN)), (.int (Nat.toInt32 sN)), (.ref b3), (.ref c_13)]))
  obtain ⟨_, _, ⟨T35, L35, k35, n35⟩, -, X35, ⟨Lc35, hQ35, l35, y35, z35⟩, st35⟩ := Jvm.LawKit.callS X34 hx (y := (⟨"com/example/erstwhile_terms/erstwhileterms/variants/RunOfPinLaw", "at", "([I[IIII)Z"⟩ : MethodName)) hown (mvT hZ (hw _ (List.mem_of_getElem? (i := 44) rfl))) (mvT hZ (hw _ (List.mem_of_getElem? (i := 45) rfl))) (mvT hZ (hw _ (List.mem_of_getElem? (i := 46) rfl))) (mvT hZ (hw _ (List.mem_of_getElem? (i := 47) rfl))) (by decide) (backOf (W := 0) (rm10 l Z a0 hw [] c_13 b3 (Nat.toInt32 sN) (Nat.toInt32 nN) (3 : Int32) kc_13 k3 [p0, p1, p2, p3] sN nN 3 h25 n0 Z25 F30 F32 rfl rfl (by decide) hn (by decide)) hZ (hw _ (List.mem_of_getElem? (i := 47) rfl)) (hw _ (List.mem_of_getElem? (i := 46) rfl)) (by decide) (by decide)) (g := (mkF m 178 #[.val (.int p0), .val (.int p1), .val (.int p2), .val (.int p3), .val (.int p4), .val (.int p5), .val (.int (Nat.toInt32 sN)), .val (.int (Nat.toInt32 nN)), .val (.ref b3), .val (.ref b8), .val (.ref r_13), .val (.ref c_13)] [(.int (3 : Int32)), (.int (Nat.toInt32 nN)), (.int (Nat.toInt32 sN)), (.ref b3), (.ref c_13)])) rfl (by rw [hml]; rfl) (argsL := [(.ref c_13), (.ref b3), (.int (Nat.toInt32 sN)), (.int (Nat.toInt32 nN)), (.int (3 : Int32))]) (rest := []) (lenOf pd_7 rfl) rfl (by show 2 * 0 + _ ≤ _; exact Nat.le_of_eq rfl) (hb hby at_178) (fun _ _ => ⟨rfl, e34, (by decide : 4 + 0 ≤ _), (by decide : 13 + 0 ≤ _)⟩)
  dsimp only [Pt.U, Pt.locs, Pt.cells, Pt.slots] at X35 l35 y35 z35 st35 hQ35
  subst l35 y35 z35
  obtain ⟨rfl, N35q, e35⟩ := hQ35
  have N35 := Fr.app N34 N35q
  refine own_via st35 ?_
  show own_Go p e below s _ _ _ (T35.setTop (mkF m 181 #[.val (.int p0), .val (.int p1), .val (.int p2), .val (.int p3), .val (.int p4), .val (.int p5), .val (.int (Nat.toInt32 sN)), .val (.int (Nat.toInt32 nN)), .val (.ref b3), .val (.ref b8), .val (.ref r_13), .val (.ref c_13)] [(.int (1 : Int32))]))
  refine own_via (fun _ k => XS.ifNo X35.here hx rfl (hb hby at_181) rfl (Jvm.Free.XT.i0_eq_f (by decide)) k) ?_
  show own_Go p e below s _ _ _ (T35.setTop (mkF m 184 #[.val (.int p0), .val (.int p1), .val (.int p2), .val (.int p3), .val (.int p4), .val (.int p5), .val (.int (Nat.toInt32 sN)), .val (.int (Nat.toInt32 nN)), .val (.ref b3), .val (.ref b8), .val (.ref r_13), .val (.ref c_13)] []))
  refine own_via (fun _ k => XS.iconst X35.here hx rfl (hb hby at_184) k) ?_
  show own_Go p e below s _ _ _ (T35.setTop (mkF m 185 #[.val (.int p0), .val (.int p1), .val (.int p2), .val (.int p3), .val (.int p4), .val (.int p5), .val (.int (Nat.toInt32 sN)), .val (.int (Nat.toInt32 nN)), .val (.ref b3), .val (.ref b8), .val (.ref r_13), .val (.ref c_13)] [(.int (1 : Int32))]))
  refine own_via (fun _ k => XS.goto X35.here hx rfl (pc0 := 185) (pc' := 189) rfl (hb hby at_185) (by decide) (by decide) k) ?_
  show own_Go p e below s _ _ _ (T35.setTop (mkF m 189 #[.val (.int p0), .val (.int p1), .val (.int p2), .val (.int p3), .val (.int p4), .val (.int p5), .val (.int (Nat.toInt32 sN)), .val (.int (Nat.toInt32 nN)), .val (.ref b3), .val (.ref b8), .val (.ref r_13), .val (.ref c_13)] [(.int (1 : Int32))]))
  exact own_goN X35 hx (t := .boolean) Bd.returns (by simp) (hb hby at_189) Bd.notSynchronized (by decide) (by decide) (by rw [e35]; exact ⟨rfl, N35⟩)
set_option maxRecDepth 65536 in
set_option maxHeartbeats 40000000 in
theorem comes_1 {Post : Tables → Env → Array Value → State → Outcome → State → Prop} (hpost : ∀ tb e args s v u, (limb_1_1.after args s (.returned v) u = true ∧ limb_1_2.after args s (.returned v) u = true ∧ True) → FrameEnd s (.returned v) u (Jvm.fieldLocs frame_1_writes args s ++ Jvm.arrayLocs frame_1_arrays args s ++ Jvm.staticLocs frame_1_statics s) 16 128 → Post tb e args s (.returned v) u) :
    ArmFor flags0 classFile x code maxLocals ret World_1 tables_1 room_1 Calls_1 rest_1 Pre_1 Post := by
  intro l hfl _ _ p e ha hc hk s m args below hf hA hF happ hP
  obtain ⟨hcalls, hrest, hpre⟩ := hP
  obtain ⟨-, -, -, hnamed, -, -, -, hat⟩ := (Spec.applies_iff hf).mp happ
  obtain ⟨hg, hn⟩ := and_e (Cond.before_iff.mp (show (Jvm.Cond.and given_1 narrow_1).before args s = true from hpre))
  obtain ⟨g1, g2⟩ := and_e hg
  obtain ⟨g3, g4⟩ := and_e g2
  obtain ⟨g5, g6⟩ := and_e g4
  obtain ⟨g7, g8⟩ := and_e g6
  obtain ⟨g9, g10⟩ := and_e g8
  obtain ⟨g11, g12⟩ := and_e g10
  obtain ⟨w0, w1, w2, w3, w4, w5, rfl⟩ : ∃ w0 w1 w2 w3 w4 w5 : Value, args = #[w0, w1, w2, w3, w4, w5] := by
    have hs : args.size = 6 := by simpa [Cond.value, given_1] using g1
    obtain ⟨L⟩ := args
    match L, hs with
    | [w0, w1, w2, w3, w4, w5], _ => exact ⟨w0, w1, w2, w3, w4, w5, rfl⟩
  have hw := fun d (hd : d ∈ tables_1) => atoms_spec (ws := Jvm.Cond.code x code maxLocals ret :: tables_1) hat d (List.mem_cons_of_mem _ hd)
  have hfit : Fit s := fun {y c} hc i hi => by
    obtain ⟨ha, rfl⟩ := Array.getElem?_eq_some_iff.mp hc
    have q := List.all_eq_true.mp ((Array.all_eq_true_iff_forall_mem.mp hF) _ (Array.getElem_mem ha)) i (List.mem_range.mpr hi)
    simpa [Array.getElem?_eq_getElem hi] using q
  obtain ⟨i0, ei0⟩ := is_v g3
  obtain rfl : w0 = (.int i0) := Option.some.inj ei0
  obtain ⟨i1, ei1⟩ := is_v g5
  obtain rfl : w1 = (.int i1) := Option.some.inj ei1
  obtain ⟨i2, ei2⟩ := is_v g7
  obtain rfl : w2 = (.int i2) := Option.some.inj ei2
  obtain ⟨i3, ei3⟩ := is_v g9
  obtain rfl : w3 = (.int i3) := Option.some.inj ei3
  obtain ⟨i4, ei4⟩ := is_v g11
  obtain rfl : w4 = (.int i4) := Option.some.inj ei4
  obtain ⟨i5, ei5⟩ := is_v g12
  obtain rfl : w5 = (.int i5) := Option.some.inj ei5
  obtain ⟨n, o, h1, h2, h3, _, L, rfl, ⟨rfl, N⟩, hq⟩ := rm0 l s _ hw tables_1 i0 i1 i2 i3 i4 i5 s.heap s.heap.size (Nat.le_refl _)  p e ha hc hk s m _ below hf ((Spec.applies_iff_loose hf).mp happ).1 ⟨rfl, State.Warmed39.refl s, rfl⟩ trivial
  refine ⟨n, _, h1, h2, h3, hpost _ _ _ _ _ _ ⟨Cond.after_iff.mpr rfl, Cond.after_iff.mpr (eq_i res_at (Term.int_eval (1)) rfl), trivial⟩ ⟨hq.1, hq.2.1, (hq.2.2.sift fun y hy => Or.inr (N y hy)).mono (by decide) (by decide)⟩⟩
theorem main_1_1 : Claimed_1_1 := comes_1 fun _ _ _ _ _ _ h hF => ⟨h.1, hF⟩
theorem main_1_2 : Claimed_1_2 := comes_1 fun _ _ _ _ _ _ h hF => ⟨h.2.1, hF⟩
end Jvm.Pilot.@@N@@
namespace Jvm.Pilot.@@N@@
open Jvm Jvm.ClassFile Sem Op Lib Jvm.Free Jvm.Stand Jvm.Pilot.@@N@@.Jvm.D
/-! MADE BY PROGRAM (witnessworld.py) out of the Statement's table words and the real class files: 13 classes; the members and pool entries that the words name. The judged class is class 1, her method 1. -/
namespace start1
open Jvm.ClassFile
def u (s : String) : CpInfo := .utf8 (stringToUtf16 s)
/-- a pool by its gaps: so many unusable entries, then the entry; so many at the end -/
def gap : Nat → List CpInfo → List CpInfo
  | 0, r => r
  | n + 1, r => .unusable :: gap n r
def poolList (es : List (Nat × CpInfo)) (last : Nat) : List CpInfo := es.foldr (fun e r => gap e.1 (e.2 :: r)) (gap last [])
def pool (es : List (Nat × CpInfo)) (last : Nat) : Array CpInfo := ⟨poolList es last⟩
def fileOf (pool : Array CpInfo) (this : Nat) (attrs : Array Attribute := #[]) (ms : Array MethodInfo := #[]) (fl : Nat := 33) (sup : Nat := 0) (ifs : Array Nat := #[]) (fds : Array FieldInfo := #[]) : ClassFile where
  minorVersion := 0
  majorVersion := 65
  constantPool := pool
  accessFlags := fl
  thisClass := this
  superClass := sup
  interfaces := ifs
  fields := fds
  methods := ms
  attributes := attrs
def plain (name : String) (sup : Option ClassId) : Class where
  name := name
  kind := .ordinary
  loader := none
  accessFlags := 33
  super := sup
  interfaces := #[]
  cf := none
  fields := #[]
  methods := #[]
  instanceTypes := #[]
  staticTypes := #[]
  resolved := #[]
  callSites := []
  init := .initialized
  statics := none
  mirror := none

def pool0 : Array CpInfo := pool [(5, u "<init>"), (0, u "()V"), (1, .class_ 10), (1, u "java/lang/Object"), (85, u "clone"), (0, u "()Ljava/lang/Object;")] 26

def k0c0 : Code := { maxStack := 0, maxLocals := 1, code := object_method_1_code, exceptionTable := #[], attributes := #[] }
def k0m0 : Method := { name := "<init>", desc := "()V", sig := { parameters := [], returnType := none }, accessFlags := 1, code := some k0c0 }
def k0m1 : Method := { name := "clone", desc := "()Ljava/lang/Object;", sig := { parameters := [], returnType := some (.object "java/lang/Object") }, accessFlags := 260, code := none }
/-- java/lang/Object -/
def k0 : Class := { plain "java/lang/Object" none with
  accessFlags := 33
  interfaces := #[]
  cf := some (fileOf pool0 8 #[] #[{ accessFlags := 1, nameIndex := 5, descriptorIndex := 6, attributes := #[] }, { accessFlags := 260, nameIndex := 96, descriptorIndex := 97, attributes := #[] }] 33 0 #[] #[])
  fields := #[]
  methods := #[k0m0, k0m1]
  instanceTypes := #[]
  staticTypes := #[]
  resolved := Array.replicate 124 none
  statics := none }

def pool1 : Array CpInfo := pool [(2, .class_ 4), (1, u "java/lang/Object"), (0, u "<init>"), (0, u "()V"), (0, .integer 2147483647), (0, .methodref 9 10), (0, .class_ 11), (0, .nameAndType 12 13), (0, u "com/example/erstwhile_terms/erstwhileterms/variants/Run"), (0, u "of"), (0, u "([III)Lcom/example/erstwhile_terms/erstwhileterms/variants/Run;"), (0, .methodref 9 15), (0, .nameAndType 16 17), (0, u "words"), (0, u "()[I"), (0, .methodref 19 20), (0, .class_ 21), (0, .nameAndType 22 23), (0, u "com/example/erstwhile_terms/erstwhileterms/variants/RunOfPinLaw"), (0, u "at"), (0, u "([I[IIII)Z"), (2, u "law"), (0, u "(IIIIII)Z")] 5

def k1m0 : Method := { name := "<init>", desc := "()V", sig := { parameters := [], returnType := none }, accessFlags := 1, code := none }
def k1c1 : Code := { maxStack := 5, maxLocals := 12, code := code, exceptionTable := #[], attributes := #[] }
def k1m1 : Method := { name := "law", desc := "(IIIIII)Z", sig := { parameters := [.int, .int, .int, .int, .int, .int], returnType := some .boolean }, accessFlags := 9, code := some k1c1 }
def k1c2 : Code := { maxStack := 4, maxLocals := 5, code := method_3_code, exceptionTable := #[], attributes := #[] }
def k1m2 : Method := { name := "at", desc := "([I[IIII)Z", sig := { parameters := [(.array .int), (.array .int), .int, .int, .int], returnType := some .boolean }, accessFlags := 10, code := some k1c2 }
/-- com/example/erstwhile_terms/erstwhileterms/variants/RunOfPinLaw -/
def k1 : Class := { plain "com/example/erstwhile_terms/erstwhileterms/variants/RunOfPinLaw" (some 0) with
  accessFlags := 49
  interfaces := #[]
  cf := some (fileOf pool1 19 #[] #[{ accessFlags := 1, nameIndex := 5, descriptorIndex := 6, attributes := #[] }, { accessFlags := 9, nameIndex := 26, descriptorIndex := 27, attributes := #[] }, { accessFlags := 10, nameIndex := 22, descriptorIndex := 23, attributes := #[] }] 49 2 #[] #[])
  fields := #[]
  methods := #[k1m0, k1m1, k1m2]
  instanceTypes := #[]
  staticTypes := #[]
  resolved := Array.replicate 33 none
  statics := none }

def pool2 : Array CpInfo := pool [(1, .methodref 2 3), (0, .class_ 4), (0, .nameAndType 5 6), (0, u "java/lang/Object"), (0, u "<init>"), (0, u "()V"), (0, .class_ 8), (0, u "java/lang/Record")] 13

def k2c0 : Code := { maxStack := 1, maxLocals := 1, code := jdk_30_method_1_code, exceptionTable := #[], attributes := #[] }
def k2m0 : Method := { name := "<init>", desc := "()V", sig := { parameters := [], returnType := none }, accessFlags := 4, code := some k2c0 }
/-- java/lang/Record -/
def k2 : Class := { plain "java/lang/Record" (some 0) with
  accessFlags := 1057
  interfaces := #[]
  cf := some (fileOf pool2 7 #[] #[{ accessFlags := 4, nameIndex := 5, descriptorIndex := 6, attributes := #[] }] 1057 2 #[] #[])
  fields := #[]
  methods := #[k2m0]
  instanceTypes := #[]
  staticTypes := #[]
  resolved := Array.replicate 22 none
  statics := none }

def pool3 : Array CpInfo := pool [(1, .methodref 2 3), (0, .class_ 4), (0, .nameAndType 5 6), (0, u "java/lang/Record"), (0, u "<init>"), (0, u "()V"), (0, .fieldref 8 9), (0, .class_ 10), (0, .nameAndType 11 12), (0, u "com/example/erstwhile_terms/erstwhileterms/variants/Run"), (0, u "words"), (0, u "[I"), (0, .methodref 14 15), (0, .class_ 16), (0, .nameAndType 17 18), (0, u "java/util/Arrays"), (0, u "copyOfRange"), (0, u "([III)[I"), (0, .methodref 8 20), (0, .nameAndType 5 21), (0, u "([I)V"), (2, u "of"), (0, u "([III)Lcom/example/erstwhile_terms/erstwhileterms/variants/Run;"), (22, u "()[I")] 3

def k3c0 : Code := { maxStack := 2, maxLocals := 2, code := prog_37_method_1_code, exceptionTable := #[], attributes := #[] }
def k3m0 : Method := { name := "<init>", desc := "([I)V", sig := { parameters := [(.array .int)], returnType := none }, accessFlags := 0, code := some k3c0 }
def k3c1 : Code := { maxStack := 6, maxLocals := 3, code := prog_37_method_2_code, exceptionTable := #[], attributes := #[] }
def k3m1 : Method := { name := "of", desc := "([III)Lcom/example/erstwhile_terms/erstwhileterms/variants/Run;", sig := { parameters := [(.array .int), .int, .int], returnType := some (.object "com/example/erstwhile_terms/erstwhileterms/variants/Run") }, accessFlags := 8, code := some k3c1 }
def k3c2 : Code := { maxStack := 1, maxLocals := 1, code := prog_37_method_8_code, exceptionTable := #[], attributes := #[] }
def k3m2 : Method := { name := "words", desc := "()[I", sig := { parameters := [], returnType := some (.array .int) }, accessFlags := 1, code := some k3c2 }
/-- com/example/erstwhile_terms/erstwhileterms/variants/Run -/
def k3 : Class := { plain "com/example/erstwhile_terms/erstwhileterms/variants/Run" (some 2) with
  accessFlags := 48
  interfaces := #[]
  cf := some (fileOf pool3 8 #[] #[{ accessFlags := 0, nameIndex := 5, descriptorIndex := 21, attributes := #[] }, { accessFlags := 8, nameIndex := 24, descriptorIndex := 25, attributes := #[] }, { accessFlags := 1, nameIndex := 11, descriptorIndex := 48, attributes := #[] }] 48 2 #[] #[{ accessFlags := 18, nameIndex := 11, descriptorIndex := 12, attributes := #[] }])
  fields := #[{ name := "words", type := (.array .int), accessFlags := 18, slot := 0, constantValue := 0 }]
  methods := #[k3m0, k3m1, k3m2]
  instanceTypes := #[(.array .int)]
  staticTypes := #[]
  resolved := Array.replicate 52 none
  statics := none }

def pool4 : Array CpInfo := pool [(2, .class_ 4), (1, u "java/lang/Object"), (0, u "<init>"), (0, u "()V"), (7, .class_ 16), (1, u "java/util/Arrays"), (57, .class_ 76), (1, u "java/util/Arrays$NaturalOrder"), (32, u "()Ljava/lang/Object;"), (3, .class_ 115), (1, u "java/util/Arrays$LegacyMergeSort"), (1, u "Z"), (10, .nameAndType 129 109), (0, u "clone"), (9, u "copyOfRange"), (10, .methodref 151 152), (0, .class_ 153), (0, .nameAndType 154 155), (0, u "java/lang/System"), (0, u "arraycopy"), (0, u "(Ljava/lang/Object;ILjava/lang/Object;II)V"), (148, .methodref 305 306), (0, .class_ 307), (0, .nameAndType 308 309), (0, u "java/lang/Math"), (0, u "min"), (0, u "(II)I"), (6, .methodref 317 128), (0, .class_ 318), (0, u "[I"), (24, .methodref 14 344), (0, .nameAndType 345 346), (0, u "checkLength"), (0, u "(II)V"), (4, .methodref 14 352), (0, .nameAndType 353 354), (0, u "copyOfRangeInt"), (0, u "([III)[I"), (20, .class_ 376), (0, u "java/util/Arrays$ArrayList"), (68, u "$assertionsDisabled"), (269, u "MIN_ARRAY_SORT_GRAN"), (0, u "I"), (2, u "INSERTIONSORT_THRESHOLD"), (255, .class_ 976), (0, u "java/util/Arrays$ArrayItr")] 52

def k4m0 : Method := { name := "<init>", desc := "()V", sig := { parameters := [], returnType := none }, accessFlags := 2, code := none }
def k4c1 : Code := { maxStack := 4, maxLocals := 2, code := jdk_65_method_131_code, exceptionTable := #[], attributes := #[] }
def k4m1 : Method := { name := "checkLength", desc := "(II)V", sig := { parameters := [.int, .int], returnType := none }, accessFlags := 10, code := some k4c1 }
def k4c2 : Code := { maxStack := 3, maxLocals := 3, code := jdk_65_method_136_code, exceptionTable := #[], attributes := #[] }
def k4m2 : Method := { name := "copyOfRange", desc := "([III)[I", sig := { parameters := [(.array .int), .int, .int], returnType := some (.array .int) }, accessFlags := 9, code := some k4c2 }
def k4c3 : Code := { maxStack := 6, maxLocals := 5, code := jdk_65_method_137_code, exceptionTable := #[], attributes := #[] }
def k4m3 : Method := { name := "copyOfRangeInt", desc := "([III)[I", sig := { parameters := [(.array .int), .int, .int], returnType := some (.array .int) }, accessFlags := 10, code := some k4c3 }
/-- java/util/Arrays -/
def k4 : Class := { plain "java/util/Arrays" (some 0) with
  accessFlags := 49
  interfaces := #[]
  cf := some (fileOf pool4 14 #[.nestMembers #[975, 375, 113, 74]] #[{ accessFlags := 2, nameIndex := 5, descriptorIndex := 6, attributes := #[] }, { accessFlags := 10, nameIndex := 345, descriptorIndex := 346, attributes := #[] }, { accessFlags := 9, nameIndex := 139, descriptorIndex := 354, attributes := #[] }, { accessFlags := 10, nameIndex := 353, descriptorIndex := 354, attributes := #[] }] 49 2 #[] #[{ accessFlags := 26, nameIndex := 715, descriptorIndex := 716, attributes := #[] }, { accessFlags := 26, nameIndex := 719, descriptorIndex := 716, attributes := #[] }, { accessFlags := 4120, nameIndex := 445, descriptorIndex := 117, attributes := #[] }])
  fields := #[{ name := "MIN_ARRAY_SORT_GRAN", type := .int, accessFlags := 26, slot := 0, constantValue := 0 }, { name := "INSERTIONSORT_THRESHOLD", type := .int, accessFlags := 26, slot := 1, constantValue := 0 }, { name := "$assertionsDisabled", type := .boolean, accessFlags := 4120, slot := 2, constantValue := 0 }]
  methods := #[k4m0, k4m1, k4m2, k4m3]
  instanceTypes := #[]
  staticTypes := #[.int, .int, .boolean]
  resolved := Array.replicate 1029 none
  statics := none }

def pool5 : Array CpInfo := pool [(1, .class_ 2), (0, u "java/lang/Math"), (1, .class_ 6), (1, u "java/lang/Object"), (0, u "<init>"), (0, u "()V"), (89, .class_ 100), (1, u "java/lang/Math$RandomNumberGeneratorHolder"), (71, u "negativeZeroFloatBits"), (0, u "J"), (2, u "negativeZeroDoubleBits"), (24, u "min"), (43, u "$assertionsDisabled"), (0, u "Z"), (88, u "(II)I"), (2, u "twoToTheDoubleScaleDown"), (0, u "D"), (4, u "twoToTheDoubleScaleUp"), (9, u "E"), (3, u "PI"), (2, u "TAU"), (2, u "DEGREES_TO_RADIANS"), (0, u "RADIANS_TO_DEGREES")] 94

def k5m0 : Method := { name := "<init>", desc := "()V", sig := { parameters := [], returnType := none }, accessFlags := 2, code := none }
def k5c1 : Code := { maxStack := 2, maxLocals := 2, code := jdk_29_method_69_code, exceptionTable := #[], attributes := #[] }
def k5m1 : Method := { name := "min", desc := "(II)I", sig := { parameters := [.int, .int], returnType := some .int }, accessFlags := 9, code := some k5c1 }
/-- java/lang/Math -/
def k5 : Class := { plain "java/lang/Math" (some 0) with
  accessFlags := 49
  interfaces := #[]
  cf := some (fileOf pool5 1 #[.nestMembers #[98]] #[{ accessFlags := 2, nameIndex := 7, descriptorIndex := 8, attributes := #[] }, { accessFlags := 9, nameIndex := 201, descriptorIndex := 335, attributes := #[] }] 49 4 #[] #[{ accessFlags := 25, nameIndex := 354, descriptorIndex := 339, attributes := #[] }, { accessFlags := 25, nameIndex := 358, descriptorIndex := 339, attributes := #[] }, { accessFlags := 25, nameIndex := 361, descriptorIndex := 339, attributes := #[] }, { accessFlags := 26, nameIndex := 364, descriptorIndex := 339, attributes := #[] }, { accessFlags := 26, nameIndex := 365, descriptorIndex := 339, attributes := #[] }, { accessFlags := 26, nameIndex := 172, descriptorIndex := 173, attributes := #[] }, { accessFlags := 26, nameIndex := 176, descriptorIndex := 173, attributes := #[] }, { accessFlags := 8, nameIndex := 344, descriptorIndex := 339, attributes := #[] }, { accessFlags := 8, nameIndex := 338, descriptorIndex := 339, attributes := #[] }, { accessFlags := 4120, nameIndex := 245, descriptorIndex := 246, attributes := #[] }])
  fields := #[{ name := "E", type := .double, accessFlags := 25, slot := 0, constantValue := 0 }, { name := "PI", type := .double, accessFlags := 25, slot := 1, constantValue := 0 }, { name := "TAU", type := .double, accessFlags := 25, slot := 2, constantValue := 0 }, { name := "DEGREES_TO_RADIANS", type := .double, accessFlags := 26, slot := 3, constantValue := 0 }, { name := "RADIANS_TO_DEGREES", type := .double, accessFlags := 26, slot := 4, constantValue := 0 }, { name := "negativeZeroFloatBits", type := .long, accessFlags := 26, slot := 5, constantValue := 0 }, { name := "negativeZeroDoubleBits", type := .long, accessFlags := 26, slot := 6, constantValue := 0 }, { name := "twoToTheDoubleScaleUp", type := .double, accessFlags := 8, slot := 7, constantValue := 0 }, { name := "twoToTheDoubleScaleDown", type := .double, accessFlags := 8, slot := 8, constantValue := 0 }, { name := "$assertionsDisabled", type := .boolean, accessFlags := 4120, slot := 9, constantValue := 0 }]
  methods := #[k5m0, k5m1]
  instanceTypes := #[]
  staticTypes := #[.double, .double, .double, .double, .double, .long, .long, .double, .double, .boolean]
  resolved := Array.replicate 460 none
  statics := none }

def pool6 : Array CpInfo := pool [(2, .class_ 4), (1, u "java/lang/Object"), (0, u "<init>"), (0, u "()V"), (1, .class_ 10), (1, u "java/lang/System"), (0, u "allowSecurityManager"), (0, u "I"), (16, u "cons"), (0, u "Ljava/io/Console;"), (77, .class_ 110), (1, u "java/lang/System$CallersHolder"), (43, u "initialErrStream"), (0, u "Ljava/io/PrintStream;"), (19, u "security"), (0, u "Ljava/lang/SecurityManager;"), (31, .class_ 209), (0, u "java/lang/System$1"), (7, u "props"), (0, u "Ljava/util/Properties;"), (2, u "lineSeparator"), (0, u "Ljava/lang/String;"), (96, .class_ 321), (1, u "java/lang/System$LoggerFinder"), (5, .class_ 328), (0, u "java/lang/System$Logger"), (67, u "err"), (2, u "out"), (91, u "notSupportedJnuEncoding"), (15, u "in"), (17, u "initialIn"), (0, u "Ljava/io/InputStream;"), (35, u "bootLayer"), (0, u "Ljava/lang/ModuleLayer;"), (99, .class_ 664), (0, u "java/lang/System$2"), (9, u "NEVER"), (2, u "MAYBE"), (49, u "arraycopy"), (0, u "(Ljava/lang/Object;ILjava/lang/Object;II)V"), (72, .class_ 802), (0, u "java/lang/System$Logger$Level")] 31

def k6m0 : Method := { name := "<init>", desc := "()V", sig := { parameters := [], returnType := none }, accessFlags := 2, code := none }
def k6m1 : Method := { name := "arraycopy", desc := "(Ljava/lang/Object;ILjava/lang/Object;II)V", sig := { parameters := [(.object "java/lang/Object"), .int, (.object "java/lang/Object"), .int, .int], returnType := none }, accessFlags := 265, code := none }
/-- java/lang/System -/
def k6 : Class := { plain "java/lang/System" (some 0) with
  accessFlags := 49
  interfaces := #[]
  cf := some (fileOf pool6 8 #[.nestMembers #[319, 327, 801, 108, 663, 208]] #[{ accessFlags := 2, nameIndex := 5, descriptorIndex := 6, attributes := #[] }, { accessFlags := 265, nameIndex := 727, descriptorIndex := 728, attributes := #[] }] 49 2 #[] #[{ accessFlags := 25, nameIndex := 507, descriptorIndex := 526, attributes := #[] }, { accessFlags := 25, nameIndex := 399, descriptorIndex := 155, attributes := #[] }, { accessFlags := 25, nameIndex := 396, descriptorIndex := 155, attributes := #[] }, { accessFlags := 10, nameIndex := 525, descriptorIndex := 526, attributes := #[] }, { accessFlags := 26, nameIndex := 674, descriptorIndex := 12, attributes := #[] }, { accessFlags := 26, nameIndex := 677, descriptorIndex := 12, attributes := #[] }, { accessFlags := 10, nameIndex := 11, descriptorIndex := 12, attributes := #[] }, { accessFlags := 74, nameIndex := 175, descriptorIndex := 176, attributes := #[] }, { accessFlags := 10, nameIndex := 491, descriptorIndex := 222, attributes := #[] }, { accessFlags := 74, nameIndex := 29, descriptorIndex := 30, attributes := #[] }, { accessFlags := 74, nameIndex := 154, descriptorIndex := 155, attributes := #[] }, { accessFlags := 10, nameIndex := 217, descriptorIndex := 218, attributes := #[] }, { accessFlags := 10, nameIndex := 221, descriptorIndex := 222, attributes := #[] }, { accessFlags := 8, nameIndex := 562, descriptorIndex := 563, attributes := #[] }])
  fields := #[{ name := "in", type := (.object "java/io/InputStream"), accessFlags := 25, slot := 0, constantValue := 0 }, { name := "out", type := (.object "java/io/PrintStream"), accessFlags := 25, slot := 1, constantValue := 0 }, { name := "err", type := (.object "java/io/PrintStream"), accessFlags := 25, slot := 2, constantValue := 0 }, { name := "initialIn", type := (.object "java/io/InputStream"), accessFlags := 10, slot := 3, constantValue := 0 }, { name := "NEVER", type := .int, accessFlags := 26, slot := 4, constantValue := 0 }, { name := "MAYBE", type := .int, accessFlags := 26, slot := 5, constantValue := 0 }, { name := "allowSecurityManager", type := .int, accessFlags := 10, slot := 6, constantValue := 0 }, { name := "security", type := (.object "java/lang/SecurityManager"), accessFlags := 74, slot := 7, constantValue := 0 }, { name := "notSupportedJnuEncoding", type := (.object "java/lang/String"), accessFlags := 10, slot := 8, constantValue := 0 }, { name := "cons", type := (.object "java/io/Console"), accessFlags := 74, slot := 9, constantValue := 0 }, { name := "initialErrStream", type := (.object "java/io/PrintStream"), accessFlags := 74, slot := 10, constantValue := 0 }, { name := "props", type := (.object "java/util/Properties"), accessFlags := 10, slot := 11, constantValue := 0 }, { name := "lineSeparator", type := (.object "java/lang/String"), accessFlags := 10, slot := 12, constantValue := 0 }, { name := "bootLayer", type := (.object "java/lang/ModuleLayer"), accessFlags := 8, slot := 13, constantValue := 0 }]
  methods := #[k6m0, k6m1]
  instanceTypes := #[]
  staticTypes := #[(.object "java/io/InputStream"), (.object "java/io/PrintStream"), (.object "java/io/PrintStream"), (.object "java/io/InputStream"), .int, .int, .int, (.object "java/lang/SecurityManager"), (.object "java/lang/String"), (.object "java/io/Console"), (.object "java/io/PrintStream"), (.object "java/util/Properties"), (.object "java/lang/String"), (.object "java/lang/ModuleLayer")]
  resolved := Array.replicate 834 none
  statics := none }

def pool7 : Array CpInfo := pool [(1, .class_ 2), (0, u "java/lang/Cloneable"), (0, .class_ 4), (0, u "java/lang/Object")] 2

/-- java/lang/Cloneable -/
def k7 : Class := { plain "java/lang/Cloneable" (some 0) with
  accessFlags := 1537
  interfaces := #[]
  cf := some (fileOf pool7 1 #[] #[] 1537 3 #[] #[])
  fields := #[]
  methods := #[]
  instanceTypes := #[]
  staticTypes := #[]
  resolved := Array.replicate 7 none
  statics := none }

def pool8 : Array CpInfo := pool [(1, u "java/io/Serializable"), (0, .class_ 1), (0, u "java/lang/Object"), (0, .class_ 3)] 3

/-- java/io/Serializable -/
def k8 : Class := { plain "java/io/Serializable" (some 0) with
  accessFlags := 1537
  interfaces := #[]
  cf := some (fileOf pool8 2 #[] #[] 1537 4 #[] #[])
  fields := #[]
  methods := #[]
  instanceTypes := #[]
  staticTypes := #[]
  resolved := Array.replicate 8 none
  statics := none }

/-- the primitive byte -/
def k9 : Class := { plain "byte" none with kind := .primitive 'B', accessFlags := 0x411 }
/-- [B -/
def k10 : Class := { plain "[B" (some 0) with kind := .array 9 .byte, interfaces := #[7, 8], accessFlags := 1041 }

/-- the primitive int -/
def k11 : Class := { plain "int" none with kind := .primitive 'I', accessFlags := 0x411 }
/-- [I -/
def k12 : Class := { plain "[I" (some 0) with kind := .array 11 .int, interfaces := #[7, 8], accessFlags := 1041 }

def heap : Heap := #[]
def classes : Array Class := #[k0, k1, k2, k3, k4, k5, k6, k7, k8, k9, k10, k11, k12]
def interned : List (Array UInt16 × Addr) := []
def slotsUsed : Nat := 0
def theMethod : MethodId := ⟨1, 1⟩
def args0 : Array Value := #[.int 5, .int 6, .int 7, .int 8, .int 1, .int 2]
def aboutOver (below : List Frame) : State where
  vm := { classes := classes, interned := interned.toArray }
  heap := heap
  slotsUsed := slotsUsed
  threads := #[{ frames := .invoking theMethod args0 :: below }]
def below0 : List Frame := [.native { method := ⟨0, 0⟩, args := #[] }]
def about1 : State := aboutOver below0
def p0 : Program := .bare "" "" ""
def e0 : Env := launch0.env 0 0 0
theorem w_frames : about1.frames = Frame.invoking theMethod args0 :: below0 := rfl
set_option maxRecDepth 65536 in
theorem w_args : argsFit about1.vm theMethod args0 = true := by decide +kernel
set_option maxRecDepth 65536 in
theorem w_heap : heapFits about1 = true := by decide +kernel
set_option maxRecDepth 65536 in
theorem w_runnable : about1.curStatus? = some .runnable := by decide +kernel
set_option maxRecDepth 65536 in
theorem w_alone : about1.alone = true := by decide +kernel
set_option maxRecDepth 65536 in
theorem w_named : about1.methodNamed? x = some theMethod := by decide +kernel
set_option maxRecDepth 65536 in
theorem w_hears : about1.hears theMethod below0 = true := by decide +kernel
set_option maxRecDepth 65536 in
theorem w_ripe : about1.ripe theMethod args0 below0 = true := by decide +kernel
theorem w_running : about1.status = .running := rfl
set_option maxRecDepth 65536 in
theorem w_room : about1.hasRoom e0.platform room_1 = true :=
  launch0.hasRoom_least _ room_1 (by decide +kernel) (by decide +kernel) (by decide +kernel) (by decide +kernel) (by decide +kernel) (by decide +kernel)
theorem allAtoms_all (ts : List Jvm.Cond) (a : Array Jvm.Value) (st : Jvm.State) : (allAtoms ts).before a st = ts.all (fun c => c.before a st) := by
  induction ts with
  | nil => rfl
  | cons c t ih =>
    show (Jvm.Cond.and c (allAtoms t)).before a st = _
    rw [Jvm.Cond.before_and, ih, List.all_cons]
def words1 : List Jvm.Cond := Jvm.Cond.code x code maxLocals ret :: tables_1
/-- a 'code' word, met by the world's own term for the bytes: nothing is compared byte by byte -/
theorem code_word {y : MethodName} {bytes : ByteArray} {mx : Nat} {rt : Option FieldType} {a : Array Value} {s : State} {m : MethodId} {meth : Method} {c : Code} (h1 : s.methodNamed? y = some m) (h2 : s.vm.method? m = some meth) (h3 : meth.code = some c) (h4 : c.code = bytes)
    (h5 : (c.maxLocals == mx && c.exceptionTable.isEmpty && decide (c.maxStack ≤ mostOperands) && decide (meth.sig.returnType = rt) && !meth.locks && decide (parseMethodDescriptor y.desc = some meth.sig)) = true) : (Jvm.Cond.code y bytes mx rt).before a s = true := by
  simp only [Bool.and_eq_true, beq_iff_eq, Bool.not_eq_true', decide_eq_true_eq] at h5
  obtain ⟨⟨⟨⟨⟨g1, g2⟩, g3⟩, g4⟩, g5⟩, g6⟩ := h5
  simp [Cond.before, Cond.holds, Cond.value, h1, h2, h3, h4, g1, g2, g3, g4, g5, g6]
def isCode : Jvm.Cond → Bool
  | .code _ _ _ _ => true
  | _ => false
theorem all_split {L : List Jvm.Cond} {P : Jvm.Cond → Bool} (h1 : L.all (fun c => isCode c || P c) = true) (h2 : ∀ c ∈ L.filter isCode, P c = true) : L.all P = true := by
  refine List.all_eq_true.mpr fun c hc => ?_
  have h := List.all_eq_true.mp h1 c hc
  rcases Bool.eq_false_or_eq_true (isCode c) with hi | hi
  · exact h2 c (List.mem_filter.mpr ⟨hc, hi⟩)
  · simpa [hi] using h
set_option maxRecDepth 65536 in
theorem w_c0 : (Jvm.Cond.code x code maxLocals ret).before args0 about1 = true := code_word (m := ⟨1, 1⟩) (meth := k1m1) (c := k1c1) (by decide +kernel) rfl rfl rfl (by decide +kernel)
set_option maxRecDepth 65536 in
theorem w_c1 : (Jvm.Cond.code ({ cls := "com/example/erstwhile_terms/erstwhileterms/variants/Run", name := "of", desc := "([III)Lcom/example/erstwhile_terms/erstwhileterms/variants/Run;" } : Jvm.MethodName) prog_37_method_2_code (3 : Nat) (Option.some (Jvm.ClassFile.FieldType.object "com/example/erstwhile_terms/erstwhileterms/variants/Run"))).before args0 about1 = true := code_word (m := ⟨3, 1⟩) (meth := k3m1) (c := k3c1) (by decide +kernel) rfl rfl rfl (by decide +kernel)
set_option maxRecDepth 65536 in
theorem w_c2 : (Jvm.Cond.code ({ cls := "java/util/Arrays", name := "copyOfRange", desc := "([III)[I" } : Jvm.MethodName) jdk_65_method_136_code (3 : Nat) (Option.some (Jvm.ClassFile.FieldType.array Jvm.ClassFile.FieldType.int))).before args0 about1 = true := code_word (m := ⟨4, 2⟩) (meth := k4m2) (c := k4c2) (by decide +kernel) rfl rfl rfl (by decide +kernel)
set_option maxRecDepth 65536 in
theorem w_c3 : (Jvm.Cond.code ({ cls := "java/util/Arrays", name := "copyOfRangeInt", desc := "([III)[I" } : Jvm.MethodName) jdk_65_method_137_code (5 : Nat) (Option.some (Jvm.ClassFile.FieldType.array Jvm.ClassFile.FieldType.int))).before args0 about1 = true := code_word (m := ⟨4, 3⟩) (meth := k4m3) (c := k4c3) (by decide +kernel) rfl rfl rfl (by decide +kernel)
set_option maxRecDepth 65536 in
theorem w_c4 : (Jvm.Cond.code ({ cls := "java/util/Arrays", name := "checkLength", desc := "(II)V" } : Jvm.MethodName) jdk_65_method_131_code (2 : Nat) (Option.none : Option Jvm.ClassFile.FieldType)).before args0 about1 = true := code_word (m := ⟨4, 1⟩) (meth := k4m1) (c := k4c1) (by decide +kernel) rfl rfl rfl (by decide +kernel)
set_option maxRecDepth 65536 in
theorem w_c5 : (Jvm.Cond.code ({ cls := "java/lang/Math", name := "min", desc := "(II)I" } : Jvm.MethodName) jdk_29_method_69_code (2 : Nat) (Option.some Jvm.ClassFile.FieldType.int)).before args0 about1 = true := code_word (m := ⟨5, 1⟩) (meth := k5m1) (c := k5c1) (by decide +kernel) rfl rfl rfl (by decide +kernel)
set_option maxRecDepth 65536 in
theorem w_c6 : (Jvm.Cond.code ({ cls := "com/example/erstwhile_terms/erstwhileterms/variants/Run", name := "<init>", desc := "([I)V" } : Jvm.MethodName) prog_37_method_1_code (2 : Nat) (Option.none : Option Jvm.ClassFile.FieldType)).before args0 about1 = true := code_word (m := ⟨3, 0⟩) (meth := k3m0) (c := k3c0) (by decide +kernel) rfl rfl rfl (by decide +kernel)
set_option maxRecDepth 65536 in
theorem w_c7 : (Jvm.Cond.code ({ cls := "java/lang/Record", name := "<init>", desc := "()V" } : Jvm.MethodName) jdk_30_method_1_code (1 : Nat) (Option.none : Option Jvm.ClassFile.FieldType)).before args0 about1 = true := code_word (m := ⟨2, 0⟩) (meth := k2m0) (c := k2c0) (by decide +kernel) rfl rfl rfl (by decide +kernel)
set_option maxRecDepth 65536 in
theorem w_c8 : (Jvm.Cond.code ({ cls := "java/lang/Object", name := "<init>", desc := "()V" } : Jvm.MethodName) object_method_1_code (1 : Nat) (Option.none : Option Jvm.ClassFile.FieldType)).before args0 about1 = true := code_word (m := ⟨0, 0⟩) (meth := k0m0) (c := k0c0) (by decide +kernel) rfl rfl rfl (by decide +kernel)
set_option maxRecDepth 65536 in
theorem w_c9 : (Jvm.Cond.code ({ cls := "com/example/erstwhile_terms/erstwhileterms/variants/Run", name := "words", desc := "()[I" } : Jvm.MethodName) prog_37_method_8_code (1 : Nat) (Option.some (Jvm.ClassFile.FieldType.array Jvm.ClassFile.FieldType.int))).before args0 about1 = true := code_word (m := ⟨3, 2⟩) (meth := k3m2) (c := k3c2) (by decide +kernel) rfl rfl rfl (by decide +kernel)
set_option maxRecDepth 65536 in
theorem w_c10 : (Jvm.Cond.code ({ cls := "com/example/erstwhile_terms/erstwhileterms/variants/RunOfPinLaw", name := "at", desc := "([I[IIII)Z" } : Jvm.MethodName) method_3_code (5 : Nat) (Option.some Jvm.ClassFile.FieldType.boolean)).before args0 about1 = true := code_word (m := ⟨1, 2⟩) (meth := k1m2) (c := k1c2) (by decide +kernel) rfl rfl rfl (by decide +kernel)
def codes1 : List Jvm.Cond := [Jvm.Cond.code x code maxLocals ret, Jvm.Cond.code ({ cls := "com/example/erstwhile_terms/erstwhileterms/variants/Run", name := "of", desc := "([III)Lcom/example/erstwhile_terms/erstwhileterms/variants/Run;" } : Jvm.MethodName) prog_37_method_2_code (3 : Nat) (Option.some (Jvm.ClassFile.FieldType.object "com/example/erstwhile_terms/erstwhileterms/variants/Run")), Jvm.Cond.code ({ cls := "java/util/Arrays", name := "copyOfRange", desc := "([III)[I" } : Jvm.MethodName) jdk_65_method_136_code (3 : Nat) (Option.some (Jvm.ClassFile.FieldType.array Jvm.ClassFile.FieldType.int)), Jvm.Cond.code ({ cls := "java/util/Arrays", name := "copyOfRangeInt", desc := "([III)[I" } : Jvm.MethodName) jdk_65_method_137_code (5 : Nat) (Option.some (Jvm.ClassFile.FieldType.array Jvm.ClassFile.FieldType.int)), Jvm.Cond.code ({ cls := "java/util/Arrays", name := "checkLength", desc := "(II)V" } : Jvm.MethodName) jdk_65_method_131_code (2 : Nat) (Option.none : Option Jvm.ClassFile.FieldType), Jvm.Cond.code ({ cls := "java/lang/Math", name := "min", desc := "(II)I" } : Jvm.MethodName) jdk_29_method_69_code (2 : Nat) (Option.some Jvm.ClassFile.FieldType.int), Jvm.Cond.code ({ cls := "com/example/erstwhile_terms/erstwhileterms/variants/Run", name := "<init>", desc := "([I)V" } : Jvm.MethodName) prog_37_method_1_code (2 : Nat) (Option.none : Option Jvm.ClassFile.FieldType), Jvm.Cond.code ({ cls := "java/lang/Record", name := "<init>", desc := "()V" } : Jvm.MethodName) jdk_30_method_1_code (1 : Nat) (Option.none : Option Jvm.ClassFile.FieldType), Jvm.Cond.code ({ cls := "java/lang/Object", name := "<init>", desc := "()V" } : Jvm.MethodName) object_method_1_code (1 : Nat) (Option.none : Option Jvm.ClassFile.FieldType), Jvm.Cond.code ({ cls := "com/example/erstwhile_terms/erstwhileterms/variants/Run", name := "words", desc := "()[I" } : Jvm.MethodName) prog_37_method_8_code (1 : Nat) (Option.some (Jvm.ClassFile.FieldType.array Jvm.ClassFile.FieldType.int)), Jvm.Cond.code ({ cls := "com/example/erstwhile_terms/erstwhileterms/variants/RunOfPinLaw", name := "at", desc := "([I[IIII)Z" } : Jvm.MethodName) method_3_code (5 : Nat) (Option.some Jvm.ClassFile.FieldType.boolean)]
set_option maxRecDepth 65536 in
theorem codes_eq : words1.filter isCode = codes1 := rfl
theorem w_codes : ∀ c ∈ words1.filter isCode, c.before args0 about1 = true := by
  rw [codes_eq]
  intro c hc
  simp only [codes1, List.mem_cons, List.not_mem_nil, or_false] at hc
  rcases hc with rfl | rfl | rfl | rfl | rfl | rfl | rfl | rfl | rfl | rfl | rfl
  · exact w_c0
  · exact w_c1
  · exact w_c2
  · exact w_c3
  · exact w_c4
  · exact w_c5
  · exact w_c6
  · exact w_c7
  · exact w_c8
  · exact w_c9
  · exact w_c10
set_option maxRecDepth 65536 in
theorem w_t1 : (words1.take 24).all (fun c => isCode c || c.before args0 about1) = true := by decide +kernel
set_option maxRecDepth 65536 in
theorem w_t2 : ((words1.drop 24).take 24).all (fun c => isCode c || c.before args0 about1) = true := by decide +kernel
set_option maxRecDepth 65536 in
theorem w_t3 : ((words1.drop 24).drop 24).all (fun c => isCode c || c.before args0 about1) = true := by decide +kernel
theorem w_tables : (allAtoms (Jvm.Cond.code x code maxLocals ret :: tables_1)).before args0 about1 = true := by
  rw [allAtoms_all]
  show words1.all (fun c => c.before args0 about1) = true
  refine all_split ?_ w_codes
  rw [← List.take_append_drop 24 words1, List.all_append, w_t1, ← List.take_append_drop 24 (words1.drop 24), List.all_append, w_t2, w_t3]
  rfl
set_option maxRecDepth 65536 in
theorem w_case : (Jvm.Cond.and given_1 narrow_1).before args0 about1 = true := by decide +kernel
theorem w_applies : (headSpec (Jvm.Cond.code x code maxLocals ret :: tables_1) room_1).applies x e0.platform about1 = true :=
  (Spec.applies_iff w_frames).mpr ⟨w_running, w_runnable, w_alone, w_named, w_hears, w_ripe, w_room, w_tables⟩
theorem atStart : AtStart classFile x code maxLocals ret World_1 tables_1 room_1 Calls_1 rest_1 Pre_1 launch0 p0 e0 about1 theMethod args0 below0 :=
  ⟨lists_1, trivial, launch0.admits_env _ _ _, launch0.least_env, fairChoices_fair.cas, fairChoices_fair.clock, w_frames, w_args, w_heap, w_applies, trivial, trivial, w_case⟩
end start1
theorem witness_1 : WitnessClaimed_1 := ⟨start1.p0, start1.e0, start1.about1, start1.theMethod, start1.args0, start1.below0, start1.atStart⟩
end Jvm.Pilot.@@N@@
