import JvmDerived
import JvmDerived.Pilot.@@N@@Statement
import JvmDerived.Pilot.@@N@@Code
set_option linter.unusedVariables false
set_option linter.unusedSimpArgs false
namespace Jvm.Pilot.@@N@@
open Jvm Jvm.ClassFile Sem Op Lib Jvm.Free Jvm.Stand Jvm.LawKit Jvm.RoadKit Bundle Jvm.Pilot.@@N@@.Jvm.D
section OwnGo
variable {p : Program} {l : Launch} {e : Env} {R : Room} {s : State} {m : MethodId} {args : Array Value} {below : List Frame} {meth : Method} {c : Code} {T : State} {locs : List Loc} {cells slots : Nat}
/-- from S the run ends, returned, with Q -/
def own_Go (p : Program) (e : Env) (below : List Frame) (s : State) (Q : Option Value → Heap → List Loc → Prop) (cs ss : Nat) (S : State) : Prop :=
  ∃ (U : State) (o : Outcome), Steps p.tables e below S U ∧ U.status = .running ∧ Ended U below o ∧ ∃ v L, o = .returned v ∧ Q v U.heap L ∧ FrameEnd s o U L cs ss
variable {Q : Option Value → Heap → List Loc → Prop} {cs ss : Nat} {S S' : State}
theorem own_via (st : ∀ t, Steps p.tables e below S' t → Steps p.tables e below S t) (k : own_Go p e below s Q cs ss S') : own_Go p e below s Q cs ss S := by
  obtain ⟨U, o, h, r⟩ := k; exact ⟨U, o, st U h, r⟩
theorem own_viaT (st : Steps p.tables e below S S') (k : own_Go p e below s Q cs ss S') : own_Go p e below s Q cs ss S := own_via (fun _ h => st.trans h) k
theorem own_goV (X : Stand p l e R s m args below meth c T locs cells slots) (hx : p.tables.exec = Jvm.exec) {pc : Nat} {Ls : Array Slot} (hret : meth.sig.returnType = none) (hd : decode c.code pc = .ok (.return_, 1)) (hk : meth.locks = false) (hc : cells ≤ cs) (hs : slots ≤ ss) (hQ : Q none T.heap locs) :
    own_Go p e below s Q cs ss (T.setTop (mkF m pc Ls [])) := by
  obtain ⟨fs, hr, hrun, hended, hW, hsame⟩ := X.leave (v := none) (fun _ => rfl) hk
  exact ⟨_, _, X.returnOut hx hret hd hr, hrun, hended, _, _, rfl, hQ, ⟨_, rfl⟩, hW, hsame.mono hc hs⟩
theorem own_goN (X : Stand p l e R s m args below meth c T locs cells slots) (hx : p.tables.exec = Jvm.exec) {pc : Nat} {Ls : Array Slot} {z : Int32} {t : FieldType} {rest : List Value} (hret : meth.sig.returnType = some t) (ht : t = .boolean ∨ t = .byte ∨ t = .char ∨ t = .short) (hd : decode c.code pc = .ok (.ireturn, 1)) (hk : meth.locks = false) (hc : cells ≤ cs) (hs : slots ≤ ss) (hQ : Q (some (.int (nar t z))) T.heap locs) :
    own_Go p e below s Q cs ss (T.setTop (mkF m pc Ls (.int z :: rest))) := by
  obtain ⟨fs, hr, hrun, hended, hW, hsame⟩ := X.leave (v := some (.int (nar t z))) (fun h => by rw [hret] at h; cases h) hk
  exact ⟨_, _, retN X hx hret ht hd hr, hrun, hended, _, _, rfl, hQ, ⟨_, rfl⟩, hW, hsame.mono hc hs⟩
theorem own_goI (X : Stand p l e R s m args below meth c T locs cells slots) (hx : p.tables.exec = Jvm.exec) {pc : Nat} {Ls : Array Slot} {z : Int32} (hret : meth.sig.returnType = some .int) (hd : decode c.code pc = .ok (.ireturn, 1)) (hk : meth.locks = false) (hc : cells ≤ cs) (hs : slots ≤ ss) (hQ : Q (some (.int z)) T.heap locs) :
    own_Go p e below s Q cs ss (T.setTop (mkF m pc Ls [.int z])) := by
  obtain ⟨fs, hr, hrun, hended, hW, hsame⟩ := X.leave (v := some (.int z)) (fun h => by rw [hret] at h; cases h) hk
  exact ⟨_, _, X.ireturnOut hx hret rfl (Or.inl rfl) hd hr, hrun, hended, _, _, rfl, hQ, ⟨_, rfl⟩, hW, hsame.mono hc hs⟩
theorem own_goJ (X : Stand p l e R s m args below meth c T locs cells slots) (hx : p.tables.exec = Jvm.exec) {pc : Nat} {Ls : Array Slot} {z : Int64} (hret : meth.sig.returnType = some .long) (hd : decode c.code pc = .ok (.lreturn, 1)) (hk : meth.locks = false) (hc : cells ≤ cs) (hs : slots ≤ ss) (hQ : Q (some (.long z)) T.heap locs) :
    own_Go p e below s Q cs ss (T.setTop (mkF m pc Ls [.long z])) := by
  obtain ⟨fs, hr, hrun, hended, hW, hsame⟩ := X.leave (v := some (.long z)) (fun h => by rw [hret] at h; cases h) hk
  exact ⟨_, _, X.lreturnOut hx hret hd hr, hrun, hended, _, _, rfl, hQ, ⟨_, rfl⟩, hW, hsame.mono hc hs⟩
theorem own_goA (X : Stand p l e R s m args below meth c T locs cells slots) (hx : p.tables.exec = Jvm.exec) {pc : Nat} {Ls : Array Slot} {w : Value} {t : FieldType} (hw : w.isRef = true) (hret : meth.sig.returnType = some t) (ht : t.isReference = true) (hd : decode c.code pc = .ok (.areturn, 1)) (hk : meth.locks = false) (hc : cells ≤ cs) (hs : slots ≤ ss) (hQ : Q (some w) T.heap locs) :
    own_Go p e below s Q cs ss (T.setTop (mkF m pc Ls [w])) := by
  obtain ⟨fs, hr, hrun, hended, hW, hsame⟩ := X.leave (v := some w) (fun h => by rw [hret] at h; cases h) hk
  exact ⟨_, _, X.areturnOut hx hw hret ht hd hr, hrun, hended, _, _, rfl, hQ, ⟨_, rfl⟩, hW, hsame.mono hc hs⟩
theorem own_selP {s : State} {args : Array Value} {y y' : MethodName} (hs : (Cond.selects y'.cls y' y').before args s = true) (hc : y'.cls = y.cls) (hpriv : s.PrivateAt y) (hinst : (Cond.instanceMethod y).before args s = true) (hy : y.cls ≠ "java/lang/invoke/MethodHandle" ∧ y.cls ≠ "java/lang/invoke/VarHandle") : (Cond.selects y.cls y y).before args s = true := by
  obtain ⟨c2, r2, m2, -, -, q3, -, kP, hkP, hkPi⟩ := Cond.selects_spec hs
  exact selects_self_of_private (hc ▸ findClass_of_methodNamed q3) hkP hkPi hpriv hinst hy
end OwnGo
def o_i2l (x : Int32) : Int64 := x.toInt64
def o_l2i (x : Int64) : Int32 := x.toInt32
def o_i2b (x : Int32) : Int32 := x.toInt8.toInt32
def o_i2s (x : Int32) : Int32 := x.toInt16.toInt32
def o_i2c (x : Int32) : Int32 := x.toUInt32.toUInt16.toUInt32.toInt32
def o_ishl (x y : Int32) : Int32 := x <<< (y &&& 31)
def o_ishr (x y : Int32) : Int32 := x >>> (y &&& 31)
def o_iushr (x y : Int32) : Int32 := (x.toUInt32 >>> (y &&& 31).toUInt32).toInt32
def o_lshl (x : Int64) (y : Int32) : Int64 := x <<< (y &&& 0x3f).toInt64
def o_lshr (x : Int64) (y : Int32) : Int64 := x >>> (y &&& 0x3f).toInt64
def o_lushr (x : Int64) (y : Int32) : Int64 := (x.toUInt64 >>> (y &&& 0x3f).toInt64.toUInt64).toInt64
def o_irem (x y : Int32) : Int32 := x - (x / y) * y
def o_lrem (x y : Int64) : Int64 := x - (x / y) * y
def o_d0 : UInt64 := FP.dconst0
def o_d1 : UInt64 := FP.dconst1
abbrev lI (n : Int32) : Slot := .val (.int n)
abbrev lJ (n : Int64) : Slot := .val (.long n)
abbrev lD (n : UInt64) : Slot := .val (.double n)
abbrev lR (n : Addr) : Slot := .val (.ref n)
abbrev lU : Slot := .unset
abbrev lS : Slot := .second
theorem hwi {Z : State} {a0 : Array Value} (hw : ∀ d ∈ tables_1, d.before a0 Z = true) {d : Jvm.Cond} (i : Nat) (h : tables_1[i]? = some d) : d.before a0 Z = true := hw _ (List.mem_of_getElem? h)

def own_rk (u n : Int32) : Int64 := ((o_lshl (o_i2l u) (32 : Int32)) ||| (o_i2l n))
def own_dcv (y x : Int32) : Int32 := if y < x then (-1 : Int32) else if y = x then (0 : Int32) else (1 : Int32)
theorem own_dcE {c o : UInt64} {y x : Int32} (h1 : c = FP.i2d y) (h2 : o = FP.i2d x) (op : CmpOp) : cmpValue (FP.dcmp c o) op = own_dcv y x := by
  have h : FP.dcmp (FP.i2d y) (FP.i2d x) = some (compare y.toInt x.toInt) := Jvm.FP.Core.dcmp_int (Jvm.FP.Core.i2d_int y) (Jvm.FP.Core.i2d_int x)
  have h' : (compare y.toInt x.toInt) = if y.toInt < x.toInt then .lt else if y.toInt = x.toInt then .eq else .gt := rfl
  rw [h1, h2, h, h']
  unfold own_dcv
  by_cases a : y < x
  · rw [if_pos a, if_pos (Int32.lt_iff_toInt_lt.mp a)]; rfl
  · rw [if_neg a, if_neg (fun z => a (Int32.lt_iff_toInt_lt.mpr z))]
    by_cases b : y = x
    · rw [if_pos b, if_pos (congrArg Int32.toInt b)]; rfl
    · rw [if_neg b, if_neg (fun z => b (Int32.toInt_inj.mp z))]; rfl
theorem own_dcv_le {y x : Int32} (h : ¬ x < y) : ¬ (0 : Int32) < (own_dcv y x) := by
  unfold own_dcv
  by_cases a : y < x
  · rw [if_pos a]; decide
  · rw [if_neg a]
    by_cases b : y = x
    · rw [if_pos b]; decide
    · exfalso
      rw [Int32.lt_iff_toInt_lt] at h a
      rw [← Int32.toInt_inj] at b
      omega
theorem own_nn {n : Int32} {i : Nat} (h : n.toInt = i) : ¬ n < 0 ∧ n.toNatClampNeg = i := by
  constructor
  · rw [Int32.lt_iff_toInt_lt]; simp only [Int32.reduceToInt]; omega
  · simp only [Int32.toNatClampNeg]; omega
theorem own_lt64 {n : Int32} {i : Nat} (h : n.toInt = i) (hi : i < 4) : n < (64 : Int32) := by
  rw [Int32.lt_iff_toInt_lt]; simp only [Int32.reduceToInt]; omega
theorem own_ne64 {n : Int32} {i : Nat} (h : n.toInt = i) (hi : i < 4) : ¬ n = (64 : Int32) := by
  rw [← Int32.toInt_inj]; simp only [Int32.reduceToInt]; omega
theorem own_len4 {n i : Nat} {v : List Value} {x : Value} (h : n = i) (hi : i < 4) (hv : v.length = 4) : (v.take n ++ [x] ++ v.drop (n + 1)).length = 4 := by
  simp [List.length_take, List.length_drop]; omega
theorem own_g44 {v : List Value} {x d : Value} (h : v.length = 45) : (v.set 44 x).getD ((44 : Int32)).toNatClampNeg d = x := by
  show (v.set 44 x).getD 44 d = x
  rw [List.getD_eq_getElem?_getD, List.getElem?_set]
  simp [h]
theorem own_cm {p v : Int32} (h : ((p &&& (7 : Int32)) + (1 : Int32)) = v) : ¬ v < (v - (1 : Int32)) := by
  have a := c_and p 7 (by decide)
  have b := c_iadd (p &&& 7) 1; rw [h] at b
  have c := c_isub v 1
  have d := rng32 v
  have e := rng32 (v - 1)
  have o1 : (1 : Int32).toInt = 1 := rfl
  have o7 : (7 : Int32).toInt = 7 := rfl
  rw [Int32.lt_iff_toInt_lt]
  omega
theorem own_01 {P : Prop} [Decidable P] {v : Int32} (h : (if P then (0 : Int32) else (1 : Int32)) = v) : v = (0 : Int32) ∨ v = (1 : Int32) := by
  by_cases q : P
  · rw [if_pos q] at h; exact Or.inl h.symm
  · rw [if_neg q] at h; exact Or.inr h.symm

theorem d3_0 : decode jdk_29_method_70_code 0 = .ok (.lload_n 0, 1) := by decide +kernel
theorem d3_1 : decode jdk_29_method_70_code 1 = .ok (.lload_n 2, 1) := by decide +kernel
theorem d3_2 : decode jdk_29_method_70_code 2 = .ok (.lcmp, 1) := by decide +kernel
theorem d3_3 : decode jdk_29_method_70_code 3 = .ok (.ifCond .gt 7, 3) := by decide +kernel
theorem d3_10 : decode jdk_29_method_70_code 10 = .ok (.lload_n 2, 1) := by decide +kernel
theorem d3_11 : decode jdk_29_method_70_code 11 = .ok (.lreturn, 1) := by decide +kernel
theorem d3_6 : decode jdk_29_method_70_code 6 = .ok (.lload_n 0, 1) := by decide +kernel
theorem d3_7 : decode jdk_29_method_70_code 7 = .ok (.goto 4, 3) := by decide +kernel
def own_minJ (p0 : Int64) (p1 : Int64) : Int64 := (if p1 < p0 then p1 else p0)
theorem ef_3 (m : MethodId) (x0 : Int64) (x1 : Int64) : entryFrame m #[(.long x0), (.long x1)] 4 = mkF m 0 #[.val (.long x0), .second, .val (.long x1), .second] [] := by first | (simp [entryFrame, mkF, argsToLocals, Value.category]; done) | rfl
def Q3 (Z : State) (p0 : Int64) (p1 : Int64) (h0 : Heap) (n0 : Nat) (v : Option Value) (h : Heap) (L : List Loc) : Prop := v = some (.long (own_minJ p0 p1)) ∧ Fr n0 L ∧ h = h0
set_option maxRecDepth 65536 in
set_option maxHeartbeats 40000000 in
theorem rm3 (l : Launch) (Z : State) (a0 : Array Value) (hw : ∀ d ∈ tables_1, d.before a0 Z = true) (ws : List Jvm.Cond) (p0 : Int64) (p1 : Int64) (h0 : Heap) (n0 : Nat) (Z0 : n0 ≤ h0.size) :
    MetFree l (⟨"java/lang/Math", "min", "(JJ)J"⟩ : MethodName) (head1 (Jvm.Cond.code (⟨"java/lang/Math", "min", "(JJ)J"⟩ : MethodName) jdk_29_method_70_code 4 (some .long) :: ws) ({ frames := 0, cells := 0, slots := 0, locals := 0 } : Room)) (fun q_ U => q_ = #[(.long p0), (.long p1)] ∧ Z.Warmed39 U.vm ∧ U.heap = h0) (fun _ _ _ _ _ => True) (fun _ U o U' => ∃ v L, o = .returned v ∧ Q3 Z p0 p1 h0 n0 v U'.heap L ∧ FrameEnd U o U' L ({ frames := 0, cells := 0, slots := 0, locals := 0 } : Room).cells ({ frames := 0, cells := 0, slots := 0, locals := 0 } : Room).slots) := by
  refine MetFree.of_bodySF (Jvm.Free.JP.mathPlain rfl (by decide +kernel)) hisR ?_
  intro p e s m args below meth c s₁ Bd hml0 hP hK
  obtain ⟨rfl, hZ, hh⟩ := hP
  have hx := Bd.exec
  have hby := Bd.bytes
  have hml : c.maxLocals = 4 := hml0
  have hown : s.vm.findClass "java/lang/Math" = some m.cls := findClass_of_methodNamed Bd.named
  have hnm := (name_of_methodNamed Bd.named Bd.method).1
  have X0 : Stand p l e ({ frames := 0, cells := 0, slots := 0, locals := 0 } : Room) s m #[(.long p0), (.long p1)] below meth c s₁ [] 0 0 := Stand.of_body Bd
  have e0 : s₁.heap = h0 := by rw [← hh, Bd.state]; rfl
  have N0 := Fr.nil n0
  show own_Go p e below s (Q3 Z p0 p1 h0 n0) ({ frames := 0, cells := 0, slots := 0, locals := 0 } : Room).cells ({ frames := 0, cells := 0, slots := 0, locals := 0 } : Room).slots (s₁.setTop (entryFrame m #[(.long p0), (.long p1)] 4))
  refine own_via (fun t k => castTop (ef_3 m p0 p1) k) ?_
  show own_Go p e below s _ _ _ (s₁.setTop (mkF m 0 #[lJ p0, lS, lJ p1, lS] []))
  refine own_via (fun _ k => XS.lloadN X0.here hx rfl (hb hby d3_0) rfl k) ?_
  show own_Go p e below s _ _ _ (s₁.setTop (mkF m 1 #[lJ p0, lS, lJ p1, lS] [(.long p0)]))
  refine own_via (fun _ k => XS.lloadN X0.here hx rfl (hb hby d3_1) rfl k) ?_
  show own_Go p e below s _ _ _ (s₁.setTop (mkF m 2 #[lJ p0, lS, lJ p1, lS] [(.long p1), (.long p0)]))
  refine own_via (fun _ k => XS.lcmp X0.here hx rfl (hb hby d3_2) rfl k) ?_
  show own_Go p e below s _ _ _ (s₁.setTop (mkF m 3 #[lJ p0, lS, lJ p1, lS] [(.int (lcmpW p0 p1))]))
  by_cases hc1 : p1 < p0
  · refine own_via (fun _ k => XS.ifYes X0.here hx rfl (pc0 := 3) (pc' := 10) rfl (hb hby d3_3) rfl (Jvm.Free.XT.ll_gt_t hc1) (by decide) (by decide) k) ?_
    show own_Go p e below s _ _ _ (s₁.setTop (mkF m 10 #[lJ p0, lS, lJ p1, lS] []))
    refine own_via (fun _ k => XS.lloadN X0.here hx rfl (hb hby d3_10) rfl k) ?_
    show own_Go p e below s _ _ _ (s₁.setTop (mkF m 11 #[lJ p0, lS, lJ p1, lS] [(.long p1)]))
    exact own_goJ X0 hx Bd.returns (hb hby d3_11) Bd.notSynchronized (by decide) (by decide) (by rw [e0]; exact ⟨by rw [own_minJ, if_pos hc1] <;> rfl, N0, rfl⟩)
  · refine own_via (fun _ k => XS.ifNo X0.here hx rfl (hb hby d3_3) rfl (Jvm.Free.XT.ll_gt_f hc1) k) ?_
    show own_Go p e below s _ _ _ (s₁.setTop (mkF m 6 #[lJ p0, lS, lJ p1, lS] []))
    refine own_via (fun _ k => XS.lloadN X0.here hx rfl (hb hby d3_6) rfl k) ?_
    show own_Go p e below s _ _ _ (s₁.setTop (mkF m 7 #[lJ p0, lS, lJ p1, lS] [(.long p0)]))
    refine own_via (fun _ k => XS.goto X0.here hx rfl (pc0 := 7) (pc' := 11) rfl (hb hby d3_7) (by decide) (by decide) k) ?_
    show own_Go p e below s _ _ _ (s₁.setTop (mkF m 11 #[lJ p0, lS, lJ p1, lS] [(.long p0)]))
    exact own_goJ X0 hx Bd.returns (hb hby d3_11) Bd.notSynchronized (by decide) (by decide) (by rw [e0]; exact ⟨by rw [own_minJ, if_neg hc1] <;> rfl, N0, rfl⟩)
theorem d4_0 : decode jdk_29_method_69_code 0 = .ok (.iload_n 0, 1) := by decide +kernel
theorem d4_1 : decode jdk_29_method_69_code 1 = .ok (.iload_n 1, 1) := by decide +kernel
theorem d4_2 : decode jdk_29_method_69_code 2 = .ok (.if_icmp .gt 7, 3) := by decide +kernel
theorem d4_9 : decode jdk_29_method_69_code 9 = .ok (.iload_n 1, 1) := by decide +kernel
theorem d4_10 : decode jdk_29_method_69_code 10 = .ok (.ireturn, 1) := by decide +kernel
theorem d4_5 : decode jdk_29_method_69_code 5 = .ok (.iload_n 0, 1) := by decide +kernel
theorem d4_6 : decode jdk_29_method_69_code 6 = .ok (.goto 4, 3) := by decide +kernel
def own_min (p0 : Int32) (p1 : Int32) : Int32 := (if p1 < p0 then p1 else p0)
theorem ef_4 (m : MethodId) (x0 : Int32) (x1 : Int32) : entryFrame m #[(.int x0), (.int x1)] 2 = mkF m 0 #[.val (.int x0), .val (.int x1)] [] := by first | (simp [entryFrame, mkF, argsToLocals, Value.category]; done) | rfl
def Q4 (Z : State) (p0 : Int32) (p1 : Int32) (h0 : Heap) (n0 : Nat) (v : Option Value) (h : Heap) (L : List Loc) : Prop := v = some (.int (own_min p0 p1)) ∧ Fr n0 L ∧ h = h0
set_option maxRecDepth 65536 in
set_option maxHeartbeats 40000000 in
theorem rm4 (l : Launch) (Z : State) (a0 : Array Value) (hw : ∀ d ∈ tables_1, d.before a0 Z = true) (ws : List Jvm.Cond) (p0 : Int32) (p1 : Int32) (h0 : Heap) (n0 : Nat) (Z0 : n0 ≤ h0.size) :
    MetFree l (⟨"java/lang/Math", "min", "(II)I"⟩ : MethodName) (head1 (Jvm.Cond.code (⟨"java/lang/Math", "min", "(II)I"⟩ : MethodName) jdk_29_method_69_code 2 (some .int) :: ws) ({ frames := 0, cells := 0, slots := 0, locals := 0 } : Room)) (fun q_ U => q_ = #[(.int p0), (.int p1)] ∧ Z.Warmed39 U.vm ∧ U.heap = h0) (fun _ _ _ _ _ => True) (fun _ U o U' => ∃ v L, o = .returned v ∧ Q4 Z p0 p1 h0 n0 v U'.heap L ∧ FrameEnd U o U' L ({ frames := 0, cells := 0, slots := 0, locals := 0 } : Room).cells ({ frames := 0, cells := 0, slots := 0, locals := 0 } : Room).slots) := by
  refine MetFree.of_bodySF (Jvm.Free.JP.mathPlain rfl (by decide +kernel)) hisR ?_
  intro p e s m args below meth c s₁ Bd hml0 hP hK
  obtain ⟨rfl, hZ, hh⟩ := hP
  have hx := Bd.exec
  have hby := Bd.bytes
  have hml : c.maxLocals = 2 := hml0
  have hown : s.vm.findClass "java/lang/Math" = some m.cls := findClass_of_methodNamed Bd.named
  have hnm := (name_of_methodNamed Bd.named Bd.method).1
  have X0 : Stand p l e ({ frames := 0, cells := 0, slots := 0, locals := 0 } : Room) s m #[(.int p0), (.int p1)] below meth c s₁ [] 0 0 := Stand.of_body Bd
  have e0 : s₁.heap = h0 := by rw [← hh, Bd.state]; rfl
  have N0 := Fr.nil n0
  show own_Go p e below s (Q4 Z p0 p1 h0 n0) ({ frames := 0, cells := 0, slots := 0, locals := 0 } : Room).cells ({ frames := 0, cells := 0, slots := 0, locals := 0 } : Room).slots (s₁.setTop (entryFrame m #[(.int p0), (.int p1)] 2))
  refine own_via (fun t k => castTop (ef_4 m p0 p1) k) ?_
  show own_Go p e below s _ _ _ (s₁.setTop (mkF m 0 #[lI p0, lI p1] []))
  refine own_via (fun _ k => XS.iloadN X0.here hx rfl (hb hby d4_0) rfl k) ?_
  show own_Go p e below s _ _ _ (s₁.setTop (mkF m 1 #[lI p0, lI p1] [(.int p0)]))
  refine own_via (fun _ k => XS.iloadN X0.here hx rfl (hb hby d4_1) rfl k) ?_
  show own_Go p e below s _ _ _ (s₁.setTop (mkF m 2 #[lI p0, lI p1] [(.int p1), (.int p0)]))
  by_cases hc1 : p1 < p0
  · refine own_via (fun _ k => XS.icmpYes X0.here hx rfl (pc0 := 2) (pc' := 9) rfl (hb hby d4_2) rfl (Jvm.Free.XT.ii_gt_t hc1) (by decide) (by decide) k) ?_
    show own_Go p e below s _ _ _ (s₁.setTop (mkF m 9 #[lI p0, lI p1] []))
    refine own_via (fun _ k => XS.iloadN X0.here hx rfl (hb hby d4_9) rfl k) ?_
    show own_Go p e below s _ _ _ (s₁.setTop (mkF m 10 #[lI p0, lI p1] [(.int p1)]))
    exact own_goI X0 hx Bd.returns (hb hby d4_10) Bd.notSynchronized (by decide) (by decide) (by rw [e0]; exact ⟨by rw [own_min, if_pos hc1] <;> rfl, N0, rfl⟩)
  · refine own_via (fun _ k => XS.icmpNo X0.here hx rfl (hb hby d4_2) rfl (Jvm.Free.XT.ii_gt_f hc1) k) ?_
    show own_Go p e below s _ _ _ (s₁.setTop (mkF m 5 #[lI p0, lI p1] []))
    refine own_via (fun _ k => XS.iloadN X0.here hx rfl (hb hby d4_5) rfl k) ?_
    show own_Go p e below s _ _ _ (s₁.setTop (mkF m 6 #[lI p0, lI p1] [(.int p0)]))
    refine own_via (fun _ k => XS.goto X0.here hx rfl (pc0 := 6) (pc' := 10) rfl (hb hby d4_6) (by decide) (by decide) k) ?_
    show own_Go p e below s _ _ _ (s₁.setTop (mkF m 10 #[lI p0, lI p1] [(.int p0)]))
    exact own_goI X0 hx Bd.returns (hb hby d4_10) Bd.notSynchronized (by decide) (by decide) (by rw [e0]; exact ⟨by rw [own_min, if_neg hc1] <;> rfl, N0, rfl⟩)
theorem d7_0 : decode jdk_29_method_65_code 0 = .ok (.iload_n 0, 1) := by decide +kernel
theorem d7_1 : decode jdk_29_method_65_code 1 = .ok (.iload_n 1, 1) := by decide +kernel
theorem d7_2 : decode jdk_29_method_65_code 2 = .ok (.if_icmp .lt 7, 3) := by decide +kernel
theorem d7_9 : decode jdk_29_method_65_code 9 = .ok (.iload_n 1, 1) := by decide +kernel
theorem d7_10 : decode jdk_29_method_65_code 10 = .ok (.ireturn, 1) := by decide +kernel
theorem d7_5 : decode jdk_29_method_65_code 5 = .ok (.iload_n 0, 1) := by decide +kernel
theorem d7_6 : decode jdk_29_method_65_code 6 = .ok (.goto 4, 3) := by decide +kernel
def own_max (p0 : Int32) (p1 : Int32) : Int32 := (if p0 < p1 then p1 else p0)
theorem ef_7 (m : MethodId) (x0 : Int32) (x1 : Int32) : entryFrame m #[(.int x0), (.int x1)] 2 = mkF m 0 #[.val (.int x0), .val (.int x1)] [] := by first | (simp [entryFrame, mkF, argsToLocals, Value.category]; done) | rfl
def Q7 (Z : State) (p0 : Int32) (p1 : Int32) (h0 : Heap) (n0 : Nat) (v : Option Value) (h : Heap) (L : List Loc) : Prop := v = some (.int (own_max p0 p1)) ∧ Fr n0 L ∧ h = h0
set_option maxRecDepth 65536 in
set_option maxHeartbeats 40000000 in
theorem rm7 (l : Launch) (Z : State) (a0 : Array Value) (hw : ∀ d ∈ tables_1, d.before a0 Z = true) (ws : List Jvm.Cond) (p0 : Int32) (p1 : Int32) (h0 : Heap) (n0 : Nat) (Z0 : n0 ≤ h0.size) :
    MetFree l (⟨"java/lang/Math", "max", "(II)I"⟩ : MethodName) (head1 (Jvm.Cond.code (⟨"java/lang/Math", "max", "(II)I"⟩ : MethodName) jdk_29_method_65_code 2 (some .int) :: ws) ({ frames := 0, cells := 0, slots := 0, locals := 0 } : Room)) (fun q_ U => q_ = #[(.int p0), (.int p1)] ∧ Z.Warmed39 U.vm ∧ U.heap = h0) (fun _ _ _ _ _ => True) (fun _ U o U' => ∃ v L, o = .returned v ∧ Q7 Z p0 p1 h0 n0 v U'.heap L ∧ FrameEnd U o U' L ({ frames := 0, cells := 0, slots := 0, locals := 0 } : Room).cells ({ frames := 0, cells := 0, slots := 0, locals := 0 } : Room).slots) := by
  refine MetFree.of_bodySF (Jvm.Free.JP.mathPlain rfl (by decide +kernel)) hisR ?_
  intro p e s m args below meth c s₁ Bd hml0 hP hK
  obtain ⟨rfl, hZ, hh⟩ := hP
  have hx := Bd.exec
  have hby := Bd.bytes
  have hml : c.maxLocals = 2 := hml0
  have hown : s.vm.findClass "java/lang/Math" = some m.cls := findClass_of_methodNamed Bd.named
  have hnm := (name_of_methodNamed Bd.named Bd.method).1
  have X0 : Stand p l e ({ frames := 0, cells := 0, slots := 0, locals := 0 } : Room) s m #[(.int p0), (.int p1)] below meth c s₁ [] 0 0 := Stand.of_body Bd
  have e0 : s₁.heap = h0 := by rw [← hh, Bd.state]; rfl
  have N0 := Fr.nil n0
  show own_Go p e below s (Q7 Z p0 p1 h0 n0) ({ frames := 0, cells := 0, slots := 0, locals := 0 } : Room).cells ({ frames := 0, cells := 0, slots := 0, locals := 0 } : Room).slots (s₁.setTop (entryFrame m #[(.int p0), (.int p1)] 2))
  refine own_via (fun t k => castTop (ef_7 m p0 p1) k) ?_
  show own_Go p e below s _ _ _ (s₁.setTop (mkF m 0 #[lI p0, lI p1] []))
  refine own_via (fun _ k => XS.iloadN X0.here hx rfl (hb hby d7_0) rfl k) ?_
  show own_Go p e below s _ _ _ (s₁.setTop (mkF m 1 #[lI p0, lI p1] [(.int p0)]))
  refine own_via (fun _ k => XS.iloadN X0.here hx rfl (hb hby d7_1) rfl k) ?_
  show own_Go p e below s _ _ _ (s₁.setTop (mkF m 2 #[lI p0, lI p1] [(.int p1), (.int p0)]))
  by_cases hc1 : p0 < p1
  · refine own_via (fun _ k => XS.icmpYes X0.here hx rfl (pc0 := 2) (pc' := 9) rfl (hb hby d7_2) rfl (Jvm.Free.XT.ii_lt_t hc1) (by decide) (by decide) k) ?_
    show own_Go p e below s _ _ _ (s₁.setTop (mkF m 9 #[lI p0, lI p1] []))
    refine own_via (fun _ k => XS.iloadN X0.here hx rfl (hb hby d7_9) rfl k) ?_
    show own_Go p e below s _ _ _ (s₁.setTop (mkF m 10 #[lI p0, lI p1] [(.int p1)]))
    exact own_goI X0 hx Bd.returns (hb hby d7_10) Bd.notSynchronized (by decide) (by decide) (by rw [e0]; exact ⟨by rw [own_max, if_pos hc1] <;> rfl, N0, rfl⟩)
  · refine own_via (fun _ k => XS.icmpNo X0.here hx rfl (hb hby d7_2) rfl (Jvm.Free.XT.ii_lt_f hc1) k) ?_
    show own_Go p e below s _ _ _ (s₁.setTop (mkF m 5 #[lI p0, lI p1] []))
    refine own_via (fun _ k => XS.iloadN X0.here hx rfl (hb hby d7_5) rfl k) ?_
    show own_Go p e below s _ _ _ (s₁.setTop (mkF m 6 #[lI p0, lI p1] [(.int p0)]))
    refine own_via (fun _ k => XS.goto X0.here hx rfl (pc0 := 6) (pc' := 10) rfl (hb hby d7_6) (by decide) (by decide) k) ?_
    show own_Go p e below s _ _ _ (s₁.setTop (mkF m 10 #[lI p0, lI p1] [(.int p0)]))
    exact own_goI X0 hx Bd.returns (hb hby d7_10) Bd.notSynchronized (by decide) (by decide) (by rw [e0]; exact ⟨by rw [own_max, if_neg hc1] <;> rfl, N0, rfl⟩)
theorem d6_0 : decode jdk_33_method_47_code 0 = .ok (.iload_n 0, 1) := by decide +kernel
theorem d6_1 : decode jdk_33_method_47_code 1 = .ok (.ifCond .gt 14, 3) := by decide +kernel
theorem d6_15 : decode jdk_33_method_47_code 15 = .ok (.bipush 31, 2) := by decide +kernel
theorem d6_17 : decode jdk_33_method_47_code 17 = .ok (.istore_n 1, 1) := by decide +kernel
theorem d6_18 : decode jdk_33_method_47_code 18 = .ok (.iload_n 0, 1) := by decide +kernel
theorem d6_19 : decode jdk_33_method_47_code 19 = .ok (.ldc_w 264, 3) := by decide +kernel
theorem d6_22 : decode jdk_33_method_47_code 22 = .ok (.if_icmp .lt 11, 3) := by decide +kernel
theorem d6_33 : decode jdk_33_method_47_code 33 = .ok (.iload_n 0, 1) := by decide +kernel
theorem d6_34 : decode jdk_33_method_47_code 34 = .ok (.sipush 256, 3) := by decide +kernel
theorem d6_37 : decode jdk_33_method_47_code 37 = .ok (.if_icmp .lt 11, 3) := by decide +kernel
theorem d6_48 : decode jdk_33_method_47_code 48 = .ok (.iload_n 0, 1) := by decide +kernel
theorem d6_49 : decode jdk_33_method_47_code 49 = .ok (.bipush 16, 2) := by decide +kernel
theorem d6_51 : decode jdk_33_method_47_code 51 = .ok (.if_icmp .lt 10, 3) := by decide +kernel
theorem d6_61 : decode jdk_33_method_47_code 61 = .ok (.iload_n 0, 1) := by decide +kernel
theorem d6_62 : decode jdk_33_method_47_code 62 = .ok (.iconst 4, 1) := by decide +kernel
theorem d6_63 : decode jdk_33_method_47_code 63 = .ok (.if_icmp .lt 10, 3) := by decide +kernel
theorem d6_73 : decode jdk_33_method_47_code 73 = .ok (.iload_n 1, 1) := by decide +kernel
theorem d6_74 : decode jdk_33_method_47_code 74 = .ok (.iload_n 0, 1) := by decide +kernel
theorem d6_75 : decode jdk_33_method_47_code 75 = .ok (.iconst 1, 1) := by decide +kernel
theorem d6_76 : decode jdk_33_method_47_code 76 = .ok (.iushr, 1) := by decide +kernel
theorem d6_77 : decode jdk_33_method_47_code 77 = .ok (.isub, 1) := by decide +kernel
theorem d6_78 : decode jdk_33_method_47_code 78 = .ok (.ireturn, 1) := by decide +kernel
theorem pn_0 : plainName "java/lang/Integer" = true := by first | (simp [plainName, overriddenIn]; done) | decide +kernel
theorem ef_6 (m : MethodId) (x0 : Int32) : entryFrame m #[(.int x0)] 2 = mkF m 0 #[.val (.int x0), .unset] [] := by first | (simp [entryFrame, mkF, argsToLocals, Value.category]; done) | rfl
def Q6 (Z : State) (pi_ : Int32) (h0 : Heap) (n0 : Nat) (v : Option Value) (h : Heap) (L : List Loc) : Prop := v = some (.int (30 : Int32)) ∧ Fr n0 L ∧ h = h0
set_option maxRecDepth 65536 in
set_option maxHeartbeats 40000000 in
theorem rm6 (l : Launch) (Z : State) (a0 : Array Value) (hw : ∀ d ∈ tables_1, d.before a0 Z = true) (ws : List Jvm.Cond) (pi_ : Int32) (h0 : Heap) (n0 : Nat) (Z0 : n0 ≤ h0.size) (hp0 : pi_ = (3 : Int32)) :
    MetFree l (⟨"java/lang/Integer", "numberOfLeadingZeros", "(I)I"⟩ : MethodName) (head1 (Jvm.Cond.code (⟨"java/lang/Integer", "numberOfLeadingZeros", "(I)I"⟩ : MethodName) jdk_33_method_47_code 2 (some .int) :: ws) ({ frames := 0, cells := 0, slots := 0, locals := 0 } : Room)) (fun q_ U => q_ = #[(.int pi_)] ∧ Z.Warmed39 U.vm ∧ U.heap = h0) (fun _ _ _ _ _ => True) (fun _ U o U' => ∃ v L, o = .returned v ∧ Q6 Z pi_ h0 n0 v U'.heap L ∧ FrameEnd U o U' L ({ frames := 0, cells := 0, slots := 0, locals := 0 } : Room).cells ({ frames := 0, cells := 0, slots := 0, locals := 0 } : Room).slots) := by
  refine MetFree.of_bodySF (plainFor_of_name pn_0) hisR ?_
  intro p e s m args below meth c s₁ Bd hml0 hP hK
  obtain ⟨rfl, hZ, hh⟩ := hP
  have hx := Bd.exec
  have hby := Bd.bytes
  have hml : c.maxLocals = 2 := hml0
  have hown : s.vm.findClass "java/lang/Integer" = some m.cls := findClass_of_methodNamed Bd.named
  have hnm := (name_of_methodNamed Bd.named Bd.method).1
  have X0 : Stand p l e ({ frames := 0, cells := 0, slots := 0, locals := 0 } : Room) s m #[(.int pi_)] below meth c s₁ [] 0 0 := Stand.of_body Bd
  have e0 : s₁.heap = h0 := by rw [← hh, Bd.state]; rfl
  have N0 := Fr.nil n0
  show own_Go p e below s (Q6 Z pi_ h0 n0) ({ frames := 0, cells := 0, slots := 0, locals := 0 } : Room).cells ({ frames := 0, cells := 0, slots := 0, locals := 0 } : Room).slots (s₁.setTop (entryFrame m #[(.int pi_)] 2))
  refine own_via (fun t k => castTop (ef_6 m pi_) k) ?_
  show own_Go p e below s _ _ _ (s₁.setTop (mkF m 0 #[lI pi_, lU] []))
  subst hp0
  show own_Go p e below s _ _ _ (s₁.setTop (mkF m 0 #[lI 3, lU] []))
  refine own_via (fun _ k => XS.iloadN X0.here hx rfl (hb hby d6_0) rfl k) ?_
  show own_Go p e below s _ _ _ (s₁.setTop (mkF m 1 #[lI 3, lU] [(.int (3 : Int32))]))
  refine own_via (fun _ k => XS.ifYes X0.here hx rfl (pc0 := 1) (pc' := 15) rfl (hb hby d6_1) rfl (Jvm.Free.XT.i0_gt_t (by decide)) (by decide) (by decide) k) ?_
  show own_Go p e below s _ _ _ (s₁.setTop (mkF m 15 #[lI 3, lU] []))
  refine own_via (fun _ k => XS.bipush X0.here hx rfl (hb hby d6_15) k) ?_
  show own_Go p e below s _ _ _ (s₁.setTop (mkF m 17 #[lI 3, lU] [(.int (31 : Int32))]))
  refine own_via (fun _ k => XS.istoreN X0.here hx rfl (hb hby d6_17) rfl (l' := #[lI 3, lI 31]) rfl k) ?_
  show own_Go p e below s _ _ _ (s₁.setTop (mkF m 18 #[lI 3, lI 31] []))
  refine own_via (fun _ k => XS.iloadN X0.here hx rfl (hb hby d6_18) rfl k) ?_
  show own_Go p e below s _ _ _ (s₁.setTop (mkF m 19 #[lI 3, lI 31] [(.int (3 : Int32))]))
  refine own_via (fun _ k => X0.ldcWInt hx hown (mvT hZ (hwi hw 36 rfl)) (g := (mkF m 19 #[lI 3, lI 31] [(.int (3 : Int32))])) rfl (hb hby d6_19) _ k) ?_
  show own_Go p e below s _ _ _ (s₁.setTop (mkF m 22 #[lI 3, lI 31] [(.int (65536 : Int32)), (.int (3 : Int32))]))
  refine own_via (fun _ k => XS.icmpYes X0.here hx rfl (pc0 := 22) (pc' := 33) rfl (hb hby d6_22) rfl (Jvm.Free.XT.ii_lt_t (by decide)) (by decide) (by decide) k) ?_
  show own_Go p e below s _ _ _ (s₁.setTop (mkF m 33 #[lI 3, lI 31] []))
  refine own_via (fun _ k => XS.iloadN X0.here hx rfl (hb hby d6_33) rfl k) ?_
  show own_Go p e below s _ _ _ (s₁.setTop (mkF m 34 #[lI 3, lI 31] [(.int (3 : Int32))]))
  refine own_via (fun _ k => XS.sipush X0.here hx rfl (hb hby d6_34) k) ?_
  show own_Go p e below s _ _ _ (s₁.setTop (mkF m 37 #[lI 3, lI 31] [(.int (256 : Int32)), (.int (3 : Int32))]))
  refine own_via (fun _ k => XS.icmpYes X0.here hx rfl (pc0 := 37) (pc' := 48) rfl (hb hby d6_37) rfl (Jvm.Free.XT.ii_lt_t (by decide)) (by decide) (by decide) k) ?_
  show own_Go p e below s _ _ _ (s₁.setTop (mkF m 48 #[lI 3, lI 31] []))
  refine own_via (fun _ k => XS.iloadN X0.here hx rfl (hb hby d6_48) rfl k) ?_
  show own_Go p e below s _ _ _ (s₁.setTop (mkF m 49 #[lI 3, lI 31] [(.int (3 : Int32))]))
  refine own_via (fun _ k => XS.bipush X0.here hx rfl (hb hby d6_49) k) ?_
  show own_Go p e below s _ _ _ (s₁.setTop (mkF m 51 #[lI 3, lI 31] [(.int (16 : Int32)), (.int (3 : Int32))]))
  refine own_via (fun _ k => XS.icmpYes X0.here hx rfl (pc0 := 51) (pc' := 61) rfl (hb hby d6_51) rfl (Jvm.Free.XT.ii_lt_t (by decide)) (by decide) (by decide) k) ?_
  show own_Go p e below s _ _ _ (s₁.setTop (mkF m 61 #[lI 3, lI 31] []))
  refine own_via (fun _ k => XS.iloadN X0.here hx rfl (hb hby d6_61) rfl k) ?_
  show own_Go p e below s _ _ _ (s₁.setTop (mkF m 62 #[lI 3, lI 31] [(.int (3 : Int32))]))
  refine own_via (fun _ k => XS.iconst X0.here hx rfl (hb hby d6_62) k) ?_
  show own_Go p e below s _ _ _ (s₁.setTop (mkF m 63 #[lI 3, lI 31] [(.int (4 : Int32)), (.int (3 : Int32))]))
  refine own_via (fun _ k => XS.icmpYes X0.here hx rfl (pc0 := 63) (pc' := 73) rfl (hb hby d6_63) rfl (Jvm.Free.XT.ii_lt_t (by decide)) (by decide) (by decide) k) ?_
  show own_Go p e below s _ _ _ (s₁.setTop (mkF m 73 #[lI 3, lI 31] []))
  refine own_via (fun _ k => XS.iloadN X0.here hx rfl (hb hby d6_73) rfl k) ?_
  show own_Go p e below s _ _ _ (s₁.setTop (mkF m 74 #[lI 3, lI 31] [(.int (31 : Int32))]))
  refine own_via (fun _ k => XS.iloadN X0.here hx rfl (hb hby d6_74) rfl k) ?_
  show own_Go p e below s _ _ _ (s₁.setTop (mkF m 75 #[lI 3, lI 31] [(.int (3 : Int32)), (.int (31 : Int32))]))
  refine own_via (fun _ k => XS.iconst X0.here hx rfl (hb hby d6_75) k) ?_
  show own_Go p e below s _ _ _ (s₁.setTop (mkF m 76 #[lI 3, lI 31] [(.int (1 : Int32)), (.int (3 : Int32)), (.int (31 : Int32))]))
  refine own_via (fun _ k => XS.iushr X0.here hx rfl (hb hby d6_76) rfl k) ?_
  show own_Go p e below s _ _ _ (s₁.setTop (mkF m 77 #[lI 3, lI 31] [(.int (o_iushr (3 : Int32) (1 : Int32))), (.int (31 : Int32))]))
  rw [show (o_iushr (3 : Int32) (1 : Int32)) = (1 : Int32) from (by decide)]
  show own_Go p e below s _ _ _ (s₁.setTop (mkF m 77 #[lI 3, lI 31] [(.int (1 : Int32)), (.int (31 : Int32))]))
  refine own_via (fun _ k => XS.isub X0.here hx rfl (hb hby d6_77) rfl k) ?_
  show own_Go p e below s _ _ _ (s₁.setTop (mkF m 78 #[lI 3, lI 31] [(.int (30 : Int32))]))
  exact own_goI X0 hx Bd.returns (hb hby d6_78) Bd.notSynchronized (by decide) (by decide) (by rw [e0]; exact ⟨rfl, N0, rfl⟩)
theorem d5_0 : decode jdk_33_method_45_code 0 = .ok (.iload_n 0, 1) := by decide +kernel
theorem d5_1 : decode jdk_33_method_45_code 1 = .ok (.ldc 127, 2) := by decide +kernel
theorem d5_3 : decode jdk_33_method_45_code 3 = .ok (.iload_n 0, 1) := by decide +kernel
theorem pd_0 : parseMethodDescriptor "(I)I" = some ⟨[.int], some .int⟩ := by decide +kernel
theorem d5_4 : decode jdk_33_method_45_code 4 = .ok (.invokestatic 51, 3) := by decide +kernel
theorem d5_7 : decode jdk_33_method_45_code 7 = .ok (.iushr, 1) := by decide +kernel
theorem d5_8 : decode jdk_33_method_45_code 8 = .ok (.iand, 1) := by decide +kernel
theorem d5_9 : decode jdk_33_method_45_code 9 = .ok (.ireturn, 1) := by decide +kernel
theorem ef_5 (m : MethodId) (x0 : Int32) : entryFrame m #[(.int x0)] 1 = mkF m 0 #[.val (.int x0)] [] := by first | (simp [entryFrame, mkF, argsToLocals, Value.category]; done) | rfl
def Q5 (Z : State) (pi_ : Int32) (h0 : Heap) (n0 : Nat) (v : Option Value) (h : Heap) (L : List Loc) : Prop := v = some (.int (2 : Int32)) ∧ Fr n0 L ∧ h = h0
set_option maxRecDepth 65536 in
set_option maxHeartbeats 40000000 in
theorem rm5 (l : Launch) (Z : State) (a0 : Array Value) (hw : ∀ d ∈ tables_1, d.before a0 Z = true) (ws : List Jvm.Cond) (pi_ : Int32) (h0 : Heap) (n0 : Nat) (Z0 : n0 ≤ h0.size) (hp0 : pi_ = (3 : Int32)) :
    MetFree l (⟨"java/lang/Integer", "highestOneBit", "(I)I"⟩ : MethodName) (head1 (Jvm.Cond.code (⟨"java/lang/Integer", "highestOneBit", "(I)I"⟩ : MethodName) jdk_33_method_45_code 1 (some .int) :: ws) ({ frames := 1, cells := 0, slots := 0, locals := 15 } : Room)) (fun q_ U => q_ = #[(.int pi_)] ∧ Z.Warmed39 U.vm ∧ U.heap = h0) (fun _ _ _ _ _ => True) (fun _ U o U' => ∃ v L, o = .returned v ∧ Q5 Z pi_ h0 n0 v U'.heap L ∧ FrameEnd U o U' L ({ frames := 1, cells := 0, slots := 0, locals := 15 } : Room).cells ({ frames := 1, cells := 0, slots := 0, locals := 15 } : Room).slots) := by
  refine MetFree.of_bodySF (plainFor_of_name pn_0) hisR ?_
  intro p e s m args below meth c s₁ Bd hml0 hP hK
  obtain ⟨rfl, hZ, hh⟩ := hP
  have hx := Bd.exec
  have hby := Bd.bytes
  have hml : c.maxLocals = 1 := hml0
  have hown : s.vm.findClass "java/lang/Integer" = some m.cls := findClass_of_methodNamed Bd.named
  have hnm := (name_of_methodNamed Bd.named Bd.method).1
  have X0 : Stand p l e ({ frames := 1, cells := 0, slots := 0, locals := 15 } : Room) s m #[(.int pi_)] below meth c s₁ [] 0 0 := Stand.of_body Bd
  have e0 : s₁.heap = h0 := by rw [← hh, Bd.state]; rfl
  have N0 := Fr.nil n0
  show own_Go p e below s (Q5 Z pi_ h0 n0) ({ frames := 1, cells := 0, slots := 0, locals := 15 } : Room).cells ({ frames := 1, cells := 0, slots := 0, locals := 15 } : Room).slots (s₁.setTop (entryFrame m #[(.int pi_)] 1))
  refine own_via (fun t k => castTop (ef_5 m pi_) k) ?_
  show own_Go p e below s _ _ _ (s₁.setTop (mkF m 0 #[lI pi_] []))
  subst hp0
  show own_Go p e below s _ _ _ (s₁.setTop (mkF m 0 #[lI 3] []))
  refine own_via (fun _ k => XS.iloadN X0.here hx rfl (hb hby d5_0) rfl k) ?_
  show own_Go p e below s _ _ _ (s₁.setTop (mkF m 1 #[lI 3] [(.int (3 : Int32))]))
  refine own_via (fun _ k => X0.ldcInt hx hown (mvT hZ (hwi hw 32 rfl)) (g := (mkF m 1 #[lI 3] [(.int (3 : Int32))])) rfl (hb hby d5_1) _ k) ?_
  show own_Go p e below s _ _ _ (s₁.setTop (mkF m 3 #[lI 3] [(.int (-2147483648 : Int32)), (.int (3 : Int32))]))
  refine own_via (fun _ k => XS.iloadN X0.here hx rfl (hb hby d5_3) rfl k) ?_
  show own_Go p e below s _ _ _ (s₁.setTop (mkF m 4 #[lI 3] [(.int (3 : Int32)), (.int (-2147483648 : Int32)), (.int (3 : Int32))]))
  obtain ⟨_, _, ⟨T1, L1, k1, n1⟩, -, X1, ⟨Lc1, hQ1, l1, y1, z1⟩, st1⟩ := Jvm.LawKit.callS X0 hx (y := (⟨"java/lang/Integer", "numberOfLeadingZeros", "(I)I"⟩ : MethodName)) hown (mvT hZ (hwi hw 33 rfl)) (mvT hZ (hwi hw 34 rfl)) (mvT hZ (hwi hw 30 rfl)) (mvT hZ (hwi hw 35 rfl)) (by decide) (backOf (W := 2) (rm6 l Z a0 hw [] (3 : Int32) h0 n0 Z0 (by first | decide | (simp; done))) hZ (hwi hw 35 rfl) (hwi hw 30 rfl) (by decide) (by decide)) (g := (mkF m 4 #[lI 3] [(.int (3 : Int32)), (.int (-2147483648 : Int32)), (.int (3 : Int32))])) rfl (by rw [hml]; rfl) (argsL := [(.int (3 : Int32))]) (rest := [(.int (-2147483648 : Int32)), (.int (3 : Int32))]) (lenOf pd_0 rfl) rfl (by show 2 * 0 + _ ≤ _; exact Nat.le_of_eq rfl) (hb hby d5_4) (fun _ _ => ⟨rfl, e0, (by decide : 0 + 0 ≤ _), (by decide : 0 + 0 ≤ _)⟩)
  dsimp only [Pt.U, Pt.locs, Pt.cells, Pt.slots] at X1 l1 y1 z1 st1 hQ1
  subst l1 y1 z1
  obtain ⟨rfl, N1q, e1⟩ := hQ1
  have N1 := Fr.app N0 N1q
  refine own_via st1 ?_
  show own_Go p e below s _ _ _ (T1.setTop (mkF m 7 #[lI 3] [(.int (30 : Int32)), (.int (-2147483648 : Int32)), (.int (3 : Int32))]))
  refine own_via (fun _ k => XS.iushr X1.here hx rfl (hb hby d5_7) rfl k) ?_
  show own_Go p e below s _ _ _ (T1.setTop (mkF m 8 #[lI 3] [(.int (o_iushr (-2147483648 : Int32) (30 : Int32))), (.int (3 : Int32))]))
  rw [show (o_iushr (-2147483648 : Int32) (30 : Int32)) = (2 : Int32) from (by decide)]
  show own_Go p e below s _ _ _ (T1.setTop (mkF m 8 #[lI 3] [(.int (2 : Int32)), (.int (3 : Int32))]))
  refine own_via (fun _ k => XS.iand X1.here hx rfl (hb hby d5_8) rfl k) ?_
  show own_Go p e below s _ _ _ (T1.setTop (mkF m 9 #[lI 3] [(.int (2 : Int32))]))
  exact own_goI X1 hx Bd.returns (hb hby d5_9) Bd.notSynchronized (by decide) (by decide) (by rw [e1]; exact ⟨rfl, N1, rfl⟩)
theorem d1_0 : decode prog_59_method_1_code 0 = .ok (.aload_n 0, 1) := by decide +kernel
theorem d1_1 : decode prog_59_method_1_code 1 = .ok (.invokespecial 1, 3) := by decide +kernel
theorem d1_4 : decode prog_59_method_1_code 4 = .ok (.aload_n 0, 1) := by decide +kernel
theorem d1_5 : decode prog_59_method_1_code 5 = .ok (.iload_n 1, 1) := by decide +kernel
theorem d1_6 : decode prog_59_method_1_code 6 = .ok (.putfield 7, 3) := by decide +kernel
theorem d1_9 : decode prog_59_method_1_code 9 = .ok (.aload_n 0, 1) := by decide +kernel
theorem d1_10 : decode prog_59_method_1_code 10 = .ok (.lload_n 3, 1) := by decide +kernel
theorem d1_11 : decode prog_59_method_1_code 11 = .ok (.putfield 13, 3) := by decide +kernel
theorem d1_14 : decode prog_59_method_1_code 14 = .ok (.aload_n 0, 1) := by decide +kernel
theorem d1_15 : decode prog_59_method_1_code 15 = .ok (.lload_n 3, 1) := by decide +kernel
theorem d1_16 : decode prog_59_method_1_code 16 = .ok (.ldc2_w 19, 3) := by decide +kernel
theorem pd_1 : parseMethodDescriptor "(JJ)J" = some ⟨[.long, .long], some .long⟩ := by decide +kernel
theorem d1_19 : decode prog_59_method_1_code 19 = .ok (.invokestatic 21, 3) := by decide +kernel
theorem d1_22 : decode prog_59_method_1_code 22 = .ok (.putfield 27, 3) := by decide +kernel
theorem d1_25 : decode prog_59_method_1_code 25 = .ok (.aload_n 0, 1) := by decide +kernel
theorem d1_26 : decode prog_59_method_1_code 26 = .ok (.dload 5, 2) := by decide +kernel
theorem d1_28 : decode prog_59_method_1_code 28 = .ok (.putfield 30, 3) := by decide +kernel
theorem d1_31 : decode prog_59_method_1_code 31 = .ok (.bipush 64, 2) := by decide +kernel
theorem d1_33 : decode prog_59_method_1_code 33 = .ok (.iload_n 2, 1) := by decide +kernel
theorem d1_34 : decode prog_59_method_1_code 34 = .ok (.ldc 34, 2) := by decide +kernel
theorem pd_2 : parseMethodDescriptor "(II)I" = some ⟨[.int, .int], some .int⟩ := by decide +kernel
theorem d1_36 : decode prog_59_method_1_code 36 = .ok (.invokestatic 35, 3) := by decide +kernel
theorem d1_39 : decode prog_59_method_1_code 39 = .ok (.iconst 1, 1) := by decide +kernel
theorem d1_40 : decode prog_59_method_1_code 40 = .ok (.isub, 1) := by decide +kernel
theorem d1_41 : decode prog_59_method_1_code 41 = .ok (.invokestatic 38, 3) := by decide +kernel
theorem d1_44 : decode prog_59_method_1_code 44 = .ok (.iconst 1, 1) := by decide +kernel
theorem d1_45 : decode prog_59_method_1_code 45 = .ok (.ishl, 1) := by decide +kernel
theorem d1_46 : decode prog_59_method_1_code 46 = .ok (.invokestatic 42, 3) := by decide +kernel
theorem d1_49 : decode prog_59_method_1_code 49 = .ok (.istore 7, 2) := by decide +kernel
theorem d1_51 : decode prog_59_method_1_code 51 = .ok (.aload_n 0, 1) := by decide +kernel
theorem d1_52 : decode prog_59_method_1_code 52 = .ok (.iload 7, 2) := by decide +kernel
theorem d1_54 : decode prog_59_method_1_code 54 = .ok (.iload_n 1, 1) := by decide +kernel
theorem d1_55 : decode prog_59_method_1_code 55 = .ok (.imul, 1) := by decide +kernel
theorem d1_56 : decode prog_59_method_1_code 56 = .ok (.newarray .long, 2) := by decide +kernel
theorem d1_58 : decode prog_59_method_1_code 58 = .ok (.putfield 45, 3) := by decide +kernel
theorem d1_61 : decode prog_59_method_1_code 61 = .ok (.aload_n 0, 1) := by decide +kernel
theorem d1_62 : decode prog_59_method_1_code 62 = .ok (.iload 7, 2) := by decide +kernel
theorem d1_64 : decode prog_59_method_1_code 64 = .ok (.newarray .double, 2) := by decide +kernel
theorem d1_66 : decode prog_59_method_1_code 66 = .ok (.putfield 49, 3) := by decide +kernel
theorem d1_69 : decode prog_59_method_1_code 69 = .ok (.aload_n 0, 1) := by decide +kernel
theorem d1_70 : decode prog_59_method_1_code 70 = .ok (.iload 7, 2) := by decide +kernel
theorem d1_72 : decode prog_59_method_1_code 72 = .ok (.newarray .double, 2) := by decide +kernel
theorem d1_74 : decode prog_59_method_1_code 74 = .ok (.putfield 53, 3) := by decide +kernel
theorem d1_77 : decode prog_59_method_1_code 77 = .ok (.aload_n 0, 1) := by decide +kernel
theorem d1_78 : decode prog_59_method_1_code 78 = .ok (.iload 7, 2) := by decide +kernel
theorem d1_80 : decode prog_59_method_1_code 80 = .ok (.newarray .int, 2) := by decide +kernel
theorem d1_82 : decode prog_59_method_1_code 82 = .ok (.putfield 56, 3) := by decide +kernel
theorem d1_85 : decode prog_59_method_1_code 85 = .ok (.aload_n 0, 1) := by decide +kernel
theorem d1_86 : decode prog_59_method_1_code 86 = .ok (.iload 7, 2) := by decide +kernel
theorem d1_88 : decode prog_59_method_1_code 88 = .ok (.newarray .int, 2) := by decide +kernel
theorem d1_90 : decode prog_59_method_1_code 90 = .ok (.putfield 60, 3) := by decide +kernel
theorem d1_93 : decode prog_59_method_1_code 93 = .ok (.aload_n 0, 1) := by decide +kernel
theorem d1_94 : decode prog_59_method_1_code 94 = .ok (.iload 7, 2) := by decide +kernel
theorem d1_96 : decode prog_59_method_1_code 96 = .ok (.newarray .int, 2) := by decide +kernel
theorem d1_98 : decode prog_59_method_1_code 98 = .ok (.putfield 63, 3) := by decide +kernel
theorem d1_101 : decode prog_59_method_1_code 101 = .ok (.aload_n 0, 1) := by decide +kernel
theorem d1_102 : decode prog_59_method_1_code 102 = .ok (.iload 7, 2) := by decide +kernel
theorem d1_104 : decode prog_59_method_1_code 104 = .ok (.newarray .boolean, 2) := by decide +kernel
theorem d1_106 : decode prog_59_method_1_code 106 = .ok (.putfield 66, 3) := by decide +kernel
theorem d1_109 : decode prog_59_method_1_code 109 = .ok (.aload_n 0, 1) := by decide +kernel
theorem d1_110 : decode prog_59_method_1_code 110 = .ok (.iload 7, 2) := by decide +kernel
theorem d1_112 : decode prog_59_method_1_code 112 = .ok (.newarray .int, 2) := by decide +kernel
theorem d1_114 : decode prog_59_method_1_code 114 = .ok (.putfield 70, 3) := by decide +kernel
theorem d1_117 : decode prog_59_method_1_code 117 = .ok (.aload_n 0, 1) := by decide +kernel
theorem d1_118 : decode prog_59_method_1_code 118 = .ok (.iconst 2, 1) := by decide +kernel
theorem d1_119 : decode prog_59_method_1_code 119 = .ok (.iload 7, 2) := by decide +kernel
theorem d1_121 : decode prog_59_method_1_code 121 = .ok (.imul, 1) := by decide +kernel
theorem d1_122 : decode prog_59_method_1_code 122 = .ok (.newarray .int, 2) := by decide +kernel
theorem d1_124 : decode prog_59_method_1_code 124 = .ok (.putfield 73, 3) := by decide +kernel
theorem d1_127 : decode prog_59_method_1_code 127 = .ok (.aload_n 0, 1) := by decide +kernel
theorem d1_128 : decode prog_59_method_1_code 128 = .ok (.iload 7, 2) := by decide +kernel
theorem d1_130 : decode prog_59_method_1_code 130 = .ok (.newarray .double, 2) := by decide +kernel
theorem d1_132 : decode prog_59_method_1_code 132 = .ok (.putfield 76, 3) := by decide +kernel
theorem d1_135 : decode prog_59_method_1_code 135 = .ok (.aload_n 0, 1) := by decide +kernel
theorem d1_136 : decode prog_59_method_1_code 136 = .ok (.iload 7, 2) := by decide +kernel
theorem d1_138 : decode prog_59_method_1_code 138 = .ok (.newarray .long, 2) := by decide +kernel
theorem d1_140 : decode prog_59_method_1_code 140 = .ok (.putfield 79, 3) := by decide +kernel
theorem d1_143 : decode prog_59_method_1_code 143 = .ok (.return_, 1) := by decide +kernel
theorem pn_1 : plainName "com/example/trajectory/trajectory/search/Nodes" = true := by first | (simp [plainName, overriddenIn]; done) | decide +kernel
theorem ef_1 (m : MethodId) (x0 : Addr) (x1 : Int32) (x2 : Int32) (x3 : Int64) (x4 : UInt64) : entryFrame m #[(.ref x0), (.int x1), (.int x2), (.long x3), (.double x4)] 8 = mkF m 0 #[.val (.ref x0), .val (.int x1), .val (.int x2), .val (.long x3), .second, .val (.double x4), .second, .unset] [] := by first | (simp [entryFrame, mkF, argsToLocals, Value.category]; done) | rfl
def Q1 (Z : State) (a : Addr) (pw_ : Int32) (ph_ : Int32) (pl_ : Int64) (pd_ : UInt64) (h0 : Heap) (n0 : Nat) (v : Option Value) (h : Heap) (L : List Loc) : Prop := ∃ bs_ : Addr, ∃ bc_ : Addr, ∃ bt_ : Addr, ∃ bl_ : Addr, ∃ bp_ : Addr, ∃ bu_ : Addr, ∃ bz_ : Addr, ∃ bk_ : Addr, ∃ bT_ : Addr, ∃ bf_ : Addr, ∃ br_ : Addr, ∃ ks_ : ClassId, ∃ kc_ : ClassId, ∃ kt_ : ClassId, ∃ kl_ : ClassId, ∃ kp_ : ClassId, ∃ ku_ : ClassId, ∃ kz_ : ClassId, ∃ kk_ : ClassId, ∃ kT_ : ClassId, ∃ kf_ : ClassId, ∃ kr_ : ClassId, ∃ wT_ : List Value, v = none ∧ Fr n0 L ∧ Keep h0 h [a] ∧ h0.size ≤ bs_ ∧ h0.size ≤ bc_ ∧ h0.size ≤ bt_ ∧ h0.size ≤ bl_ ∧ h0.size ≤ bp_ ∧ h0.size ≤ bu_ ∧ h0.size ≤ bz_ ∧ h0.size ≤ bk_ ∧ h0.size ≤ bT_ ∧ h0.size ≤ bf_ ∧ h0.size ≤ br_ ∧ Exa Z h a "com/example/trajectory/trajectory/search/Nodes" ∧ Fld Z h a "com/example/trajectory/trajectory/search/Nodes" "width" "I" (.int (1 : Int32)) ∧ Fld Z h a "com/example/trajectory/trajectory/search/Nodes" "lengthLimit" "J" (.long pl_) ∧ Fld Z h a "com/example/trajectory/trajectory/search/Nodes" "count" "I" (.int (0 : Int32)) ∧ Fld Z h a "com/example/trajectory/trajectory/search/Nodes" "states" "[J" (.ref bs_) ∧ Fld Z h a "com/example/trajectory/trajectory/search/Nodes" "costs" "[D" (.ref bc_) ∧ Fld Z h a "com/example/trajectory/trajectory/search/Nodes" "stepCosts" "[D" (.ref bt_) ∧ Fld Z h a "com/example/trajectory/trajectory/search/Nodes" "lengths" "[I" (.ref bl_) ∧ Fld Z h a "com/example/trajectory/trajectory/search/Nodes" "parents" "[I" (.ref bp_) ∧ Fld Z h a "com/example/trajectory/trajectory/search/Nodes" "steps" "[I" (.ref bu_) ∧ Fld Z h a "com/example/trajectory/trajectory/search/Nodes" "superseded" "[Z" (.ref bz_) ∧ Fld Z h a "com/example/trajectory/trajectory/search/Nodes" "nextKept" "[I" (.ref bk_) ∧ Fld Z h a "com/example/trajectory/trajectory/search/Nodes" "table" "[I" (.ref bT_) ∧ Fld Z h a "com/example/trajectory/trajectory/search/Nodes" "frontierCosts" "[D" (.ref bf_) ∧ Fld Z h a "com/example/trajectory/trajectory/search/Nodes" "frontierRanks" "[J" (.ref br_) ∧ Fld Z h a "com/example/trajectory/trajectory/search/Nodes" "waiting" "I" (.int (0 : Int32)) ∧ Fld Z h a "com/example/trajectory/trajectory/search/Nodes" "waitingWithin" "J" (.long (0 : Int64)) ∧ Fld Z h a "com/example/trajectory/trajectory/search/Nodes" "held" "I" (.int (0 : Int32)) ∧ Arv Z h bs_ ks_ .long (64 : Int32) [(.long (0 : Int64)), (.long (0 : Int64)), (.long (0 : Int64)), (.long (0 : Int64))] (.long (0 : Int64)) ∧ Arv Z h bc_ kc_ .double (64 : Int32) [(.double (0 : UInt64)), (.double (0 : UInt64)), (.double (0 : UInt64)), (.double (0 : UInt64))] (.double (0 : UInt64)) ∧ Arv Z h bt_ kt_ .double (64 : Int32) [(.double (0 : UInt64)), (.double (0 : UInt64)), (.double (0 : UInt64)), (.double (0 : UInt64))] (.double (0 : UInt64)) ∧ Arv Z h bl_ kl_ .int (64 : Int32) [(.int (0 : Int32)), (.int (0 : Int32)), (.int (0 : Int32)), (.int (0 : Int32))] (.int (0 : Int32)) ∧ Arv Z h bp_ kp_ .int (64 : Int32) [(.int (0 : Int32)), (.int (0 : Int32)), (.int (0 : Int32)), (.int (0 : Int32))] (.int (0 : Int32)) ∧ Arv Z h bu_ ku_ .int (64 : Int32) [(.int (0 : Int32)), (.int (0 : Int32)), (.int (0 : Int32)), (.int (0 : Int32))] (.int (0 : Int32)) ∧ Arv Z h bz_ kz_ .boolean (64 : Int32) [(.int (0 : Int32)), (.int (0 : Int32)), (.int (0 : Int32)), (.int (0 : Int32))] (.int (0 : Int32)) ∧ Arv Z h bk_ kk_ .int (64 : Int32) [(.int (0 : Int32)), (.int (0 : Int32)), (.int (0 : Int32)), (.int (0 : Int32))] (.int (0 : Int32)) ∧ Arv Z h bT_ kT_ .int (128 : Int32) wT_ (.int (0 : Int32)) ∧ Arv Z h bf_ kf_ .double (64 : Int32) [(.double (0 : UInt64)), (.double (0 : UInt64)), (.double (0 : UInt64)), (.double (0 : UInt64))] (.double (0 : UInt64)) ∧ Arv Z h br_ kr_ .long (64 : Int32) [(.long (0 : Int64)), (.long (0 : Int64)), (.long (0 : Int64)), (.long (0 : Int64))] (.long (0 : Int64)) ∧ bs_ ≠ bc_ ∧ bs_ ≠ bt_ ∧ bs_ ≠ bl_ ∧ bs_ ≠ bp_ ∧ bs_ ≠ bu_ ∧ bs_ ≠ bz_ ∧ bs_ ≠ bk_ ∧ bs_ ≠ bT_ ∧ bs_ ≠ bf_ ∧ bs_ ≠ br_ ∧ bc_ ≠ bt_ ∧ bc_ ≠ bl_ ∧ bc_ ≠ bp_ ∧ bc_ ≠ bu_ ∧ bc_ ≠ bz_ ∧ bc_ ≠ bk_ ∧ bc_ ≠ bT_ ∧ bc_ ≠ bf_ ∧ bc_ ≠ br_ ∧ bt_ ≠ bl_ ∧ bt_ ≠ bp_ ∧ bt_ ≠ bu_ ∧ bt_ ≠ bz_ ∧ bt_ ≠ bk_ ∧ bt_ ≠ bT_ ∧ bt_ ≠ bf_ ∧ bt_ ≠ br_ ∧ bl_ ≠ bp_ ∧ bl_ ≠ bu_ ∧ bl_ ≠ bz_ ∧ bl_ ≠ bk_ ∧ bl_ ≠ bT_ ∧ bl_ ≠ bf_ ∧ bl_ ≠ br_ ∧ bp_ ≠ bu_ ∧ bp_ ≠ bz_ ∧ bp_ ≠ bk_ ∧ bp_ ≠ bT_ ∧ bp_ ≠ bf_ ∧ bp_ ≠ br_ ∧ bu_ ≠ bz_ ∧ bu_ ≠ bk_ ∧ bu_ ≠ bT_ ∧ bu_ ≠ bf_ ∧ bu_ ≠ br_ ∧ bz_ ≠ bk_ ∧ bz_ ≠ bT_ ∧ bz_ ≠ bf_ ∧ bz_ ≠ br_ ∧ bk_ ≠ bT_ ∧ bk_ ≠ bf_ ∧ bk_ ≠ br_ ∧ bT_ ≠ bf_ ∧ bT_ ≠ br_ ∧ bf_ ≠ br_ ∧ wT_.length = 45 ∧ wT_.getD ((44 : Int32)).toNatClampNeg (.int (0 : Int32)) = (.int (0 : Int32))
set_option maxRecDepth 65536 in
set_option maxHeartbeats 40000000 in
theorem rm1 (l : Launch) (Z : State) (a0 : Array Value) (hw : ∀ d ∈ tables_1, d.before a0 Z = true) (ws : List Jvm.Cond) (a : Addr) (pw_ : Int32) (ph_ : Int32) (pl_ : Int64) (pd_ : UInt64) (h0 : Heap) (n0 : Nat) (Z0 : n0 ≤ h0.size) (E_a : Exa Z h0 a "com/example/trajectory/trajectory/search/Nodes") (F_width_a : Fld Z h0 a "com/example/trajectory/trajectory/search/Nodes" "width" "I" (.int (0 : Int32))) (F_lengthLimit_a : Fld Z h0 a "com/example/trajectory/trajectory/search/Nodes" "lengthLimit" "J" (.long (0 : Int64))) (F_longestWithin_a : Fld Z h0 a "com/example/trajectory/trajectory/search/Nodes" "longestWithin" "J" (.long (0 : Int64))) (F_dearestStep_a : Fld Z h0 a "com/example/trajectory/trajectory/search/Nodes" "dearestStep" "D" (.double (0 : UInt64))) (F_states_a : Fld Z h0 a "com/example/trajectory/trajectory/search/Nodes" "states" "[J" .null) (F_costs_a : Fld Z h0 a "com/example/trajectory/trajectory/search/Nodes" "costs" "[D" .null) (F_stepCosts_a : Fld Z h0 a "com/example/trajectory/trajectory/search/Nodes" "stepCosts" "[D" .null) (F_lengths_a : Fld Z h0 a "com/example/trajectory/trajectory/search/Nodes" "lengths" "[I" .null) (F_parents_a : Fld Z h0 a "com/example/trajectory/trajectory/search/Nodes" "parents" "[I" .null) (F_steps_a : Fld Z h0 a "com/example/trajectory/trajectory/search/Nodes" "steps" "[I" .null) (F_superseded_a : Fld Z h0 a "com/example/trajectory/trajectory/search/Nodes" "superseded" "[Z" .null) (F_nextKept_a : Fld Z h0 a "com/example/trajectory/trajectory/search/Nodes" "nextKept" "[I" .null) (F_table_a : Fld Z h0 a "com/example/trajectory/trajectory/search/Nodes" "table" "[I" .null) (F_frontierCosts_a : Fld Z h0 a "com/example/trajectory/trajectory/search/Nodes" "frontierCosts" "[D" .null) (F_frontierRanks_a : Fld Z h0 a "com/example/trajectory/trajectory/search/Nodes" "frontierRanks" "[J" .null) (F_count_a : Fld Z h0 a "com/example/trajectory/trajectory/search/Nodes" "count" "I" (.int (0 : Int32))) (F_waitingWithin_a : Fld Z h0 a "com/example/trajectory/trajectory/search/Nodes" "waitingWithin" "J" (.long (0 : Int64))) (F_waiting_a : Fld Z h0 a "com/example/trajectory/trajectory/search/Nodes" "waiting" "I" (.int (0 : Int32))) (F_held_a : Fld Z h0 a "com/example/trajectory/trajectory/search/Nodes" "held" "I" (.int (0 : Int32))) (g_a : n0 ≤ a) (hp21 : pw_ = (1 : Int32)) (hp22 : ph_ = (4 : Int32)) :
    MetFree l (⟨"com/example/trajectory/trajectory/search/Nodes", "<init>", "(IIJD)V"⟩ : MethodName) (head1 (Jvm.Cond.code (⟨"com/example/trajectory/trajectory/search/Nodes", "<init>", "(IIJD)V"⟩ : MethodName) prog_59_method_1_code 8 none :: ws) ({ frames := 2, cells := 11, slots := 768, locals := 28 } : Room)) (fun q_ U => q_ = #[(.ref a), (.int pw_), (.int ph_), (.long pl_), (.double pd_)] ∧ Z.Warmed39 U.vm ∧ U.heap = h0) (fun _ _ _ _ _ => True) (fun _ U o U' => ∃ v L, o = .returned v ∧ Q1 Z a pw_ ph_ pl_ pd_ h0 n0 v U'.heap L ∧ FrameEnd U o U' L ({ frames := 2, cells := 11, slots := 768, locals := 28 } : Room).cells ({ frames := 2, cells := 11, slots := 768, locals := 28 } : Room).slots) := by
  refine MetFree.of_bodySF (plainFor_of_name pn_1) hisR ?_
  intro p e s m args below meth c s₁ Bd hml0 hP hK
  obtain ⟨rfl, hZ, hh⟩ := hP
  have hx := Bd.exec
  have hby := Bd.bytes
  have hml : c.maxLocals = 8 := hml0
  have hown : s.vm.findClass "com/example/trajectory/trajectory/search/Nodes" = some m.cls := findClass_of_methodNamed Bd.named
  have hnm := (name_of_methodNamed Bd.named Bd.method).1
  have X0 : Stand p l e ({ frames := 2, cells := 11, slots := 768, locals := 28 } : Room) s m #[(.ref a), (.int pw_), (.int ph_), (.long pl_), (.double pd_)] below meth c s₁ [] 0 0 := Stand.of_body Bd
  have e0 : s₁.heap = h0 := by rw [← hh, Bd.state]; rfl
  have N0 := Fr.nil n0
  show own_Go p e below s (Q1 Z a pw_ ph_ pl_ pd_ h0 n0) ({ frames := 2, cells := 11, slots := 768, locals := 28 } : Room).cells ({ frames := 2, cells := 11, slots := 768, locals := 28 } : Room).slots (s₁.setTop (entryFrame m #[(.ref a), (.int pw_), (.int ph_), (.long pl_), (.double pd_)] 8))
  refine own_via (fun t k => castTop (ef_1 m a pw_ ph_ pl_ pd_) k) ?_
  have K0 : Keep h0 h0 [a] := Keep.refl _ _
  show own_Go p e below s _ _ _ (s₁.setTop (mkF m 0 #[lR a, lI pw_, lI ph_, lJ pl_, lS, lD pd_, lS, lU] []))
  subst hp21 hp22
  show own_Go p e below s _ _ _ (s₁.setTop (mkF m 0 #[lR a, lI 1, lI 4, lJ pl_, lS, lD pd_, lS, lU] []))
  refine own_via (fun _ k => XS.aloadN X0.here hx rfl (hb hby d1_0) rfl rfl k) ?_
  show own_Go p e below s _ _ _ (s₁.setTop (mkF m 1 #[lR a, lI 1, lI 4, lJ pl_, lS, lD pd_, lS, lU] [(.ref a)]))
  obtain ⟨T1, X1, e1, st1⟩ := initO X0 hx hZ hown (hwi hw 8 rfl) (hwi hw 9 rfl) (hwi hw 10 rfl) e0 (g := (mkF m 1 #[lR a, lI 1, lI 4, lJ pl_, lS, lD pd_, lS, lU] [(.ref a)])) rfl (by rw [hml]; rfl) rfl (hb hby d1_1) (by decide) (W := 0) (by show 2 * 0 + _ ≤ _; exact Nat.le_of_eq rfl) (by decide)
  refine own_via st1 ?_
  show own_Go p e below s _ _ _ (T1.setTop (mkF m 4 #[lR a, lI 1, lI 4, lJ pl_, lS, lD pd_, lS, lU] []))
  refine own_via (fun _ k => XS.aloadN X1.here hx rfl (hb hby d1_4) rfl rfl k) ?_
  show own_Go p e below s _ _ _ (T1.setTop (mkF m 5 #[lR a, lI 1, lI 4, lJ pl_, lS, lD pd_, lS, lU] [(.ref a)]))
  refine own_via (fun _ k => XS.iloadN X1.here hx rfl (hb hby d1_5) rfl k) ?_
  show own_Go p e below s _ _ _ (T1.setTop (mkF m 6 #[lR a, lI 1, lI 4, lJ pl_, lS, lD pd_, lS, lU] [(.int (1 : Int32)), (.ref a)]))
  obtain ⟨T2, h2, X2, e2, W2, st2⟩ := putF X1 hx hZ hown (host := "") (Or.inl (hwi hw 11 rfl)) Via.refl e1 F_width_a E_a (Or.inr ⟨(hwi hw 12 rfl), rfl, hnm⟩) (hwi hw 3 rfl) (ty := .int) (by decide) rfl rfl (g := (mkF m 6 #[lR a, lI 1, lI 4, lJ pl_, lS, lD pd_, lS, lU] [(.int (1 : Int32)), (.ref a)])) rfl rfl (hb hby d1_6)
  have N2 := Fr.snoc X2 N0 g_a
  have Fw2 := F_width_a.same W2
  have Z2 : n0 ≤ h2.size := Nat.le_trans Z0 (Keep.of_wr W2).1
  have K2 : Keep h0 h2 [a] := K0.wr W2 (Or.inl (List.mem_of_getElem? (i := 0) rfl))
  refine own_via st2 ?_
  show own_Go p e below s _ _ _ (T2.setTop (mkF m 9 #[lR a, lI 1, lI 4, lJ pl_, lS, lD pd_, lS, lU] []))
  refine own_via (fun _ k => XS.aloadN X2.here hx rfl (hb hby d1_9) rfl rfl k) ?_
  show own_Go p e below s _ _ _ (T2.setTop (mkF m 10 #[lR a, lI 1, lI 4, lJ pl_, lS, lD pd_, lS, lU] [(.ref a)]))
  refine own_via (fun _ k => XS.lloadN X2.here hx rfl (hb hby d1_10) rfl k) ?_
  show own_Go p e below s _ _ _ (T2.setTop (mkF m 11 #[lR a, lI 1, lI 4, lJ pl_, lS, lD pd_, lS, lU] [(.long pl_), (.ref a)]))
  have F3 := (E_a.wr W2)
  have F4 := (F_lengthLimit_a.other W2 (Or.inr (slot_ne (Or.inr (hwi hw 14 rfl)) (Or.inr (hwi hw 12 rfl)) (by decide) (t := .long) (t' := .int) (by decide) (by decide))))
  obtain ⟨T5, h5, X5, e5, W5, st5⟩ := putF X2 hx hZ hown (host := "") (Or.inl (hwi hw 13 rfl)) Via.refl e2 F4 F3 (Or.inr ⟨(hwi hw 14 rfl), rfl, hnm⟩) (hwi hw 3 rfl) (ty := .long) (by decide) rfl rfl (g := (mkF m 11 #[lR a, lI 1, lI 4, lJ pl_, lS, lD pd_, lS, lU] [(.long pl_), (.ref a)])) rfl rfl (hb hby d1_11)
  have N5 := Fr.snoc X5 N2 g_a
  have Fw5 := F4.same W5
  have Z5 : n0 ≤ h5.size := Nat.le_trans Z2 (Keep.of_wr W5).1
  have K5 : Keep h0 h5 [a] := K2.wr W5 (Or.inl (List.mem_of_getElem? (i := 0) rfl))
  refine own_via st5 ?_
  show own_Go p e below s _ _ _ (T5.setTop (mkF m 14 #[lR a, lI 1, lI 4, lJ pl_, lS, lD pd_, lS, lU] []))
  refine own_via (fun _ k => XS.aloadN X5.here hx rfl (hb hby d1_14) rfl rfl k) ?_
  show own_Go p e below s _ _ _ (T5.setTop (mkF m 15 #[lR a, lI 1, lI 4, lJ pl_, lS, lD pd_, lS, lU] [(.ref a)]))
  refine own_via (fun _ k => XS.lloadN X5.here hx rfl (hb hby d1_15) rfl k) ?_
  show own_Go p e below s _ _ _ (T5.setTop (mkF m 16 #[lR a, lI 1, lI 4, lJ pl_, lS, lD pd_, lS, lU] [(.long pl_), (.ref a)]))
  refine own_via (fun _ k => X5.ldc2Long hx hown (mvT hZ (hwi hw 15 rfl)) (g := (mkF m 16 #[lR a, lI 1, lI 4, lJ pl_, lS, lD pd_, lS, lU] [(.long pl_), (.ref a)])) rfl (hb hby d1_16) _ k) ?_
  show own_Go p e below s _ _ _ (T5.setTop (mkF m 19 #[lR a, lI 1, lI 4, lJ pl_, lS, lD pd_, lS, lU] [(.long (2147483647 : Int64)), (.long pl_), (.ref a)]))
  obtain ⟨_, _, ⟨T6, L6, k6, n6⟩, -, X6, ⟨Lc6, hQ6, l6, y6, z6⟩, st6⟩ := Jvm.LawKit.callS X5 hx (y := (⟨"java/lang/Math", "min", "(JJ)J"⟩ : MethodName)) hown (mvT hZ (hwi hw 16 rfl)) (mvT hZ (hwi hw 17 rfl)) (mvT hZ (hwi hw 18 rfl)) (mvT hZ (hwi hw 19 rfl)) (by decide) (backOf (W := 1) (rm3 l Z a0 hw [] pl_ (2147483647 : Int64) h5 n0 Z5 ) hZ (hwi hw 19 rfl) (hwi hw 18 rfl) (by decide) (by decide)) (g := (mkF m 19 #[lR a, lI 1, lI 4, lJ pl_, lS, lD pd_, lS, lU] [(.long (2147483647 : Int64)), (.long pl_), (.ref a)])) rfl (by rw [hml]; rfl) (argsL := [(.long pl_), (.long (2147483647 : Int64))]) (rest := [(.ref a)]) (lenOf pd_1 rfl) rfl (by show 2 * 0 + _ ≤ _; exact Nat.le_of_eq rfl) (hb hby d1_19) (fun _ _ => ⟨rfl, e5, (by decide : 0 + 0 ≤ _), (by decide : 0 + 0 ≤ _)⟩)
  dsimp only [Pt.U, Pt.locs, Pt.cells, Pt.slots] at X6 l6 y6 z6 st6 hQ6
  subst l6 y6 z6
  obtain ⟨rfl, N6q, e6⟩ := hQ6
  have N6 := Fr.app N5 N6q
  refine own_via st6 ?_
  show own_Go p e below s _ _ _ (T6.setTop (mkF m 22 #[lR a, lI 1, lI 4, lJ pl_, lS, lD pd_, lS, lU] [(.long (own_minJ pl_ (2147483647 : Int64))), (.ref a)]))
  have F7 := (F3.wr W5)
  have F8 := ((F_longestWithin_a.other W2 (Or.inr (slot_ne (Or.inr (hwi hw 21 rfl)) (Or.inr (hwi hw 12 rfl)) (by decide) (t := .long) (t' := .int) (by decide) (by decide)))).other W5 (Or.inr (slot_ne (Or.inr (hwi hw 21 rfl)) (Or.inr (hwi hw 14 rfl)) (by decide) (t := .long) (t' := .long) (by decide) (by decide))))
  obtain ⟨T9, h9, X9, e9, W9, st9⟩ := putF X6 hx hZ hown (host := "") (Or.inl (hwi hw 20 rfl)) Via.refl e6 F8 F7 (Or.inr ⟨(hwi hw 21 rfl), rfl, hnm⟩) (hwi hw 3 rfl) (ty := .long) (by decide) rfl rfl (g := (mkF m 22 #[lR a, lI 1, lI 4, lJ pl_, lS, lD pd_, lS, lU] [(.long (own_minJ pl_ (2147483647 : Int64))), (.ref a)])) rfl rfl (hb hby d1_22)
  have N9 := Fr.snoc X9 N6 g_a
  have Fw9 := F8.same W9
  have Z9 : n0 ≤ h9.size := Nat.le_trans Z5 (Keep.of_wr W9).1
  have K9 : Keep h0 h9 [a] := K5.wr W9 (Or.inl (List.mem_of_getElem? (i := 0) rfl))
  refine own_via st9 ?_
  show own_Go p e below s _ _ _ (T9.setTop (mkF m 25 #[lR a, lI 1, lI 4, lJ pl_, lS, lD pd_, lS, lU] []))
  refine own_via (fun _ k => XS.aloadN X9.here hx rfl (hb hby d1_25) rfl rfl k) ?_
  show own_Go p e below s _ _ _ (T9.setTop (mkF m 26 #[lR a, lI 1, lI 4, lJ pl_, lS, lD pd_, lS, lU] [(.ref a)]))
  refine own_via (fun _ k => XS.dload X9.here hx rfl (hb hby d1_26) rfl k) ?_
  show own_Go p e below s _ _ _ (T9.setTop (mkF m 28 #[lR a, lI 1, lI 4, lJ pl_, lS, lD pd_, lS, lU] [(.double pd_), (.ref a)]))
  have F10 := (F7.wr W9)
  have F11 := (((F_dearestStep_a.other W2 (Or.inr (slot_ne (Or.inr (hwi hw 23 rfl)) (Or.inr (hwi hw 12 rfl)) (by decide) (t := .double) (t' := .int) (by decide) (by decide)))).other W5 (Or.inr (slot_ne (Or.inr (hwi hw 23 rfl)) (Or.inr (hwi hw 14 rfl)) (by decide) (t := .double) (t' := .long) (by decide) (by decide)))).other W9 (Or.inr (slot_ne (Or.inr (hwi hw 23 rfl)) (Or.inr (hwi hw 21 rfl)) (by decide) (t := .double) (t' := .long) (by decide) (by decide))))
  obtain ⟨T12, h12, X12, e12, W12, st12⟩ := putF X9 hx hZ hown (host := "") (Or.inl (hwi hw 22 rfl)) Via.refl e9 F11 F10 (Or.inr ⟨(hwi hw 23 rfl), rfl, hnm⟩) (hwi hw 3 rfl) (ty := .double) (by decide) rfl rfl (g := (mkF m 28 #[lR a, lI 1, lI 4, lJ pl_, lS, lD pd_, lS, lU] [(.double pd_), (.ref a)])) rfl rfl (hb hby d1_28)
  have N12 := Fr.snoc X12 N9 g_a
  have Fw12 := F11.same W12
  have Z12 : n0 ≤ h12.size := Nat.le_trans Z9 (Keep.of_wr W12).1
  have K12 : Keep h0 h12 [a] := K9.wr W12 (Or.inl (List.mem_of_getElem? (i := 0) rfl))
  refine own_via st12 ?_
  show own_Go p e below s _ _ _ (T12.setTop (mkF m 31 #[lR a, lI 1, lI 4, lJ pl_, lS, lD pd_, lS, lU] []))
  refine own_via (fun _ k => XS.bipush X12.here hx rfl (hb hby d1_31) k) ?_
  show own_Go p e below s _ _ _ (T12.setTop (mkF m 33 #[lR a, lI 1, lI 4, lJ pl_, lS, lD pd_, lS, lU] [(.int (64 : Int32))]))
  refine own_via (fun _ k => XS.iloadN X12.here hx rfl (hb hby d1_33) rfl k) ?_
  show own_Go p e below s _ _ _ (T12.setTop (mkF m 34 #[lR a, lI 1, lI 4, lJ pl_, lS, lD pd_, lS, lU] [(.int (4 : Int32)), (.int (64 : Int32))]))
  refine own_via (fun _ k => X12.ldcInt hx hown (mvT hZ (hwi hw 24 rfl)) (g := (mkF m 34 #[lR a, lI 1, lI 4, lJ pl_, lS, lD pd_, lS, lU] [(.int (4 : Int32)), (.int (64 : Int32))])) rfl (hb hby d1_34) _ k) ?_
  show own_Go p e below s _ _ _ (T12.setTop (mkF m 36 #[lR a, lI 1, lI 4, lJ pl_, lS, lD pd_, lS, lU] [(.int (65536 : Int32)), (.int (4 : Int32)), (.int (64 : Int32))]))
  obtain ⟨_, _, ⟨T13, L13, k13, n13⟩, -, X13, ⟨Lc13, hQ13, l13, y13, z13⟩, st13⟩ := Jvm.LawKit.callS X12 hx (y := (⟨"java/lang/Math", "min", "(II)I"⟩ : MethodName)) hown (mvT hZ (hwi hw 25 rfl)) (mvT hZ (hwi hw 26 rfl)) (mvT hZ (hwi hw 18 rfl)) (mvT hZ (hwi hw 27 rfl)) (by decide) (backOf (W := 1) (rm4 l Z a0 hw [] (4 : Int32) (65536 : Int32) h12 n0 Z12 ) hZ (hwi hw 27 rfl) (hwi hw 18 rfl) (by decide) (by decide)) (g := (mkF m 36 #[lR a, lI 1, lI 4, lJ pl_, lS, lD pd_, lS, lU] [(.int (65536 : Int32)), (.int (4 : Int32)), (.int (64 : Int32))])) rfl (by rw [hml]; rfl) (argsL := [(.int (4 : Int32)), (.int (65536 : Int32))]) (rest := [(.int (64 : Int32))]) (lenOf pd_2 rfl) rfl (by show 2 * 0 + _ ≤ _; exact Nat.le_of_eq rfl) (hb hby d1_36) (fun _ _ => ⟨rfl, e12, (by decide : 0 + 0 ≤ _), (by decide : 0 + 0 ≤ _)⟩)
  dsimp only [Pt.U, Pt.locs, Pt.cells, Pt.slots] at X13 l13 y13 z13 st13 hQ13
  subst l13 y13 z13
  obtain ⟨rfl, N13q, e13⟩ := hQ13
  have N13 := Fr.app N12 N13q
  refine own_via st13 ?_
  show own_Go p e below s _ _ _ (T13.setTop (mkF m 39 #[lR a, lI 1, lI 4, lJ pl_, lS, lD pd_, lS, lU] [(.int (own_min (4 : Int32) (65536 : Int32))), (.int (64 : Int32))]))
  rw [show (own_min (4 : Int32) (65536 : Int32)) = (4 : Int32) from (by decide)]
  show own_Go p e below s _ _ _ (T13.setTop (mkF m 39 #[lR a, lI 1, lI 4, lJ pl_, lS, lD pd_, lS, lU] [(.int (4 : Int32)), (.int (64 : Int32))]))
  refine own_via (fun _ k => XS.iconst X13.here hx rfl (hb hby d1_39) k) ?_
  show own_Go p e below s _ _ _ (T13.setTop (mkF m 40 #[lR a, lI 1, lI 4, lJ pl_, lS, lD pd_, lS, lU] [(.int (1 : Int32)), (.int (4 : Int32)), (.int (64 : Int32))]))
  refine own_via (fun _ k => XS.isub X13.here hx rfl (hb hby d1_40) rfl k) ?_
  show own_Go p e below s _ _ _ (T13.setTop (mkF m 41 #[lR a, lI 1, lI 4, lJ pl_, lS, lD pd_, lS, lU] [(.int (3 : Int32)), (.int (64 : Int32))]))
  obtain ⟨_, _, ⟨T14, L14, k14, n14⟩, -, X14, ⟨Lc14, hQ14, l14, y14, z14⟩, st14⟩ := Jvm.LawKit.callS X13 hx (y := (⟨"java/lang/Integer", "highestOneBit", "(I)I"⟩ : MethodName)) hown (mvT hZ (hwi hw 28 rfl)) (mvT hZ (hwi hw 29 rfl)) (mvT hZ (hwi hw 30 rfl)) (mvT hZ (hwi hw 31 rfl)) (by decide) (backOf (W := 1) (rm5 l Z a0 hw [] (3 : Int32) h12 n0 Z12 (by first | decide | (simp; done))) hZ (hwi hw 31 rfl) (hwi hw 30 rfl) (by decide) (by decide)) (g := (mkF m 41 #[lR a, lI 1, lI 4, lJ pl_, lS, lD pd_, lS, lU] [(.int (3 : Int32)), (.int (64 : Int32))])) rfl (by rw [hml]; rfl) (argsL := [(.int (3 : Int32))]) (rest := [(.int (64 : Int32))]) (lenOf pd_0 rfl) rfl (by show 2 * 0 + _ ≤ _; exact Nat.le_of_eq rfl) (hb hby d1_41) (fun _ _ => ⟨rfl, e13, (by decide : 0 + 0 ≤ _), (by decide : 0 + 0 ≤ _)⟩)
  dsimp only [Pt.U, Pt.locs, Pt.cells, Pt.slots] at X14 l14 y14 z14 st14 hQ14
  subst l14 y14 z14
  obtain ⟨rfl, N14q, e14⟩ := hQ14
  have N14 := Fr.app N13 N14q
  refine own_via st14 ?_
  show own_Go p e below s _ _ _ (T14.setTop (mkF m 44 #[lR a, lI 1, lI 4, lJ pl_, lS, lD pd_, lS, lU] [(.int (2 : Int32)), (.int (64 : Int32))]))
  refine own_via (fun _ k => XS.iconst X14.here hx rfl (hb hby d1_44) k) ?_
  show own_Go p e below s _ _ _ (T14.setTop (mkF m 45 #[lR a, lI 1, lI 4, lJ pl_, lS, lD pd_, lS, lU] [(.int (1 : Int32)), (.int (2 : Int32)), (.int (64 : Int32))]))
  refine own_via (fun _ k => XS.ishl X14.here hx rfl (hb hby d1_45) rfl k) ?_
  show own_Go p e below s _ _ _ (T14.setTop (mkF m 46 #[lR a, lI 1, lI 4, lJ pl_, lS, lD pd_, lS, lU] [(.int (o_ishl (2 : Int32) (1 : Int32))), (.int (64 : Int32))]))
  rw [show (o_ishl (2 : Int32) (1 : Int32)) = (4 : Int32) from (by decide)]
  show own_Go p e below s _ _ _ (T14.setTop (mkF m 46 #[lR a, lI 1, lI 4, lJ pl_, lS, lD pd_, lS, lU] [(.int (4 : Int32)), (.int (64 : Int32))]))
  obtain ⟨_, _, ⟨T15, L15, k15, n15⟩, -, X15, ⟨Lc15, hQ15, l15, y15, z15⟩, st15⟩ := Jvm.LawKit.callS X14 hx (y := (⟨"java/lang/Math", "max", "(II)I"⟩ : MethodName)) hown (mvT hZ (hwi hw 37 rfl)) (mvT hZ (hwi hw 38 rfl)) (mvT hZ (hwi hw 18 rfl)) (mvT hZ (hwi hw 39 rfl)) (by decide) (backOf (W := 0) (rm7 l Z a0 hw [] (64 : Int32) (4 : Int32) h12 n0 Z12 ) hZ (hwi hw 39 rfl) (hwi hw 18 rfl) (by decide) (by decide)) (g := (mkF m 46 #[lR a, lI 1, lI 4, lJ pl_, lS, lD pd_, lS, lU] [(.int (4 : Int32)), (.int (64 : Int32))])) rfl (by rw [hml]; rfl) (argsL := [(.int (64 : Int32)), (.int (4 : Int32))]) (rest := []) (lenOf pd_2 rfl) rfl (by show 2 * 0 + _ ≤ _; exact Nat.le_of_eq rfl) (hb hby d1_46) (fun _ _ => ⟨rfl, e14, (by decide : 0 + 0 ≤ _), (by decide : 0 + 0 ≤ _)⟩)
  dsimp only [Pt.U, Pt.locs, Pt.cells, Pt.slots] at X15 l15 y15 z15 st15 hQ15
  subst l15 y15 z15
  obtain ⟨rfl, N15q, e15⟩ := hQ15
  have N15 := Fr.app N14 N15q
  refine own_via st15 ?_
  show own_Go p e below s _ _ _ (T15.setTop (mkF m 49 #[lR a, lI 1, lI 4, lJ pl_, lS, lD pd_, lS, lU] [(.int (own_max (64 : Int32) (4 : Int32)))]))
  rw [show (own_max (64 : Int32) (4 : Int32)) = (64 : Int32) from (by decide)]
  show own_Go p e below s _ _ _ (T15.setTop (mkF m 49 #[lR a, lI 1, lI 4, lJ pl_, lS, lD pd_, lS, lU] [(.int (64 : Int32))]))
  refine own_via (fun _ k => XS.istore X15.here hx rfl (hb hby d1_49) rfl (l' := #[lR a, lI 1, lI 4, lJ pl_, lS, lD pd_, lS, lI 64]) rfl k) ?_
  show own_Go p e below s _ _ _ (T15.setTop (mkF m 51 #[lR a, lI 1, lI 4, lJ pl_, lS, lD pd_, lS, lI 64] []))
  refine own_via (fun _ k => XS.aloadN X15.here hx rfl (hb hby d1_51) rfl rfl k) ?_
  show own_Go p e below s _ _ _ (T15.setTop (mkF m 52 #[lR a, lI 1, lI 4, lJ pl_, lS, lD pd_, lS, lI 64] [(.ref a)]))
  refine own_via (fun _ k => XS.iload X15.here hx rfl (hb hby d1_52) rfl k) ?_
  show own_Go p e below s _ _ _ (T15.setTop (mkF m 54 #[lR a, lI 1, lI 4, lJ pl_, lS, lD pd_, lS, lI 64] [(.int (64 : Int32)), (.ref a)]))
  refine own_via (fun _ k => XS.iloadN X15.here hx rfl (hb hby d1_54) rfl k) ?_
  show own_Go p e below s _ _ _ (T15.setTop (mkF m 55 #[lR a, lI 1, lI 4, lJ pl_, lS, lD pd_, lS, lI 64] [(.int (1 : Int32)), (.int (64 : Int32)), (.ref a)]))
  refine own_via (fun _ k => XS.imul X15.here hx rfl (hb hby d1_55) rfl k) ?_
  show own_Go p e below s _ _ _ (T15.setTop (mkF m 56 #[lR a, lI 1, lI 4, lJ pl_, lS, lD pd_, lS, lI 64] [(.int (64 : Int32)), (.ref a)]))
  obtain ⟨T16, h16, k16, X16, e16, E16, A16, st16⟩ := newP X15 hx hZ (hwi hw 1 rfl) e15 (g := (mkF m 56 #[lR a, lI 1, lI 4, lJ pl_, lS, lD pd_, lS, lI 64] [(.int (64 : Int32)), (.ref a)])) rfl (hb hby d1_56) rfl (by decide) (cap := 64) (by decide) (by decide) (by decide) (by decide)
  obtain ⟨b16, gg16⟩ : ∃ z, z = h12.size := ⟨_, rfl⟩
  rw [← gg16] at A16 st16
  have ne_a_b16 : a ≠ b16 := Nat.ne_of_lt (Nat.lt_of_lt_of_le (F10.wr W12).lt (Nat.le_of_eq gg16.symm))
  have g_b16 : n0 ≤ b16 := Nat.le_trans Z12 (Nat.le_of_eq gg16.symm)
  have sz_b16 : h0.size ≤ b16 := Nat.le_trans K12.1 (Nat.le_of_eq gg16.symm)
  have Z16 : n0 ≤ h16.size := Nat.le_trans Z12 E16.1
  have K16 : Keep h0 h16 [a] := K12.ext E16
  have V16 : Arv Z h16 b16 k16 .long (64 : Int32) [(.long (0 : Int64)), (.long (0 : Int64)), (.long (0 : Int64)), (.long (0 : Int64))] (.long (0 : Int64)) := (Arv.new A16 (by decide)).pad (pad_rep [] (.long (0 : Int64)) 4)
  refine own_via st16 ?_
  show own_Go p e below s _ _ _ (T16.setTop (mkF m 58 #[lR a, lI 1, lI 4, lJ pl_, lS, lD pd_, lS, lI 64] [(.ref b16), (.ref a)]))
  have F17 := ((F10.wr W12).ext E16)
  have F18 := (((((F_states_a.other W2 (Or.inr (slot_ne (Or.inl (hwi hw 41 rfl)) (Or.inr (hwi hw 12 rfl)) (by decide) (t := (.array .long)) (t' := .int) (by decide) (by decide)))).other W5 (Or.inr (slot_ne (Or.inl (hwi hw 41 rfl)) (Or.inr (hwi hw 14 rfl)) (by decide) (t := (.array .long)) (t' := .long) (by decide) (by decide)))).other W9 (Or.inr (slot_ne (Or.inl (hwi hw 41 rfl)) (Or.inr (hwi hw 21 rfl)) (by decide) (t := (.array .long)) (t' := .long) (by decide) (by decide)))).other W12 (Or.inr (slot_ne (Or.inl (hwi hw 41 rfl)) (Or.inr (hwi hw 23 rfl)) (by decide) (t := (.array .long)) (t' := .double) (by decide) (by decide)))).ext E16)
  obtain ⟨T19, h19, X19, e19, W19, st19⟩ := putF X16 hx hZ hown (host := "") (Or.inl (hwi hw 40 rfl)) Via.refl e16 F18 F17 (Or.inl (hwi hw 41 rfl)) (hwi hw 3 rfl) (ty := (.array .long)) (by decide) rfl rfl (g := (mkF m 58 #[lR a, lI 1, lI 4, lJ pl_, lS, lD pd_, lS, lI 64] [(.ref b16), (.ref a)])) rfl rfl (hb hby d1_58)
  have N19 := Fr.snoc X19 N15 g_a
  have Fw19 := F18.same W19
  have Z19 : n0 ≤ h19.size := Nat.le_trans Z16 (Keep.of_wr W19).1
  have K19 : Keep h0 h19 [a] := K16.wr W19 (Or.inl (List.mem_of_getElem? (i := 0) rfl))
  refine own_via st19 ?_
  show own_Go p e below s _ _ _ (T19.setTop (mkF m 61 #[lR a, lI 1, lI 4, lJ pl_, lS, lD pd_, lS, lI 64] []))
  refine own_via (fun _ k => XS.aloadN X19.here hx rfl (hb hby d1_61) rfl rfl k) ?_
  show own_Go p e below s _ _ _ (T19.setTop (mkF m 62 #[lR a, lI 1, lI 4, lJ pl_, lS, lD pd_, lS, lI 64] [(.ref a)]))
  refine own_via (fun _ k => XS.iload X19.here hx rfl (hb hby d1_62) rfl k) ?_
  show own_Go p e below s _ _ _ (T19.setTop (mkF m 64 #[lR a, lI 1, lI 4, lJ pl_, lS, lD pd_, lS, lI 64] [(.int (64 : Int32)), (.ref a)]))
  obtain ⟨T20, h20, k20, X20, e20, E20, A20, st20⟩ := newP X19 hx hZ (hwi hw 42 rfl) e19 (g := (mkF m 64 #[lR a, lI 1, lI 4, lJ pl_, lS, lD pd_, lS, lI 64] [(.int (64 : Int32)), (.ref a)])) rfl (hb hby d1_64) rfl (by decide) (cap := 64) (by decide) (by decide) (by decide) (by decide)
  obtain ⟨b20, gg20⟩ : ∃ z, z = h19.size := ⟨_, rfl⟩
  rw [← gg20] at A20 st20
  have ne_a_b20 : a ≠ b20 := Nat.ne_of_lt (Nat.lt_of_lt_of_le (F17.wr W19).lt (Nat.le_of_eq gg20.symm))
  have ne_b16_b20 : b16 ≠ b20 := Nat.ne_of_lt (Nat.lt_of_lt_of_le (V16.other W19 (Ne.symm ne_a_b16)).lt (Nat.le_of_eq gg20.symm))
  have g_b20 : n0 ≤ b20 := Nat.le_trans Z19 (Nat.le_of_eq gg20.symm)
  have sz_b20 : h0.size ≤ b20 := Nat.le_trans K19.1 (Nat.le_of_eq gg20.symm)
  have Z20 : n0 ≤ h20.size := Nat.le_trans Z19 E20.1
  have K20 : Keep h0 h20 [a] := K19.ext E20
  have V20 : Arv Z h20 b20 k20 .double (64 : Int32) [(.double (0 : UInt64)), (.double (0 : UInt64)), (.double (0 : UInt64)), (.double (0 : UInt64))] (.double (0 : UInt64)) := (Arv.new A20 (by decide)).pad (pad_rep [] (.double (0 : UInt64)) 4)
  refine own_via st20 ?_
  show own_Go p e below s _ _ _ (T20.setTop (mkF m 66 #[lR a, lI 1, lI 4, lJ pl_, lS, lD pd_, lS, lI 64] [(.ref b20), (.ref a)]))
  have F21 := ((F17.wr W19).ext E20)
  have F22 := (((((((F_costs_a.other W2 (Or.inr (slot_ne (Or.inl (hwi hw 44 rfl)) (Or.inr (hwi hw 12 rfl)) (by decide) (t := (.array .double)) (t' := .int) (by decide) (by decide)))).other W5 (Or.inr (slot_ne (Or.inl (hwi hw 44 rfl)) (Or.inr (hwi hw 14 rfl)) (by decide) (t := (.array .double)) (t' := .long) (by decide) (by decide)))).other W9 (Or.inr (slot_ne (Or.inl (hwi hw 44 rfl)) (Or.inr (hwi hw 21 rfl)) (by decide) (t := (.array .double)) (t' := .long) (by decide) (by decide)))).other W12 (Or.inr (slot_ne (Or.inl (hwi hw 44 rfl)) (Or.inr (hwi hw 23 rfl)) (by decide) (t := (.array .double)) (t' := .double) (by decide) (by decide)))).ext E16).other W19 (Or.inr (slot_ne (Or.inl (hwi hw 44 rfl)) (Or.inl (hwi hw 41 rfl)) (by decide) (t := (.array .double)) (t' := (.array .long)) (by decide) (by decide)))).ext E20)
  obtain ⟨T23, h23, X23, e23, W23, st23⟩ := putF X20 hx hZ hown (host := "") (Or.inl (hwi hw 43 rfl)) Via.refl e20 F22 F21 (Or.inl (hwi hw 44 rfl)) (hwi hw 3 rfl) (ty := (.array .double)) (by decide) rfl rfl (g := (mkF m 66 #[lR a, lI 1, lI 4, lJ pl_, lS, lD pd_, lS, lI 64] [(.ref b20), (.ref a)])) rfl rfl (hb hby d1_66)
  have N23 := Fr.snoc X23 N19 g_a
  have Fw23 := F22.same W23
  have Z23 : n0 ≤ h23.size := Nat.le_trans Z20 (Keep.of_wr W23).1
  have K23 : Keep h0 h23 [a] := K20.wr W23 (Or.inl (List.mem_of_getElem? (i := 0) rfl))
  refine own_via st23 ?_
  show own_Go p e below s _ _ _ (T23.setTop (mkF m 69 #[lR a, lI 1, lI 4, lJ pl_, lS, lD pd_, lS, lI 64] []))
  refine own_via (fun _ k => XS.aloadN X23.here hx rfl (hb hby d1_69) rfl rfl k) ?_
  show own_Go p e below s _ _ _ (T23.setTop (mkF m 70 #[lR a, lI 1, lI 4, lJ pl_, lS, lD pd_, lS, lI 64] [(.ref a)]))
  refine own_via (fun _ k => XS.iload X23.here hx rfl (hb hby d1_70) rfl k) ?_
  show own_Go p e below s _ _ _ (T23.setTop (mkF m 72 #[lR a, lI 1, lI 4, lJ pl_, lS, lD pd_, lS, lI 64] [(.int (64 : Int32)), (.ref a)]))
  obtain ⟨T24, h24, k24, X24, e24, E24, A24, st24⟩ := newP X23 hx hZ (hwi hw 42 rfl) e23 (g := (mkF m 72 #[lR a, lI 1, lI 4, lJ pl_, lS, lD pd_, lS, lI 64] [(.int (64 : Int32)), (.ref a)])) rfl (hb hby d1_72) rfl (by decide) (cap := 64) (by decide) (by decide) (by decide) (by decide)
  obtain ⟨b24, gg24⟩ : ∃ z, z = h23.size := ⟨_, rfl⟩
  rw [← gg24] at A24 st24
  have ne_a_b24 : a ≠ b24 := Nat.ne_of_lt (Nat.lt_of_lt_of_le (F21.wr W23).lt (Nat.le_of_eq gg24.symm))
  have ne_b16_b24 : b16 ≠ b24 := Nat.ne_of_lt (Nat.lt_of_lt_of_le (((V16.other W19 (Ne.symm ne_a_b16)).ext E20).other W23 (Ne.symm ne_a_b16)).lt (Nat.le_of_eq gg24.symm))
  have ne_b20_b24 : b20 ≠ b24 := Nat.ne_of_lt (Nat.lt_of_lt_of_le (V20.other W23 (Ne.symm ne_a_b20)).lt (Nat.le_of_eq gg24.symm))
  have g_b24 : n0 ≤ b24 := Nat.le_trans Z23 (Nat.le_of_eq gg24.symm)
  have sz_b24 : h0.size ≤ b24 := Nat.le_trans K23.1 (Nat.le_of_eq gg24.symm)
  have Z24 : n0 ≤ h24.size := Nat.le_trans Z23 E24.1
  have K24 : Keep h0 h24 [a] := K23.ext E24
  have V24 : Arv Z h24 b24 k24 .double (64 : Int32) [(.double (0 : UInt64)), (.double (0 : UInt64)), (.double (0 : UInt64)), (.double (0 : UInt64))] (.double (0 : UInt64)) := (Arv.new A24 (by decide)).pad (pad_rep [] (.double (0 : UInt64)) 4)
  refine own_via st24 ?_
  show own_Go p e below s _ _ _ (T24.setTop (mkF m 74 #[lR a, lI 1, lI 4, lJ pl_, lS, lD pd_, lS, lI 64] [(.ref b24), (.ref a)]))
  have F25 := ((F21.wr W23).ext E24)
  have F26 := (((((((((F_stepCosts_a.other W2 (Or.inr (slot_ne (Or.inl (hwi hw 46 rfl)) (Or.inr (hwi hw 12 rfl)) (by decide) (t := (.array .double)) (t' := .int) (by decide) (by decide)))).other W5 (Or.inr (slot_ne (Or.inl (hwi hw 46 rfl)) (Or.inr (hwi hw 14 rfl)) (by decide) (t := (.array .double)) (t' := .long) (by decide) (by decide)))).other W9 (Or.inr (slot_ne (Or.inl (hwi hw 46 rfl)) (Or.inr (hwi hw 21 rfl)) (by decide) (t := (.array .double)) (t' := .long) (by decide) (by decide)))).other W12 (Or.inr (slot_ne (Or.inl (hwi hw 46 rfl)) (Or.inr (hwi hw 23 rfl)) (by decide) (t := (.array .double)) (t' := .double) (by decide) (by decide)))).ext E16).other W19 (Or.inr (slot_ne (Or.inl (hwi hw 46 rfl)) (Or.inl (hwi hw 41 rfl)) (by decide) (t := (.array .double)) (t' := (.array .long)) (by decide) (by decide)))).ext E20).other W23 (Or.inr (slot_ne (Or.inl (hwi hw 46 rfl)) (Or.inl (hwi hw 44 rfl)) (by decide) (t := (.array .double)) (t' := (.array .double)) (by decide) (by decide)))).ext E24)
  obtain ⟨T27, h27, X27, e27, W27, st27⟩ := putF X24 hx hZ hown (host := "") (Or.inl (hwi hw 45 rfl)) Via.refl e24 F26 F25 (Or.inl (hwi hw 46 rfl)) (hwi hw 3 rfl) (ty := (.array .double)) (by decide) rfl rfl (g := (mkF m 74 #[lR a, lI 1, lI 4, lJ pl_, lS, lD pd_, lS, lI 64] [(.ref b24), (.ref a)])) rfl rfl (hb hby d1_74)
  have N27 := Fr.snoc X27 N23 g_a
  have Fw27 := F26.same W27
  have Z27 : n0 ≤ h27.size := Nat.le_trans Z24 (Keep.of_wr W27).1
  have K27 : Keep h0 h27 [a] := K24.wr W27 (Or.inl (List.mem_of_getElem? (i := 0) rfl))
  refine own_via st27 ?_
  show own_Go p e below s _ _ _ (T27.setTop (mkF m 77 #[lR a, lI 1, lI 4, lJ pl_, lS, lD pd_, lS, lI 64] []))
  refine own_via (fun _ k => XS.aloadN X27.here hx rfl (hb hby d1_77) rfl rfl k) ?_
  show own_Go p e below s _ _ _ (T27.setTop (mkF m 78 #[lR a, lI 1, lI 4, lJ pl_, lS, lD pd_, lS, lI 64] [(.ref a)]))
  refine own_via (fun _ k => XS.iload X27.here hx rfl (hb hby d1_78) rfl k) ?_
  show own_Go p e below s _ _ _ (T27.setTop (mkF m 80 #[lR a, lI 1, lI 4, lJ pl_, lS, lD pd_, lS, lI 64] [(.int (64 : Int32)), (.ref a)]))
  obtain ⟨T28, h28, k28, X28, e28, E28, A28, st28⟩ := newP X27 hx hZ (hwi hw 47 rfl) e27 (g := (mkF m 80 #[lR a, lI 1, lI 4, lJ pl_, lS, lD pd_, lS, lI 64] [(.int (64 : Int32)), (.ref a)])) rfl (hb hby d1_80) rfl (by decide) (cap := 64) (by decide) (by decide) (by decide) (by decide)
  obtain ⟨b28, gg28⟩ : ∃ z, z = h27.size := ⟨_, rfl⟩
  rw [← gg28] at A28 st28
  have ne_a_b28 : a ≠ b28 := Nat.ne_of_lt (Nat.lt_of_lt_of_le (F25.wr W27).lt (Nat.le_of_eq gg28.symm))
  have ne_b16_b28 : b16 ≠ b28 := Nat.ne_of_lt (Nat.lt_of_lt_of_le (((((V16.other W19 (Ne.symm ne_a_b16)).ext E20).other W23 (Ne.symm ne_a_b16)).ext E24).other W27 (Ne.symm ne_a_b16)).lt (Nat.le_of_eq gg28.symm))
  have ne_b20_b28 : b20 ≠ b28 := Nat.ne_of_lt (Nat.lt_of_lt_of_le (((V20.other W23 (Ne.symm ne_a_b20)).ext E24).other W27 (Ne.symm ne_a_b20)).lt (Nat.le_of_eq gg28.symm))
  have ne_b24_b28 : b24 ≠ b28 := Nat.ne_of_lt (Nat.lt_of_lt_of_le (V24.other W27 (Ne.symm ne_a_b24)).lt (Nat.le_of_eq gg28.symm))
  have g_b28 : n0 ≤ b28 := Nat.le_trans Z27 (Nat.le_of_eq gg28.symm)
  have sz_b28 : h0.size ≤ b28 := Nat.le_trans K27.1 (Nat.le_of_eq gg28.symm)
  have Z28 : n0 ≤ h28.size := Nat.le_trans Z27 E28.1
  have K28 : Keep h0 h28 [a] := K27.ext E28
  have V28 : Arv Z h28 b28 k28 .int (64 : Int32) [(.int (0 : Int32)), (.int (0 : Int32)), (.int (0 : Int32)), (.int (0 : Int32))] (.int (0 : Int32)) := (Arv.new A28 (by decide)).pad (pad_rep [] (.int (0 : Int32)) 4)
  refine own_via st28 ?_
  show own_Go p e below s _ _ _ (T28.setTop (mkF m 82 #[lR a, lI 1, lI 4, lJ pl_, lS, lD pd_, lS, lI 64] [(.ref b28), (.ref a)]))
  have F29 := ((F25.wr W27).ext E28)
  have F30 := (((((((((((F_lengths_a.other W2 (Or.inr (slot_ne (Or.inl (hwi hw 49 rfl)) (Or.inr (hwi hw 12 rfl)) (by decide) (t := (.array .int)) (t' := .int) (by decide) (by decide)))).other W5 (Or.inr (slot_ne (Or.inl (hwi hw 49 rfl)) (Or.inr (hwi hw 14 rfl)) (by decide) (t := (.array .int)) (t' := .long) (by decide) (by decide)))).other W9 (Or.inr (slot_ne (Or.inl (hwi hw 49 rfl)) (Or.inr (hwi hw 21 rfl)) (by decide) (t := (.array .int)) (t' := .long) (by decide) (by decide)))).other W12 (Or.inr (slot_ne (Or.inl (hwi hw 49 rfl)) (Or.inr (hwi hw 23 rfl)) (by decide) (t := (.array .int)) (t' := .double) (by decide) (by decide)))).ext E16).other W19 (Or.inr (slot_ne (Or.inl (hwi hw 49 rfl)) (Or.inl (hwi hw 41 rfl)) (by decide) (t := (.array .int)) (t' := (.array .long)) (by decide) (by decide)))).ext E20).other W23 (Or.inr (slot_ne (Or.inl (hwi hw 49 rfl)) (Or.inl (hwi hw 44 rfl)) (by decide) (t := (.array .int)) (t' := (.array .double)) (by decide) (by decide)))).ext E24).other W27 (Or.inr (slot_ne (Or.inl (hwi hw 49 rfl)) (Or.inl (hwi hw 46 rfl)) (by decide) (t := (.array .int)) (t' := (.array .double)) (by decide) (by decide)))).ext E28)
  obtain ⟨T31, h31, X31, e31, W31, st31⟩ := putF X28 hx hZ hown (host := "") (Or.inl (hwi hw 48 rfl)) Via.refl e28 F30 F29 (Or.inl (hwi hw 49 rfl)) (hwi hw 3 rfl) (ty := (.array .int)) (by decide) rfl rfl (g := (mkF m 82 #[lR a, lI 1, lI 4, lJ pl_, lS, lD pd_, lS, lI 64] [(.ref b28), (.ref a)])) rfl rfl (hb hby d1_82)
  have N31 := Fr.snoc X31 N27 g_a
  have Fw31 := F30.same W31
  have Z31 : n0 ≤ h31.size := Nat.le_trans Z28 (Keep.of_wr W31).1
  have K31 : Keep h0 h31 [a] := K28.wr W31 (Or.inl (List.mem_of_getElem? (i := 0) rfl))
  refine own_via st31 ?_
  show own_Go p e below s _ _ _ (T31.setTop (mkF m 85 #[lR a, lI 1, lI 4, lJ pl_, lS, lD pd_, lS, lI 64] []))
  refine own_via (fun _ k => XS.aloadN X31.here hx rfl (hb hby d1_85) rfl rfl k) ?_
  show own_Go p e below s _ _ _ (T31.setTop (mkF m 86 #[lR a, lI 1, lI 4, lJ pl_, lS, lD pd_, lS, lI 64] [(.ref a)]))
  refine own_via (fun _ k => XS.iload X31.here hx rfl (hb hby d1_86) rfl k) ?_
  show own_Go p e below s _ _ _ (T31.setTop (mkF m 88 #[lR a, lI 1, lI 4, lJ pl_, lS, lD pd_, lS, lI 64] [(.int (64 : Int32)), (.ref a)]))
  obtain ⟨T32, h32, k32, X32, e32, E32, A32, st32⟩ := newP X31 hx hZ (hwi hw 47 rfl) e31 (g := (mkF m 88 #[lR a, lI 1, lI 4, lJ pl_, lS, lD pd_, lS, lI 64] [(.int (64 : Int32)), (.ref a)])) rfl (hb hby d1_88) rfl (by decide) (cap := 64) (by decide) (by decide) (by decide) (by decide)
  obtain ⟨b32, gg32⟩ : ∃ z, z = h31.size := ⟨_, rfl⟩
  rw [← gg32] at A32 st32
  have ne_a_b32 : a ≠ b32 := Nat.ne_of_lt (Nat.lt_of_lt_of_le (F29.wr W31).lt (Nat.le_of_eq gg32.symm))
  have ne_b16_b32 : b16 ≠ b32 := Nat.ne_of_lt (Nat.lt_of_lt_of_le (((((((V16.other W19 (Ne.symm ne_a_b16)).ext E20).other W23 (Ne.symm ne_a_b16)).ext E24).other W27 (Ne.symm ne_a_b16)).ext E28).other W31 (Ne.symm ne_a_b16)).lt (Nat.le_of_eq gg32.symm))
  have ne_b20_b32 : b20 ≠ b32 := Nat.ne_of_lt (Nat.lt_of_lt_of_le (((((V20.other W23 (Ne.symm ne_a_b20)).ext E24).other W27 (Ne.symm ne_a_b20)).ext E28).other W31 (Ne.symm ne_a_b20)).lt (Nat.le_of_eq gg32.symm))
  have ne_b24_b32 : b24 ≠ b32 := Nat.ne_of_lt (Nat.lt_of_lt_of_le (((V24.other W27 (Ne.symm ne_a_b24)).ext E28).other W31 (Ne.symm ne_a_b24)).lt (Nat.le_of_eq gg32.symm))
  have ne_b28_b32 : b28 ≠ b32 := Nat.ne_of_lt (Nat.lt_of_lt_of_le (V28.other W31 (Ne.symm ne_a_b28)).lt (Nat.le_of_eq gg32.symm))
  have g_b32 : n0 ≤ b32 := Nat.le_trans Z31 (Nat.le_of_eq gg32.symm)
  have sz_b32 : h0.size ≤ b32 := Nat.le_trans K31.1 (Nat.le_of_eq gg32.symm)
  have Z32 : n0 ≤ h32.size := Nat.le_trans Z31 E32.1
  have K32 : Keep h0 h32 [a] := K31.ext E32
  have V32 : Arv Z h32 b32 k32 .int (64 : Int32) [(.int (0 : Int32)), (.int (0 : Int32)), (.int (0 : Int32)), (.int (0 : Int32))] (.int (0 : Int32)) := (Arv.new A32 (by decide)).pad (pad_rep [] (.int (0 : Int32)) 4)
  refine own_via st32 ?_
  show own_Go p e below s _ _ _ (T32.setTop (mkF m 90 #[lR a, lI 1, lI 4, lJ pl_, lS, lD pd_, lS, lI 64] [(.ref b32), (.ref a)]))
  have F33 := ((F29.wr W31).ext E32)
  have F34 := (((((((((((((F_parents_a.other W2 (Or.inr (slot_ne (Or.inl (hwi hw 51 rfl)) (Or.inr (hwi hw 12 rfl)) (by decide) (t := (.array .int)) (t' := .int) (by decide) (by decide)))).other W5 (Or.inr (slot_ne (Or.inl (hwi hw 51 rfl)) (Or.inr (hwi hw 14 rfl)) (by decide) (t := (.array .int)) (t' := .long) (by decide) (by decide)))).other W9 (Or.inr (slot_ne (Or.inl (hwi hw 51 rfl)) (Or.inr (hwi hw 21 rfl)) (by decide) (t := (.array .int)) (t' := .long) (by decide) (by decide)))).other W12 (Or.inr (slot_ne (Or.inl (hwi hw 51 rfl)) (Or.inr (hwi hw 23 rfl)) (by decide) (t := (.array .int)) (t' := .double) (by decide) (by decide)))).ext E16).other W19 (Or.inr (slot_ne (Or.inl (hwi hw 51 rfl)) (Or.inl (hwi hw 41 rfl)) (by decide) (t := (.array .int)) (t' := (.array .long)) (by decide) (by decide)))).ext E20).other W23 (Or.inr (slot_ne (Or.inl (hwi hw 51 rfl)) (Or.inl (hwi hw 44 rfl)) (by decide) (t := (.array .int)) (t' := (.array .double)) (by decide) (by decide)))).ext E24).other W27 (Or.inr (slot_ne (Or.inl (hwi hw 51 rfl)) (Or.inl (hwi hw 46 rfl)) (by decide) (t := (.array .int)) (t' := (.array .double)) (by decide) (by decide)))).ext E28).other W31 (Or.inr (slot_ne (Or.inl (hwi hw 51 rfl)) (Or.inl (hwi hw 49 rfl)) (by decide) (t := (.array .int)) (t' := (.array .int)) (by decide) (by decide)))).ext E32)
  obtain ⟨T35, h35, X35, e35, W35, st35⟩ := putF X32 hx hZ hown (host := "") (Or.inl (hwi hw 50 rfl)) Via.refl e32 F34 F33 (Or.inl (hwi hw 51 rfl)) (hwi hw 3 rfl) (ty := (.array .int)) (by decide) rfl rfl (g := (mkF m 90 #[lR a, lI 1, lI 4, lJ pl_, lS, lD pd_, lS, lI 64] [(.ref b32), (.ref a)])) rfl rfl (hb hby d1_90)
  have N35 := Fr.snoc X35 N31 g_a
  have Fw35 := F34.same W35
  have Z35 : n0 ≤ h35.size := Nat.le_trans Z32 (Keep.of_wr W35).1
  have K35 : Keep h0 h35 [a] := K32.wr W35 (Or.inl (List.mem_of_getElem? (i := 0) rfl))
  refine own_via st35 ?_
  show own_Go p e below s _ _ _ (T35.setTop (mkF m 93 #[lR a, lI 1, lI 4, lJ pl_, lS, lD pd_, lS, lI 64] []))
  refine own_via (fun _ k => XS.aloadN X35.here hx rfl (hb hby d1_93) rfl rfl k) ?_
  show own_Go p e below s _ _ _ (T35.setTop (mkF m 94 #[lR a, lI 1, lI 4, lJ pl_, lS, lD pd_, lS, lI 64] [(.ref a)]))
  refine own_via (fun _ k => XS.iload X35.here hx rfl (hb hby d1_94) rfl k) ?_
  show own_Go p e below s _ _ _ (T35.setTop (mkF m 96 #[lR a, lI 1, lI 4, lJ pl_, lS, lD pd_, lS, lI 64] [(.int (64 : Int32)), (.ref a)]))
  obtain ⟨T36, h36, k36, X36, e36, E36, A36, st36⟩ := newP X35 hx hZ (hwi hw 47 rfl) e35 (g := (mkF m 96 #[lR a, lI 1, lI 4, lJ pl_, lS, lD pd_, lS, lI 64] [(.int (64 : Int32)), (.ref a)])) rfl (hb hby d1_96) rfl (by decide) (cap := 64) (by decide) (by decide) (by decide) (by decide)
  obtain ⟨b36, gg36⟩ : ∃ z, z = h35.size := ⟨_, rfl⟩
  rw [← gg36] at A36 st36
  have ne_a_b36 : a ≠ b36 := Nat.ne_of_lt (Nat.lt_of_lt_of_le (F33.wr W35).lt (Nat.le_of_eq gg36.symm))
  have ne_b16_b36 : b16 ≠ b36 := Nat.ne_of_lt (Nat.lt_of_lt_of_le (((((((((V16.other W19 (Ne.symm ne_a_b16)).ext E20).other W23 (Ne.symm ne_a_b16)).ext E24).other W27 (Ne.symm ne_a_b16)).ext E28).other W31 (Ne.symm ne_a_b16)).ext E32).other W35 (Ne.symm ne_a_b16)).lt (Nat.le_of_eq gg36.symm))
  have ne_b20_b36 : b20 ≠ b36 := Nat.ne_of_lt (Nat.lt_of_lt_of_le (((((((V20.other W23 (Ne.symm ne_a_b20)).ext E24).other W27 (Ne.symm ne_a_b20)).ext E28).other W31 (Ne.symm ne_a_b20)).ext E32).other W35 (Ne.symm ne_a_b20)).lt (Nat.le_of_eq gg36.symm))
  have ne_b24_b36 : b24 ≠ b36 := Nat.ne_of_lt (Nat.lt_of_lt_of_le (((((V24.other W27 (Ne.symm ne_a_b24)).ext E28).other W31 (Ne.symm ne_a_b24)).ext E32).other W35 (Ne.symm ne_a_b24)).lt (Nat.le_of_eq gg36.symm))
  have ne_b28_b36 : b28 ≠ b36 := Nat.ne_of_lt (Nat.lt_of_lt_of_le (((V28.other W31 (Ne.symm ne_a_b28)).ext E32).other W35 (Ne.symm ne_a_b28)).lt (Nat.le_of_eq gg36.symm))
  have ne_b32_b36 : b32 ≠ b36 := Nat.ne_of_lt (Nat.lt_of_lt_of_le (V32.other W35 (Ne.symm ne_a_b32)).lt (Nat.le_of_eq gg36.symm))
  have g_b36 : n0 ≤ b36 := Nat.le_trans Z35 (Nat.le_of_eq gg36.symm)
  have sz_b36 : h0.size ≤ b36 := Nat.le_trans K35.1 (Nat.le_of_eq gg36.symm)
  have Z36 : n0 ≤ h36.size := Nat.le_trans Z35 E36.1
  have K36 : Keep h0 h36 [a] := K35.ext E36
  have V36 : Arv Z h36 b36 k36 .int (64 : Int32) [(.int (0 : Int32)), (.int (0 : Int32)), (.int (0 : Int32)), (.int (0 : Int32))] (.int (0 : Int32)) := (Arv.new A36 (by decide)).pad (pad_rep [] (.int (0 : Int32)) 4)
  refine own_via st36 ?_
  show own_Go p e below s _ _ _ (T36.setTop (mkF m 98 #[lR a, lI 1, lI 4, lJ pl_, lS, lD pd_, lS, lI 64] [(.ref b36), (.ref a)]))
  have F37 := ((F33.wr W35).ext E36)
  have F38 := (((((((((((((((F_steps_a.other W2 (Or.inr (slot_ne (Or.inl (hwi hw 53 rfl)) (Or.inr (hwi hw 12 rfl)) (by decide) (t := (.array .int)) (t' := .int) (by decide) (by decide)))).other W5 (Or.inr (slot_ne (Or.inl (hwi hw 53 rfl)) (Or.inr (hwi hw 14 rfl)) (by decide) (t := (.array .int)) (t' := .long) (by decide) (by decide)))).other W9 (Or.inr (slot_ne (Or.inl (hwi hw 53 rfl)) (Or.inr (hwi hw 21 rfl)) (by decide) (t := (.array .int)) (t' := .long) (by decide) (by decide)))).other W12 (Or.inr (slot_ne (Or.inl (hwi hw 53 rfl)) (Or.inr (hwi hw 23 rfl)) (by decide) (t := (.array .int)) (t' := .double) (by decide) (by decide)))).ext E16).other W19 (Or.inr (slot_ne (Or.inl (hwi hw 53 rfl)) (Or.inl (hwi hw 41 rfl)) (by decide) (t := (.array .int)) (t' := (.array .long)) (by decide) (by decide)))).ext E20).other W23 (Or.inr (slot_ne (Or.inl (hwi hw 53 rfl)) (Or.inl (hwi hw 44 rfl)) (by decide) (t := (.array .int)) (t' := (.array .double)) (by decide) (by decide)))).ext E24).other W27 (Or.inr (slot_ne (Or.inl (hwi hw 53 rfl)) (Or.inl (hwi hw 46 rfl)) (by decide) (t := (.array .int)) (t' := (.array .double)) (by decide) (by decide)))).ext E28).other W31 (Or.inr (slot_ne (Or.inl (hwi hw 53 rfl)) (Or.inl (hwi hw 49 rfl)) (by decide) (t := (.array .int)) (t' := (.array .int)) (by decide) (by decide)))).ext E32).other W35 (Or.inr (slot_ne (Or.inl (hwi hw 53 rfl)) (Or.inl (hwi hw 51 rfl)) (by decide) (t := (.array .int)) (t' := (.array .int)) (by decide) (by decide)))).ext E36)
  obtain ⟨T39, h39, X39, e39, W39, st39⟩ := putF X36 hx hZ hown (host := "") (Or.inl (hwi hw 52 rfl)) Via.refl e36 F38 F37 (Or.inl (hwi hw 53 rfl)) (hwi hw 3 rfl) (ty := (.array .int)) (by decide) rfl rfl (g := (mkF m 98 #[lR a, lI 1, lI 4, lJ pl_, lS, lD pd_, lS, lI 64] [(.ref b36), (.ref a)])) rfl rfl (hb hby d1_98)
  have N39 := Fr.snoc X39 N35 g_a
  have Fw39 := F38.same W39
  have Z39 : n0 ≤ h39.size := Nat.le_trans Z36 (Keep.of_wr W39).1
  have K39 : Keep h0 h39 [a] := K36.wr W39 (Or.inl (List.mem_of_getElem? (i := 0) rfl))
  refine own_via st39 ?_
  show own_Go p e below s _ _ _ (T39.setTop (mkF m 101 #[lR a, lI 1, lI 4, lJ pl_, lS, lD pd_, lS, lI 64] []))
  refine own_via (fun _ k => XS.aloadN X39.here hx rfl (hb hby d1_101) rfl rfl k) ?_
  show own_Go p e below s _ _ _ (T39.setTop (mkF m 102 #[lR a, lI 1, lI 4, lJ pl_, lS, lD pd_, lS, lI 64] [(.ref a)]))
  refine own_via (fun _ k => XS.iload X39.here hx rfl (hb hby d1_102) rfl k) ?_
  show own_Go p e below s _ _ _ (T39.setTop (mkF m 104 #[lR a, lI 1, lI 4, lJ pl_, lS, lD pd_, lS, lI 64] [(.int (64 : Int32)), (.ref a)]))
  obtain ⟨T40, h40, k40, X40, e40, E40, A40, st40⟩ := newP X39 hx hZ (hwi hw 54 rfl) e39 (g := (mkF m 104 #[lR a, lI 1, lI 4, lJ pl_, lS, lD pd_, lS, lI 64] [(.int (64 : Int32)), (.ref a)])) rfl (hb hby d1_104) rfl (by decide) (cap := 64) (by decide) (by decide) (by decide) (by decide)
  obtain ⟨b40, gg40⟩ : ∃ z, z = h39.size := ⟨_, rfl⟩
  rw [← gg40] at A40 st40
  have ne_a_b40 : a ≠ b40 := Nat.ne_of_lt (Nat.lt_of_lt_of_le (F37.wr W39).lt (Nat.le_of_eq gg40.symm))
  have ne_b16_b40 : b16 ≠ b40 := Nat.ne_of_lt (Nat.lt_of_lt_of_le (((((((((((V16.other W19 (Ne.symm ne_a_b16)).ext E20).other W23 (Ne.symm ne_a_b16)).ext E24).other W27 (Ne.symm ne_a_b16)).ext E28).other W31 (Ne.symm ne_a_b16)).ext E32).other W35 (Ne.symm ne_a_b16)).ext E36).other W39 (Ne.symm ne_a_b16)).lt (Nat.le_of_eq gg40.symm))
  have ne_b20_b40 : b20 ≠ b40 := Nat.ne_of_lt (Nat.lt_of_lt_of_le (((((((((V20.other W23 (Ne.symm ne_a_b20)).ext E24).other W27 (Ne.symm ne_a_b20)).ext E28).other W31 (Ne.symm ne_a_b20)).ext E32).other W35 (Ne.symm ne_a_b20)).ext E36).other W39 (Ne.symm ne_a_b20)).lt (Nat.le_of_eq gg40.symm))
  have ne_b24_b40 : b24 ≠ b40 := Nat.ne_of_lt (Nat.lt_of_lt_of_le (((((((V24.other W27 (Ne.symm ne_a_b24)).ext E28).other W31 (Ne.symm ne_a_b24)).ext E32).other W35 (Ne.symm ne_a_b24)).ext E36).other W39 (Ne.symm ne_a_b24)).lt (Nat.le_of_eq gg40.symm))
  have ne_b28_b40 : b28 ≠ b40 := Nat.ne_of_lt (Nat.lt_of_lt_of_le (((((V28.other W31 (Ne.symm ne_a_b28)).ext E32).other W35 (Ne.symm ne_a_b28)).ext E36).other W39 (Ne.symm ne_a_b28)).lt (Nat.le_of_eq gg40.symm))
  have ne_b32_b40 : b32 ≠ b40 := Nat.ne_of_lt (Nat.lt_of_lt_of_le (((V32.other W35 (Ne.symm ne_a_b32)).ext E36).other W39 (Ne.symm ne_a_b32)).lt (Nat.le_of_eq gg40.symm))
  have ne_b36_b40 : b36 ≠ b40 := Nat.ne_of_lt (Nat.lt_of_lt_of_le (V36.other W39 (Ne.symm ne_a_b36)).lt (Nat.le_of_eq gg40.symm))
  have g_b40 : n0 ≤ b40 := Nat.le_trans Z39 (Nat.le_of_eq gg40.symm)
  have sz_b40 : h0.size ≤ b40 := Nat.le_trans K39.1 (Nat.le_of_eq gg40.symm)
  have Z40 : n0 ≤ h40.size := Nat.le_trans Z39 E40.1
  have K40 : Keep h0 h40 [a] := K39.ext E40
  have V40 : Arv Z h40 b40 k40 .boolean (64 : Int32) [(.int (0 : Int32)), (.int (0 : Int32)), (.int (0 : Int32)), (.int (0 : Int32))] (.int (0 : Int32)) := (Arv.new A40 (by decide)).pad (pad_rep [] (.int (0 : Int32)) 4)
  refine own_via st40 ?_
  show own_Go p e below s _ _ _ (T40.setTop (mkF m 106 #[lR a, lI 1, lI 4, lJ pl_, lS, lD pd_, lS, lI 64] [(.ref b40), (.ref a)]))
  have F41 := ((F37.wr W39).ext E40)
  have F42 := (((((((((((((((((F_superseded_a.other W2 (Or.inr (slot_ne (Or.inl (hwi hw 56 rfl)) (Or.inr (hwi hw 12 rfl)) (by decide) (t := (.array .boolean)) (t' := .int) (by decide) (by decide)))).other W5 (Or.inr (slot_ne (Or.inl (hwi hw 56 rfl)) (Or.inr (hwi hw 14 rfl)) (by decide) (t := (.array .boolean)) (t' := .long) (by decide) (by decide)))).other W9 (Or.inr (slot_ne (Or.inl (hwi hw 56 rfl)) (Or.inr (hwi hw 21 rfl)) (by decide) (t := (.array .boolean)) (t' := .long) (by decide) (by decide)))).other W12 (Or.inr (slot_ne (Or.inl (hwi hw 56 rfl)) (Or.inr (hwi hw 23 rfl)) (by decide) (t := (.array .boolean)) (t' := .double) (by decide) (by decide)))).ext E16).other W19 (Or.inr (slot_ne (Or.inl (hwi hw 56 rfl)) (Or.inl (hwi hw 41 rfl)) (by decide) (t := (.array .boolean)) (t' := (.array .long)) (by decide) (by decide)))).ext E20).other W23 (Or.inr (slot_ne (Or.inl (hwi hw 56 rfl)) (Or.inl (hwi hw 44 rfl)) (by decide) (t := (.array .boolean)) (t' := (.array .double)) (by decide) (by decide)))).ext E24).other W27 (Or.inr (slot_ne (Or.inl (hwi hw 56 rfl)) (Or.inl (hwi hw 46 rfl)) (by decide) (t := (.array .boolean)) (t' := (.array .double)) (by decide) (by decide)))).ext E28).other W31 (Or.inr (slot_ne (Or.inl (hwi hw 56 rfl)) (Or.inl (hwi hw 49 rfl)) (by decide) (t := (.array .boolean)) (t' := (.array .int)) (by decide) (by decide)))).ext E32).other W35 (Or.inr (slot_ne (Or.inl (hwi hw 56 rfl)) (Or.inl (hwi hw 51 rfl)) (by decide) (t := (.array .boolean)) (t' := (.array .int)) (by decide) (by decide)))).ext E36).other W39 (Or.inr (slot_ne (Or.inl (hwi hw 56 rfl)) (Or.inl (hwi hw 53 rfl)) (by decide) (t := (.array .boolean)) (t' := (.array .int)) (by decide) (by decide)))).ext E40)
  obtain ⟨T43, h43, X43, e43, W43, st43⟩ := putF X40 hx hZ hown (host := "") (Or.inl (hwi hw 55 rfl)) Via.refl e40 F42 F41 (Or.inl (hwi hw 56 rfl)) (hwi hw 3 rfl) (ty := (.array .boolean)) (by decide) rfl rfl (g := (mkF m 106 #[lR a, lI 1, lI 4, lJ pl_, lS, lD pd_, lS, lI 64] [(.ref b40), (.ref a)])) rfl rfl (hb hby d1_106)
  have N43 := Fr.snoc X43 N39 g_a
  have Fw43 := F42.same W43
  have Z43 : n0 ≤ h43.size := Nat.le_trans Z40 (Keep.of_wr W43).1
  have K43 : Keep h0 h43 [a] := K40.wr W43 (Or.inl (List.mem_of_getElem? (i := 0) rfl))
  refine own_via st43 ?_
  show own_Go p e below s _ _ _ (T43.setTop (mkF m 109 #[lR a, lI 1, lI 4, lJ pl_, lS, lD pd_, lS, lI 64] []))
  refine own_via (fun _ k => XS.aloadN X43.here hx rfl (hb hby d1_109) rfl rfl k) ?_
  show own_Go p e below s _ _ _ (T43.setTop (mkF m 110 #[lR a, lI 1, lI 4, lJ pl_, lS, lD pd_, lS, lI 64] [(.ref a)]))
  refine own_via (fun _ k => XS.iload X43.here hx rfl (hb hby d1_110) rfl k) ?_
  show own_Go p e below s _ _ _ (T43.setTop (mkF m 112 #[lR a, lI 1, lI 4, lJ pl_, lS, lD pd_, lS, lI 64] [(.int (64 : Int32)), (.ref a)]))
  obtain ⟨T44, h44, k44, X44, e44, E44, A44, st44⟩ := newP X43 hx hZ (hwi hw 47 rfl) e43 (g := (mkF m 112 #[lR a, lI 1, lI 4, lJ pl_, lS, lD pd_, lS, lI 64] [(.int (64 : Int32)), (.ref a)])) rfl (hb hby d1_112) rfl (by decide) (cap := 64) (by decide) (by decide) (by decide) (by decide)
  obtain ⟨b44, gg44⟩ : ∃ z, z = h43.size := ⟨_, rfl⟩
  rw [← gg44] at A44 st44
  have ne_a_b44 : a ≠ b44 := Nat.ne_of_lt (Nat.lt_of_lt_of_le (F41.wr W43).lt (Nat.le_of_eq gg44.symm))
  have ne_b16_b44 : b16 ≠ b44 := Nat.ne_of_lt (Nat.lt_of_lt_of_le (((((((((((((V16.other W19 (Ne.symm ne_a_b16)).ext E20).other W23 (Ne.symm ne_a_b16)).ext E24).other W27 (Ne.symm ne_a_b16)).ext E28).other W31 (Ne.symm ne_a_b16)).ext E32).other W35 (Ne.symm ne_a_b16)).ext E36).other W39 (Ne.symm ne_a_b16)).ext E40).other W43 (Ne.symm ne_a_b16)).lt (Nat.le_of_eq gg44.symm))
  have ne_b20_b44 : b20 ≠ b44 := Nat.ne_of_lt (Nat.lt_of_lt_of_le (((((((((((V20.other W23 (Ne.symm ne_a_b20)).ext E24).other W27 (Ne.symm ne_a_b20)).ext E28).other W31 (Ne.symm ne_a_b20)).ext E32).other W35 (Ne.symm ne_a_b20)).ext E36).other W39 (Ne.symm ne_a_b20)).ext E40).other W43 (Ne.symm ne_a_b20)).lt (Nat.le_of_eq gg44.symm))
  have ne_b24_b44 : b24 ≠ b44 := Nat.ne_of_lt (Nat.lt_of_lt_of_le (((((((((V24.other W27 (Ne.symm ne_a_b24)).ext E28).other W31 (Ne.symm ne_a_b24)).ext E32).other W35 (Ne.symm ne_a_b24)).ext E36).other W39 (Ne.symm ne_a_b24)).ext E40).other W43 (Ne.symm ne_a_b24)).lt (Nat.le_of_eq gg44.symm))
  have ne_b28_b44 : b28 ≠ b44 := Nat.ne_of_lt (Nat.lt_of_lt_of_le (((((((V28.other W31 (Ne.symm ne_a_b28)).ext E32).other W35 (Ne.symm ne_a_b28)).ext E36).other W39 (Ne.symm ne_a_b28)).ext E40).other W43 (Ne.symm ne_a_b28)).lt (Nat.le_of_eq gg44.symm))
  have ne_b32_b44 : b32 ≠ b44 := Nat.ne_of_lt (Nat.lt_of_lt_of_le (((((V32.other W35 (Ne.symm ne_a_b32)).ext E36).other W39 (Ne.symm ne_a_b32)).ext E40).other W43 (Ne.symm ne_a_b32)).lt (Nat.le_of_eq gg44.symm))
  have ne_b36_b44 : b36 ≠ b44 := Nat.ne_of_lt (Nat.lt_of_lt_of_le (((V36.other W39 (Ne.symm ne_a_b36)).ext E40).other W43 (Ne.symm ne_a_b36)).lt (Nat.le_of_eq gg44.symm))
  have ne_b40_b44 : b40 ≠ b44 := Nat.ne_of_lt (Nat.lt_of_lt_of_le (V40.other W43 (Ne.symm ne_a_b40)).lt (Nat.le_of_eq gg44.symm))
  have g_b44 : n0 ≤ b44 := Nat.le_trans Z43 (Nat.le_of_eq gg44.symm)
  have sz_b44 : h0.size ≤ b44 := Nat.le_trans K43.1 (Nat.le_of_eq gg44.symm)
  have Z44 : n0 ≤ h44.size := Nat.le_trans Z43 E44.1
  have K44 : Keep h0 h44 [a] := K43.ext E44
  have V44 : Arv Z h44 b44 k44 .int (64 : Int32) [(.int (0 : Int32)), (.int (0 : Int32)), (.int (0 : Int32)), (.int (0 : Int32))] (.int (0 : Int32)) := (Arv.new A44 (by decide)).pad (pad_rep [] (.int (0 : Int32)) 4)
  refine own_via st44 ?_
  show own_Go p e below s _ _ _ (T44.setTop (mkF m 114 #[lR a, lI 1, lI 4, lJ pl_, lS, lD pd_, lS, lI 64] [(.ref b44), (.ref a)]))
  have F45 := ((F41.wr W43).ext E44)
  have F46 := (((((((((((((((((((F_nextKept_a.other W2 (Or.inr (slot_ne (Or.inl (hwi hw 58 rfl)) (Or.inr (hwi hw 12 rfl)) (by decide) (t := (.array .int)) (t' := .int) (by decide) (by decide)))).other W5 (Or.inr (slot_ne (Or.inl (hwi hw 58 rfl)) (Or.inr (hwi hw 14 rfl)) (by decide) (t := (.array .int)) (t' := .long) (by decide) (by decide)))).other W9 (Or.inr (slot_ne (Or.inl (hwi hw 58 rfl)) (Or.inr (hwi hw 21 rfl)) (by decide) (t := (.array .int)) (t' := .long) (by decide) (by decide)))).other W12 (Or.inr (slot_ne (Or.inl (hwi hw 58 rfl)) (Or.inr (hwi hw 23 rfl)) (by decide) (t := (.array .int)) (t' := .double) (by decide) (by decide)))).ext E16).other W19 (Or.inr (slot_ne (Or.inl (hwi hw 58 rfl)) (Or.inl (hwi hw 41 rfl)) (by decide) (t := (.array .int)) (t' := (.array .long)) (by decide) (by decide)))).ext E20).other W23 (Or.inr (slot_ne (Or.inl (hwi hw 58 rfl)) (Or.inl (hwi hw 44 rfl)) (by decide) (t := (.array .int)) (t' := (.array .double)) (by decide) (by decide)))).ext E24).other W27 (Or.inr (slot_ne (Or.inl (hwi hw 58 rfl)) (Or.inl (hwi hw 46 rfl)) (by decide) (t := (.array .int)) (t' := (.array .double)) (by decide) (by decide)))).ext E28).other W31 (Or.inr (slot_ne (Or.inl (hwi hw 58 rfl)) (Or.inl (hwi hw 49 rfl)) (by decide) (t := (.array .int)) (t' := (.array .int)) (by decide) (by decide)))).ext E32).other W35 (Or.inr (slot_ne (Or.inl (hwi hw 58 rfl)) (Or.inl (hwi hw 51 rfl)) (by decide) (t := (.array .int)) (t' := (.array .int)) (by decide) (by decide)))).ext E36).other W39 (Or.inr (slot_ne (Or.inl (hwi hw 58 rfl)) (Or.inl (hwi hw 53 rfl)) (by decide) (t := (.array .int)) (t' := (.array .int)) (by decide) (by decide)))).ext E40).other W43 (Or.inr (slot_ne (Or.inl (hwi hw 58 rfl)) (Or.inl (hwi hw 56 rfl)) (by decide) (t := (.array .int)) (t' := (.array .boolean)) (by decide) (by decide)))).ext E44)
  obtain ⟨T47, h47, X47, e47, W47, st47⟩ := putF X44 hx hZ hown (host := "") (Or.inl (hwi hw 57 rfl)) Via.refl e44 F46 F45 (Or.inl (hwi hw 58 rfl)) (hwi hw 3 rfl) (ty := (.array .int)) (by decide) rfl rfl (g := (mkF m 114 #[lR a, lI 1, lI 4, lJ pl_, lS, lD pd_, lS, lI 64] [(.ref b44), (.ref a)])) rfl rfl (hb hby d1_114)
  have N47 := Fr.snoc X47 N43 g_a
  have Fw47 := F46.same W47
  have Z47 : n0 ≤ h47.size := Nat.le_trans Z44 (Keep.of_wr W47).1
  have K47 : Keep h0 h47 [a] := K44.wr W47 (Or.inl (List.mem_of_getElem? (i := 0) rfl))
  refine own_via st47 ?_
  show own_Go p e below s _ _ _ (T47.setTop (mkF m 117 #[lR a, lI 1, lI 4, lJ pl_, lS, lD pd_, lS, lI 64] []))
  refine own_via (fun _ k => XS.aloadN X47.here hx rfl (hb hby d1_117) rfl rfl k) ?_
  show own_Go p e below s _ _ _ (T47.setTop (mkF m 118 #[lR a, lI 1, lI 4, lJ pl_, lS, lD pd_, lS, lI 64] [(.ref a)]))
  refine own_via (fun _ k => XS.iconst X47.here hx rfl (hb hby d1_118) k) ?_
  show own_Go p e below s _ _ _ (T47.setTop (mkF m 119 #[lR a, lI 1, lI 4, lJ pl_, lS, lD pd_, lS, lI 64] [(.int (2 : Int32)), (.ref a)]))
  refine own_via (fun _ k => XS.iload X47.here hx rfl (hb hby d1_119) rfl k) ?_
  show own_Go p e below s _ _ _ (T47.setTop (mkF m 121 #[lR a, lI 1, lI 4, lJ pl_, lS, lD pd_, lS, lI 64] [(.int (64 : Int32)), (.int (2 : Int32)), (.ref a)]))
  refine own_via (fun _ k => XS.imul X47.here hx rfl (hb hby d1_121) rfl k) ?_
  show own_Go p e below s _ _ _ (T47.setTop (mkF m 122 #[lR a, lI 1, lI 4, lJ pl_, lS, lD pd_, lS, lI 64] [(.int (128 : Int32)), (.ref a)]))
  obtain ⟨T48, h48, k48, X48, e48, E48, A48, st48⟩ := newP X47 hx hZ (hwi hw 47 rfl) e47 (g := (mkF m 122 #[lR a, lI 1, lI 4, lJ pl_, lS, lD pd_, lS, lI 64] [(.int (128 : Int32)), (.ref a)])) rfl (hb hby d1_122) rfl (by decide) (cap := 128) (by decide) (by decide) (by decide) (by decide)
  obtain ⟨b48, gg48⟩ : ∃ z, z = h47.size := ⟨_, rfl⟩
  rw [← gg48] at A48 st48
  have ne_a_b48 : a ≠ b48 := Nat.ne_of_lt (Nat.lt_of_lt_of_le (F45.wr W47).lt (Nat.le_of_eq gg48.symm))
  have ne_b16_b48 : b16 ≠ b48 := Nat.ne_of_lt (Nat.lt_of_lt_of_le (((((((((((((((V16.other W19 (Ne.symm ne_a_b16)).ext E20).other W23 (Ne.symm ne_a_b16)).ext E24).other W27 (Ne.symm ne_a_b16)).ext E28).other W31 (Ne.symm ne_a_b16)).ext E32).other W35 (Ne.symm ne_a_b16)).ext E36).other W39 (Ne.symm ne_a_b16)).ext E40).other W43 (Ne.symm ne_a_b16)).ext E44).other W47 (Ne.symm ne_a_b16)).lt (Nat.le_of_eq gg48.symm))
  have ne_b20_b48 : b20 ≠ b48 := Nat.ne_of_lt (Nat.lt_of_lt_of_le (((((((((((((V20.other W23 (Ne.symm ne_a_b20)).ext E24).other W27 (Ne.symm ne_a_b20)).ext E28).other W31 (Ne.symm ne_a_b20)).ext E32).other W35 (Ne.symm ne_a_b20)).ext E36).other W39 (Ne.symm ne_a_b20)).ext E40).other W43 (Ne.symm ne_a_b20)).ext E44).other W47 (Ne.symm ne_a_b20)).lt (Nat.le_of_eq gg48.symm))
  have ne_b24_b48 : b24 ≠ b48 := Nat.ne_of_lt (Nat.lt_of_lt_of_le (((((((((((V24.other W27 (Ne.symm ne_a_b24)).ext E28).other W31 (Ne.symm ne_a_b24)).ext E32).other W35 (Ne.symm ne_a_b24)).ext E36).other W39 (Ne.symm ne_a_b24)).ext E40).other W43 (Ne.symm ne_a_b24)).ext E44).other W47 (Ne.symm ne_a_b24)).lt (Nat.le_of_eq gg48.symm))
  have ne_b28_b48 : b28 ≠ b48 := Nat.ne_of_lt (Nat.lt_of_lt_of_le (((((((((V28.other W31 (Ne.symm ne_a_b28)).ext E32).other W35 (Ne.symm ne_a_b28)).ext E36).other W39 (Ne.symm ne_a_b28)).ext E40).other W43 (Ne.symm ne_a_b28)).ext E44).other W47 (Ne.symm ne_a_b28)).lt (Nat.le_of_eq gg48.symm))
  have ne_b32_b48 : b32 ≠ b48 := Nat.ne_of_lt (Nat.lt_of_lt_of_le (((((((V32.other W35 (Ne.symm ne_a_b32)).ext E36).other W39 (Ne.symm ne_a_b32)).ext E40).other W43 (Ne.symm ne_a_b32)).ext E44).other W47 (Ne.symm ne_a_b32)).lt (Nat.le_of_eq gg48.symm))
  have ne_b36_b48 : b36 ≠ b48 := Nat.ne_of_lt (Nat.lt_of_lt_of_le (((((V36.other W39 (Ne.symm ne_a_b36)).ext E40).other W43 (Ne.symm ne_a_b36)).ext E44).other W47 (Ne.symm ne_a_b36)).lt (Nat.le_of_eq gg48.symm))
  have ne_b40_b48 : b40 ≠ b48 := Nat.ne_of_lt (Nat.lt_of_lt_of_le (((V40.other W43 (Ne.symm ne_a_b40)).ext E44).other W47 (Ne.symm ne_a_b40)).lt (Nat.le_of_eq gg48.symm))
  have ne_b44_b48 : b44 ≠ b48 := Nat.ne_of_lt (Nat.lt_of_lt_of_le (V44.other W47 (Ne.symm ne_a_b44)).lt (Nat.le_of_eq gg48.symm))
  have g_b48 : n0 ≤ b48 := Nat.le_trans Z47 (Nat.le_of_eq gg48.symm)
  have sz_b48 : h0.size ≤ b48 := Nat.le_trans K47.1 (Nat.le_of_eq gg48.symm)
  have Z48 : n0 ≤ h48.size := Nat.le_trans Z47 E48.1
  have K48 : Keep h0 h48 [a] := K47.ext E48
  have V48 : Arv Z h48 b48 k48 .int (128 : Int32) [(.int (0 : Int32)), (.int (0 : Int32)), (.int (0 : Int32)), (.int (0 : Int32)), (.int (0 : Int32)), (.int (0 : Int32)), (.int (0 : Int32)), (.int (0 : Int32)), (.int (0 : Int32)), (.int (0 : Int32)), (.int (0 : Int32)), (.int (0 : Int32)), (.int (0 : Int32)), (.int (0 : Int32)), (.int (0 : Int32)), (.int (0 : Int32)), (.int (0 : Int32)), (.int (0 : Int32)), (.int (0 : Int32)), (.int (0 : Int32)), (.int (0 : Int32)), (.int (0 : Int32)), (.int (0 : Int32)), (.int (0 : Int32)), (.int (0 : Int32)), (.int (0 : Int32)), (.int (0 : Int32)), (.int (0 : Int32)), (.int (0 : Int32)), (.int (0 : Int32)), (.int (0 : Int32)), (.int (0 : Int32)), (.int (0 : Int32)), (.int (0 : Int32)), (.int (0 : Int32)), (.int (0 : Int32)), (.int (0 : Int32)), (.int (0 : Int32)), (.int (0 : Int32)), (.int (0 : Int32)), (.int (0 : Int32)), (.int (0 : Int32)), (.int (0 : Int32)), (.int (0 : Int32)), (.int (0 : Int32))] (.int (0 : Int32)) := (Arv.new A48 (by decide)).pad (pad_rep [] (.int (0 : Int32)) 45)
  refine own_via st48 ?_
  show own_Go p e below s _ _ _ (T48.setTop (mkF m 124 #[lR a, lI 1, lI 4, lJ pl_, lS, lD pd_, lS, lI 64] [(.ref b48), (.ref a)]))
  have F49 := ((F45.wr W47).ext E48)
  have F50 := (((((((((((((((((((((F_table_a.other W2 (Or.inr (slot_ne (Or.inl (hwi hw 60 rfl)) (Or.inr (hwi hw 12 rfl)) (by decide) (t := (.array .int)) (t' := .int) (by decide) (by decide)))).other W5 (Or.inr (slot_ne (Or.inl (hwi hw 60 rfl)) (Or.inr (hwi hw 14 rfl)) (by decide) (t := (.array .int)) (t' := .long) (by decide) (by decide)))).other W9 (Or.inr (slot_ne (Or.inl (hwi hw 60 rfl)) (Or.inr (hwi hw 21 rfl)) (by decide) (t := (.array .int)) (t' := .long) (by decide) (by decide)))).other W12 (Or.inr (slot_ne (Or.inl (hwi hw 60 rfl)) (Or.inr (hwi hw 23 rfl)) (by decide) (t := (.array .int)) (t' := .double) (by decide) (by decide)))).ext E16).other W19 (Or.inr (slot_ne (Or.inl (hwi hw 60 rfl)) (Or.inl (hwi hw 41 rfl)) (by decide) (t := (.array .int)) (t' := (.array .long)) (by decide) (by decide)))).ext E20).other W23 (Or.inr (slot_ne (Or.inl (hwi hw 60 rfl)) (Or.inl (hwi hw 44 rfl)) (by decide) (t := (.array .int)) (t' := (.array .double)) (by decide) (by decide)))).ext E24).other W27 (Or.inr (slot_ne (Or.inl (hwi hw 60 rfl)) (Or.inl (hwi hw 46 rfl)) (by decide) (t := (.array .int)) (t' := (.array .double)) (by decide) (by decide)))).ext E28).other W31 (Or.inr (slot_ne (Or.inl (hwi hw 60 rfl)) (Or.inl (hwi hw 49 rfl)) (by decide) (t := (.array .int)) (t' := (.array .int)) (by decide) (by decide)))).ext E32).other W35 (Or.inr (slot_ne (Or.inl (hwi hw 60 rfl)) (Or.inl (hwi hw 51 rfl)) (by decide) (t := (.array .int)) (t' := (.array .int)) (by decide) (by decide)))).ext E36).other W39 (Or.inr (slot_ne (Or.inl (hwi hw 60 rfl)) (Or.inl (hwi hw 53 rfl)) (by decide) (t := (.array .int)) (t' := (.array .int)) (by decide) (by decide)))).ext E40).other W43 (Or.inr (slot_ne (Or.inl (hwi hw 60 rfl)) (Or.inl (hwi hw 56 rfl)) (by decide) (t := (.array .int)) (t' := (.array .boolean)) (by decide) (by decide)))).ext E44).other W47 (Or.inr (slot_ne (Or.inl (hwi hw 60 rfl)) (Or.inl (hwi hw 58 rfl)) (by decide) (t := (.array .int)) (t' := (.array .int)) (by decide) (by decide)))).ext E48)
  obtain ⟨T51, h51, X51, e51, W51, st51⟩ := putF X48 hx hZ hown (host := "") (Or.inl (hwi hw 59 rfl)) Via.refl e48 F50 F49 (Or.inl (hwi hw 60 rfl)) (hwi hw 3 rfl) (ty := (.array .int)) (by decide) rfl rfl (g := (mkF m 124 #[lR a, lI 1, lI 4, lJ pl_, lS, lD pd_, lS, lI 64] [(.ref b48), (.ref a)])) rfl rfl (hb hby d1_124)
  have N51 := Fr.snoc X51 N47 g_a
  have Fw51 := F50.same W51
  have Z51 : n0 ≤ h51.size := Nat.le_trans Z48 (Keep.of_wr W51).1
  have K51 : Keep h0 h51 [a] := K48.wr W51 (Or.inl (List.mem_of_getElem? (i := 0) rfl))
  refine own_via st51 ?_
  show own_Go p e below s _ _ _ (T51.setTop (mkF m 127 #[lR a, lI 1, lI 4, lJ pl_, lS, lD pd_, lS, lI 64] []))
  refine own_via (fun _ k => XS.aloadN X51.here hx rfl (hb hby d1_127) rfl rfl k) ?_
  show own_Go p e below s _ _ _ (T51.setTop (mkF m 128 #[lR a, lI 1, lI 4, lJ pl_, lS, lD pd_, lS, lI 64] [(.ref a)]))
  refine own_via (fun _ k => XS.iload X51.here hx rfl (hb hby d1_128) rfl k) ?_
  show own_Go p e below s _ _ _ (T51.setTop (mkF m 130 #[lR a, lI 1, lI 4, lJ pl_, lS, lD pd_, lS, lI 64] [(.int (64 : Int32)), (.ref a)]))
  obtain ⟨T52, h52, k52, X52, e52, E52, A52, st52⟩ := newP X51 hx hZ (hwi hw 42 rfl) e51 (g := (mkF m 130 #[lR a, lI 1, lI 4, lJ pl_, lS, lD pd_, lS, lI 64] [(.int (64 : Int32)), (.ref a)])) rfl (hb hby d1_130) rfl (by decide) (cap := 64) (by decide) (by decide) (by decide) (by decide)
  obtain ⟨b52, gg52⟩ : ∃ z, z = h51.size := ⟨_, rfl⟩
  rw [← gg52] at A52 st52
  have ne_a_b52 : a ≠ b52 := Nat.ne_of_lt (Nat.lt_of_lt_of_le (F49.wr W51).lt (Nat.le_of_eq gg52.symm))
  have ne_b16_b52 : b16 ≠ b52 := Nat.ne_of_lt (Nat.lt_of_lt_of_le (((((((((((((((((V16.other W19 (Ne.symm ne_a_b16)).ext E20).other W23 (Ne.symm ne_a_b16)).ext E24).other W27 (Ne.symm ne_a_b16)).ext E28).other W31 (Ne.symm ne_a_b16)).ext E32).other W35 (Ne.symm ne_a_b16)).ext E36).other W39 (Ne.symm ne_a_b16)).ext E40).other W43 (Ne.symm ne_a_b16)).ext E44).other W47 (Ne.symm ne_a_b16)).ext E48).other W51 (Ne.symm ne_a_b16)).lt (Nat.le_of_eq gg52.symm))
  have ne_b20_b52 : b20 ≠ b52 := Nat.ne_of_lt (Nat.lt_of_lt_of_le (((((((((((((((V20.other W23 (Ne.symm ne_a_b20)).ext E24).other W27 (Ne.symm ne_a_b20)).ext E28).other W31 (Ne.symm ne_a_b20)).ext E32).other W35 (Ne.symm ne_a_b20)).ext E36).other W39 (Ne.symm ne_a_b20)).ext E40).other W43 (Ne.symm ne_a_b20)).ext E44).other W47 (Ne.symm ne_a_b20)).ext E48).other W51 (Ne.symm ne_a_b20)).lt (Nat.le_of_eq gg52.symm))
  have ne_b24_b52 : b24 ≠ b52 := Nat.ne_of_lt (Nat.lt_of_lt_of_le (((((((((((((V24.other W27 (Ne.symm ne_a_b24)).ext E28).other W31 (Ne.symm ne_a_b24)).ext E32).other W35 (Ne.symm ne_a_b24)).ext E36).other W39 (Ne.symm ne_a_b24)).ext E40).other W43 (Ne.symm ne_a_b24)).ext E44).other W47 (Ne.symm ne_a_b24)).ext E48).other W51 (Ne.symm ne_a_b24)).lt (Nat.le_of_eq gg52.symm))
  have ne_b28_b52 : b28 ≠ b52 := Nat.ne_of_lt (Nat.lt_of_lt_of_le (((((((((((V28.other W31 (Ne.symm ne_a_b28)).ext E32).other W35 (Ne.symm ne_a_b28)).ext E36).other W39 (Ne.symm ne_a_b28)).ext E40).other W43 (Ne.symm ne_a_b28)).ext E44).other W47 (Ne.symm ne_a_b28)).ext E48).other W51 (Ne.symm ne_a_b28)).lt (Nat.le_of_eq gg52.symm))
  have ne_b32_b52 : b32 ≠ b52 := Nat.ne_of_lt (Nat.lt_of_lt_of_le (((((((((V32.other W35 (Ne.symm ne_a_b32)).ext E36).other W39 (Ne.symm ne_a_b32)).ext E40).other W43 (Ne.symm ne_a_b32)).ext E44).other W47 (Ne.symm ne_a_b32)).ext E48).other W51 (Ne.symm ne_a_b32)).lt (Nat.le_of_eq gg52.symm))
  have ne_b36_b52 : b36 ≠ b52 := Nat.ne_of_lt (Nat.lt_of_lt_of_le (((((((V36.other W39 (Ne.symm ne_a_b36)).ext E40).other W43 (Ne.symm ne_a_b36)).ext E44).other W47 (Ne.symm ne_a_b36)).ext E48).other W51 (Ne.symm ne_a_b36)).lt (Nat.le_of_eq gg52.symm))
  have ne_b40_b52 : b40 ≠ b52 := Nat.ne_of_lt (Nat.lt_of_lt_of_le (((((V40.other W43 (Ne.symm ne_a_b40)).ext E44).other W47 (Ne.symm ne_a_b40)).ext E48).other W51 (Ne.symm ne_a_b40)).lt (Nat.le_of_eq gg52.symm))
  have ne_b44_b52 : b44 ≠ b52 := Nat.ne_of_lt (Nat.lt_of_lt_of_le (((V44.other W47 (Ne.symm ne_a_b44)).ext E48).other W51 (Ne.symm ne_a_b44)).lt (Nat.le_of_eq gg52.symm))
  have ne_b48_b52 : b48 ≠ b52 := Nat.ne_of_lt (Nat.lt_of_lt_of_le (V48.other W51 (Ne.symm ne_a_b48)).lt (Nat.le_of_eq gg52.symm))
  have g_b52 : n0 ≤ b52 := Nat.le_trans Z51 (Nat.le_of_eq gg52.symm)
  have sz_b52 : h0.size ≤ b52 := Nat.le_trans K51.1 (Nat.le_of_eq gg52.symm)
  have Z52 : n0 ≤ h52.size := Nat.le_trans Z51 E52.1
  have K52 : Keep h0 h52 [a] := K51.ext E52
  have V52 : Arv Z h52 b52 k52 .double (64 : Int32) [(.double (0 : UInt64)), (.double (0 : UInt64)), (.double (0 : UInt64)), (.double (0 : UInt64))] (.double (0 : UInt64)) := (Arv.new A52 (by decide)).pad (pad_rep [] (.double (0 : UInt64)) 4)
  refine own_via st52 ?_
  show own_Go p e below s _ _ _ (T52.setTop (mkF m 132 #[lR a, lI 1, lI 4, lJ pl_, lS, lD pd_, lS, lI 64] [(.ref b52), (.ref a)]))
  have F53 := ((F49.wr W51).ext E52)
  have F54 := (((((((((((((((((((((((F_frontierCosts_a.other W2 (Or.inr (slot_ne (Or.inl (hwi hw 62 rfl)) (Or.inr (hwi hw 12 rfl)) (by decide) (t := (.array .double)) (t' := .int) (by decide) (by decide)))).other W5 (Or.inr (slot_ne (Or.inl (hwi hw 62 rfl)) (Or.inr (hwi hw 14 rfl)) (by decide) (t := (.array .double)) (t' := .long) (by decide) (by decide)))).other W9 (Or.inr (slot_ne (Or.inl (hwi hw 62 rfl)) (Or.inr (hwi hw 21 rfl)) (by decide) (t := (.array .double)) (t' := .long) (by decide) (by decide)))).other W12 (Or.inr (slot_ne (Or.inl (hwi hw 62 rfl)) (Or.inr (hwi hw 23 rfl)) (by decide) (t := (.array .double)) (t' := .double) (by decide) (by decide)))).ext E16).other W19 (Or.inr (slot_ne (Or.inl (hwi hw 62 rfl)) (Or.inl (hwi hw 41 rfl)) (by decide) (t := (.array .double)) (t' := (.array .long)) (by decide) (by decide)))).ext E20).other W23 (Or.inr (slot_ne (Or.inl (hwi hw 62 rfl)) (Or.inl (hwi hw 44 rfl)) (by decide) (t := (.array .double)) (t' := (.array .double)) (by decide) (by decide)))).ext E24).other W27 (Or.inr (slot_ne (Or.inl (hwi hw 62 rfl)) (Or.inl (hwi hw 46 rfl)) (by decide) (t := (.array .double)) (t' := (.array .double)) (by decide) (by decide)))).ext E28).other W31 (Or.inr (slot_ne (Or.inl (hwi hw 62 rfl)) (Or.inl (hwi hw 49 rfl)) (by decide) (t := (.array .double)) (t' := (.array .int)) (by decide) (by decide)))).ext E32).other W35 (Or.inr (slot_ne (Or.inl (hwi hw 62 rfl)) (Or.inl (hwi hw 51 rfl)) (by decide) (t := (.array .double)) (t' := (.array .int)) (by decide) (by decide)))).ext E36).other W39 (Or.inr (slot_ne (Or.inl (hwi hw 62 rfl)) (Or.inl (hwi hw 53 rfl)) (by decide) (t := (.array .double)) (t' := (.array .int)) (by decide) (by decide)))).ext E40).other W43 (Or.inr (slot_ne (Or.inl (hwi hw 62 rfl)) (Or.inl (hwi hw 56 rfl)) (by decide) (t := (.array .double)) (t' := (.array .boolean)) (by decide) (by decide)))).ext E44).other W47 (Or.inr (slot_ne (Or.inl (hwi hw 62 rfl)) (Or.inl (hwi hw 58 rfl)) (by decide) (t := (.array .double)) (t' := (.array .int)) (by decide) (by decide)))).ext E48).other W51 (Or.inr (slot_ne (Or.inl (hwi hw 62 rfl)) (Or.inl (hwi hw 60 rfl)) (by decide) (t := (.array .double)) (t' := (.array .int)) (by decide) (by decide)))).ext E52)
  obtain ⟨T55, h55, X55, e55, W55, st55⟩ := putF X52 hx hZ hown (host := "") (Or.inl (hwi hw 61 rfl)) Via.refl e52 F54 F53 (Or.inl (hwi hw 62 rfl)) (hwi hw 3 rfl) (ty := (.array .double)) (by decide) rfl rfl (g := (mkF m 132 #[lR a, lI 1, lI 4, lJ pl_, lS, lD pd_, lS, lI 64] [(.ref b52), (.ref a)])) rfl rfl (hb hby d1_132)
  have N55 := Fr.snoc X55 N51 g_a
  have Fw55 := F54.same W55
  have Z55 : n0 ≤ h55.size := Nat.le_trans Z52 (Keep.of_wr W55).1
  have K55 : Keep h0 h55 [a] := K52.wr W55 (Or.inl (List.mem_of_getElem? (i := 0) rfl))
  refine own_via st55 ?_
  show own_Go p e below s _ _ _ (T55.setTop (mkF m 135 #[lR a, lI 1, lI 4, lJ pl_, lS, lD pd_, lS, lI 64] []))
  refine own_via (fun _ k => XS.aloadN X55.here hx rfl (hb hby d1_135) rfl rfl k) ?_
  show own_Go p e below s _ _ _ (T55.setTop (mkF m 136 #[lR a, lI 1, lI 4, lJ pl_, lS, lD pd_, lS, lI 64] [(.ref a)]))
  refine own_via (fun _ k => XS.iload X55.here hx rfl (hb hby d1_136) rfl k) ?_
  show own_Go p e below s _ _ _ (T55.setTop (mkF m 138 #[lR a, lI 1, lI 4, lJ pl_, lS, lD pd_, lS, lI 64] [(.int (64 : Int32)), (.ref a)]))
  obtain ⟨T56, h56, k56, X56, e56, E56, A56, st56⟩ := newP X55 hx hZ (hwi hw 1 rfl) e55 (g := (mkF m 138 #[lR a, lI 1, lI 4, lJ pl_, lS, lD pd_, lS, lI 64] [(.int (64 : Int32)), (.ref a)])) rfl (hb hby d1_138) rfl (by decide) (cap := 64) (by decide) (by decide) (by decide) (by decide)
  obtain ⟨b56, gg56⟩ : ∃ z, z = h55.size := ⟨_, rfl⟩
  rw [← gg56] at A56 st56
  have ne_a_b56 : a ≠ b56 := Nat.ne_of_lt (Nat.lt_of_lt_of_le (F53.wr W55).lt (Nat.le_of_eq gg56.symm))
  have ne_b16_b56 : b16 ≠ b56 := Nat.ne_of_lt (Nat.lt_of_lt_of_le (((((((((((((((((((V16.other W19 (Ne.symm ne_a_b16)).ext E20).other W23 (Ne.symm ne_a_b16)).ext E24).other W27 (Ne.symm ne_a_b16)).ext E28).other W31 (Ne.symm ne_a_b16)).ext E32).other W35 (Ne.symm ne_a_b16)).ext E36).other W39 (Ne.symm ne_a_b16)).ext E40).other W43 (Ne.symm ne_a_b16)).ext E44).other W47 (Ne.symm ne_a_b16)).ext E48).other W51 (Ne.symm ne_a_b16)).ext E52).other W55 (Ne.symm ne_a_b16)).lt (Nat.le_of_eq gg56.symm))
  have ne_b20_b56 : b20 ≠ b56 := Nat.ne_of_lt (Nat.lt_of_lt_of_le (((((((((((((((((V20.other W23 (Ne.symm ne_a_b20)).ext E24).other W27 (Ne.symm ne_a_b20)).ext E28).other W31 (Ne.symm ne_a_b20)).ext E32).other W35 (Ne.symm ne_a_b20)).ext E36).other W39 (Ne.symm ne_a_b20)).ext E40).other W43 (Ne.symm ne_a_b20)).ext E44).other W47 (Ne.symm ne_a_b20)).ext E48).other W51 (Ne.symm ne_a_b20)).ext E52).other W55 (Ne.symm ne_a_b20)).lt (Nat.le_of_eq gg56.symm))
  have ne_b24_b56 : b24 ≠ b56 := Nat.ne_of_lt (Nat.lt_of_lt_of_le (((((((((((((((V24.other W27 (Ne.symm ne_a_b24)).ext E28).other W31 (Ne.symm ne_a_b24)).ext E32).other W35 (Ne.symm ne_a_b24)).ext E36).other W39 (Ne.symm ne_a_b24)).ext E40).other W43 (Ne.symm ne_a_b24)).ext E44).other W47 (Ne.symm ne_a_b24)).ext E48).other W51 (Ne.symm ne_a_b24)).ext E52).other W55 (Ne.symm ne_a_b24)).lt (Nat.le_of_eq gg56.symm))
  have ne_b28_b56 : b28 ≠ b56 := Nat.ne_of_lt (Nat.lt_of_lt_of_le (((((((((((((V28.other W31 (Ne.symm ne_a_b28)).ext E32).other W35 (Ne.symm ne_a_b28)).ext E36).other W39 (Ne.symm ne_a_b28)).ext E40).other W43 (Ne.symm ne_a_b28)).ext E44).other W47 (Ne.symm ne_a_b28)).ext E48).other W51 (Ne.symm ne_a_b28)).ext E52).other W55 (Ne.symm ne_a_b28)).lt (Nat.le_of_eq gg56.symm))
  have ne_b32_b56 : b32 ≠ b56 := Nat.ne_of_lt (Nat.lt_of_lt_of_le (((((((((((V32.other W35 (Ne.symm ne_a_b32)).ext E36).other W39 (Ne.symm ne_a_b32)).ext E40).other W43 (Ne.symm ne_a_b32)).ext E44).other W47 (Ne.symm ne_a_b32)).ext E48).other W51 (Ne.symm ne_a_b32)).ext E52).other W55 (Ne.symm ne_a_b32)).lt (Nat.le_of_eq gg56.symm))
  have ne_b36_b56 : b36 ≠ b56 := Nat.ne_of_lt (Nat.lt_of_lt_of_le (((((((((V36.other W39 (Ne.symm ne_a_b36)).ext E40).other W43 (Ne.symm ne_a_b36)).ext E44).other W47 (Ne.symm ne_a_b36)).ext E48).other W51 (Ne.symm ne_a_b36)).ext E52).other W55 (Ne.symm ne_a_b36)).lt (Nat.le_of_eq gg56.symm))
  have ne_b40_b56 : b40 ≠ b56 := Nat.ne_of_lt (Nat.lt_of_lt_of_le (((((((V40.other W43 (Ne.symm ne_a_b40)).ext E44).other W47 (Ne.symm ne_a_b40)).ext E48).other W51 (Ne.symm ne_a_b40)).ext E52).other W55 (Ne.symm ne_a_b40)).lt (Nat.le_of_eq gg56.symm))
  have ne_b44_b56 : b44 ≠ b56 := Nat.ne_of_lt (Nat.lt_of_lt_of_le (((((V44.other W47 (Ne.symm ne_a_b44)).ext E48).other W51 (Ne.symm ne_a_b44)).ext E52).other W55 (Ne.symm ne_a_b44)).lt (Nat.le_of_eq gg56.symm))
  have ne_b48_b56 : b48 ≠ b56 := Nat.ne_of_lt (Nat.lt_of_lt_of_le (((V48.other W51 (Ne.symm ne_a_b48)).ext E52).other W55 (Ne.symm ne_a_b48)).lt (Nat.le_of_eq gg56.symm))
  have ne_b52_b56 : b52 ≠ b56 := Nat.ne_of_lt (Nat.lt_of_lt_of_le (V52.other W55 (Ne.symm ne_a_b52)).lt (Nat.le_of_eq gg56.symm))
  have g_b56 : n0 ≤ b56 := Nat.le_trans Z55 (Nat.le_of_eq gg56.symm)
  have sz_b56 : h0.size ≤ b56 := Nat.le_trans K55.1 (Nat.le_of_eq gg56.symm)
  have Z56 : n0 ≤ h56.size := Nat.le_trans Z55 E56.1
  have K56 : Keep h0 h56 [a] := K55.ext E56
  have V56 : Arv Z h56 b56 k56 .long (64 : Int32) [(.long (0 : Int64)), (.long (0 : Int64)), (.long (0 : Int64)), (.long (0 : Int64))] (.long (0 : Int64)) := (Arv.new A56 (by decide)).pad (pad_rep [] (.long (0 : Int64)) 4)
  refine own_via st56 ?_
  show own_Go p e below s _ _ _ (T56.setTop (mkF m 140 #[lR a, lI 1, lI 4, lJ pl_, lS, lD pd_, lS, lI 64] [(.ref b56), (.ref a)]))
  have F57 := ((F53.wr W55).ext E56)
  have F58 := (((((((((((((((((((((((((F_frontierRanks_a.other W2 (Or.inr (slot_ne (Or.inl (hwi hw 64 rfl)) (Or.inr (hwi hw 12 rfl)) (by decide) (t := (.array .long)) (t' := .int) (by decide) (by decide)))).other W5 (Or.inr (slot_ne (Or.inl (hwi hw 64 rfl)) (Or.inr (hwi hw 14 rfl)) (by decide) (t := (.array .long)) (t' := .long) (by decide) (by decide)))).other W9 (Or.inr (slot_ne (Or.inl (hwi hw 64 rfl)) (Or.inr (hwi hw 21 rfl)) (by decide) (t := (.array .long)) (t' := .long) (by decide) (by decide)))).other W12 (Or.inr (slot_ne (Or.inl (hwi hw 64 rfl)) (Or.inr (hwi hw 23 rfl)) (by decide) (t := (.array .long)) (t' := .double) (by decide) (by decide)))).ext E16).other W19 (Or.inr (slot_ne (Or.inl (hwi hw 64 rfl)) (Or.inl (hwi hw 41 rfl)) (by decide) (t := (.array .long)) (t' := (.array .long)) (by decide) (by decide)))).ext E20).other W23 (Or.inr (slot_ne (Or.inl (hwi hw 64 rfl)) (Or.inl (hwi hw 44 rfl)) (by decide) (t := (.array .long)) (t' := (.array .double)) (by decide) (by decide)))).ext E24).other W27 (Or.inr (slot_ne (Or.inl (hwi hw 64 rfl)) (Or.inl (hwi hw 46 rfl)) (by decide) (t := (.array .long)) (t' := (.array .double)) (by decide) (by decide)))).ext E28).other W31 (Or.inr (slot_ne (Or.inl (hwi hw 64 rfl)) (Or.inl (hwi hw 49 rfl)) (by decide) (t := (.array .long)) (t' := (.array .int)) (by decide) (by decide)))).ext E32).other W35 (Or.inr (slot_ne (Or.inl (hwi hw 64 rfl)) (Or.inl (hwi hw 51 rfl)) (by decide) (t := (.array .long)) (t' := (.array .int)) (by decide) (by decide)))).ext E36).other W39 (Or.inr (slot_ne (Or.inl (hwi hw 64 rfl)) (Or.inl (hwi hw 53 rfl)) (by decide) (t := (.array .long)) (t' := (.array .int)) (by decide) (by decide)))).ext E40).other W43 (Or.inr (slot_ne (Or.inl (hwi hw 64 rfl)) (Or.inl (hwi hw 56 rfl)) (by decide) (t := (.array .long)) (t' := (.array .boolean)) (by decide) (by decide)))).ext E44).other W47 (Or.inr (slot_ne (Or.inl (hwi hw 64 rfl)) (Or.inl (hwi hw 58 rfl)) (by decide) (t := (.array .long)) (t' := (.array .int)) (by decide) (by decide)))).ext E48).other W51 (Or.inr (slot_ne (Or.inl (hwi hw 64 rfl)) (Or.inl (hwi hw 60 rfl)) (by decide) (t := (.array .long)) (t' := (.array .int)) (by decide) (by decide)))).ext E52).other W55 (Or.inr (slot_ne (Or.inl (hwi hw 64 rfl)) (Or.inl (hwi hw 62 rfl)) (by decide) (t := (.array .long)) (t' := (.array .double)) (by decide) (by decide)))).ext E56)
  obtain ⟨T59, h59, X59, e59, W59, st59⟩ := putF X56 hx hZ hown (host := "") (Or.inl (hwi hw 63 rfl)) Via.refl e56 F58 F57 (Or.inl (hwi hw 64 rfl)) (hwi hw 3 rfl) (ty := (.array .long)) (by decide) rfl rfl (g := (mkF m 140 #[lR a, lI 1, lI 4, lJ pl_, lS, lD pd_, lS, lI 64] [(.ref b56), (.ref a)])) rfl rfl (hb hby d1_140)
  have N59 := Fr.snoc X59 N55 g_a
  have Fw59 := F58.same W59
  have Z59 : n0 ≤ h59.size := Nat.le_trans Z56 (Keep.of_wr W59).1
  have K59 : Keep h0 h59 [a] := K56.wr W59 (Or.inl (List.mem_of_getElem? (i := 0) rfl))
  refine own_via st59 ?_
  show own_Go p e below s _ _ _ (T59.setTop (mkF m 143 #[lR a, lI 1, lI 4, lJ pl_, lS, lD pd_, lS, lI 64] []))
  have F60 := (F57.wr W59)
  have F61 := (((((((((((((((((((((((((Fw2.other W5 (Or.inr (slot_ne (Or.inr (hwi hw 12 rfl)) (Or.inr (hwi hw 14 rfl)) (by decide) (t := .int) (t' := .long) (by decide) (by decide)))).other W9 (Or.inr (slot_ne (Or.inr (hwi hw 12 rfl)) (Or.inr (hwi hw 21 rfl)) (by decide) (t := .int) (t' := .long) (by decide) (by decide)))).other W12 (Or.inr (slot_ne (Or.inr (hwi hw 12 rfl)) (Or.inr (hwi hw 23 rfl)) (by decide) (t := .int) (t' := .double) (by decide) (by decide)))).ext E16).other W19 (Or.inr (slot_ne (Or.inr (hwi hw 12 rfl)) (Or.inl (hwi hw 41 rfl)) (by decide) (t := .int) (t' := (.array .long)) (by decide) (by decide)))).ext E20).other W23 (Or.inr (slot_ne (Or.inr (hwi hw 12 rfl)) (Or.inl (hwi hw 44 rfl)) (by decide) (t := .int) (t' := (.array .double)) (by decide) (by decide)))).ext E24).other W27 (Or.inr (slot_ne (Or.inr (hwi hw 12 rfl)) (Or.inl (hwi hw 46 rfl)) (by decide) (t := .int) (t' := (.array .double)) (by decide) (by decide)))).ext E28).other W31 (Or.inr (slot_ne (Or.inr (hwi hw 12 rfl)) (Or.inl (hwi hw 49 rfl)) (by decide) (t := .int) (t' := (.array .int)) (by decide) (by decide)))).ext E32).other W35 (Or.inr (slot_ne (Or.inr (hwi hw 12 rfl)) (Or.inl (hwi hw 51 rfl)) (by decide) (t := .int) (t' := (.array .int)) (by decide) (by decide)))).ext E36).other W39 (Or.inr (slot_ne (Or.inr (hwi hw 12 rfl)) (Or.inl (hwi hw 53 rfl)) (by decide) (t := .int) (t' := (.array .int)) (by decide) (by decide)))).ext E40).other W43 (Or.inr (slot_ne (Or.inr (hwi hw 12 rfl)) (Or.inl (hwi hw 56 rfl)) (by decide) (t := .int) (t' := (.array .boolean)) (by decide) (by decide)))).ext E44).other W47 (Or.inr (slot_ne (Or.inr (hwi hw 12 rfl)) (Or.inl (hwi hw 58 rfl)) (by decide) (t := .int) (t' := (.array .int)) (by decide) (by decide)))).ext E48).other W51 (Or.inr (slot_ne (Or.inr (hwi hw 12 rfl)) (Or.inl (hwi hw 60 rfl)) (by decide) (t := .int) (t' := (.array .int)) (by decide) (by decide)))).ext E52).other W55 (Or.inr (slot_ne (Or.inr (hwi hw 12 rfl)) (Or.inl (hwi hw 62 rfl)) (by decide) (t := .int) (t' := (.array .double)) (by decide) (by decide)))).ext E56).other W59 (Or.inr (slot_ne (Or.inr (hwi hw 12 rfl)) (Or.inl (hwi hw 64 rfl)) (by decide) (t := .int) (t' := (.array .long)) (by decide) (by decide))))
  have F62 := ((((((((((((((((((((((((Fw5.other W9 (Or.inr (slot_ne (Or.inr (hwi hw 14 rfl)) (Or.inr (hwi hw 21 rfl)) (by decide) (t := .long) (t' := .long) (by decide) (by decide)))).other W12 (Or.inr (slot_ne (Or.inr (hwi hw 14 rfl)) (Or.inr (hwi hw 23 rfl)) (by decide) (t := .long) (t' := .double) (by decide) (by decide)))).ext E16).other W19 (Or.inr (slot_ne (Or.inr (hwi hw 14 rfl)) (Or.inl (hwi hw 41 rfl)) (by decide) (t := .long) (t' := (.array .long)) (by decide) (by decide)))).ext E20).other W23 (Or.inr (slot_ne (Or.inr (hwi hw 14 rfl)) (Or.inl (hwi hw 44 rfl)) (by decide) (t := .long) (t' := (.array .double)) (by decide) (by decide)))).ext E24).other W27 (Or.inr (slot_ne (Or.inr (hwi hw 14 rfl)) (Or.inl (hwi hw 46 rfl)) (by decide) (t := .long) (t' := (.array .double)) (by decide) (by decide)))).ext E28).other W31 (Or.inr (slot_ne (Or.inr (hwi hw 14 rfl)) (Or.inl (hwi hw 49 rfl)) (by decide) (t := .long) (t' := (.array .int)) (by decide) (by decide)))).ext E32).other W35 (Or.inr (slot_ne (Or.inr (hwi hw 14 rfl)) (Or.inl (hwi hw 51 rfl)) (by decide) (t := .long) (t' := (.array .int)) (by decide) (by decide)))).ext E36).other W39 (Or.inr (slot_ne (Or.inr (hwi hw 14 rfl)) (Or.inl (hwi hw 53 rfl)) (by decide) (t := .long) (t' := (.array .int)) (by decide) (by decide)))).ext E40).other W43 (Or.inr (slot_ne (Or.inr (hwi hw 14 rfl)) (Or.inl (hwi hw 56 rfl)) (by decide) (t := .long) (t' := (.array .boolean)) (by decide) (by decide)))).ext E44).other W47 (Or.inr (slot_ne (Or.inr (hwi hw 14 rfl)) (Or.inl (hwi hw 58 rfl)) (by decide) (t := .long) (t' := (.array .int)) (by decide) (by decide)))).ext E48).other W51 (Or.inr (slot_ne (Or.inr (hwi hw 14 rfl)) (Or.inl (hwi hw 60 rfl)) (by decide) (t := .long) (t' := (.array .int)) (by decide) (by decide)))).ext E52).other W55 (Or.inr (slot_ne (Or.inr (hwi hw 14 rfl)) (Or.inl (hwi hw 62 rfl)) (by decide) (t := .long) (t' := (.array .double)) (by decide) (by decide)))).ext E56).other W59 (Or.inr (slot_ne (Or.inr (hwi hw 14 rfl)) (Or.inl (hwi hw 64 rfl)) (by decide) (t := .long) (t' := (.array .long)) (by decide) (by decide))))
  have F63 := ((((((((((((((((((((((((((F_count_a.other W2 (Or.inr (slot_ne (Or.inl (hwi hw 71 rfl)) (Or.inr (hwi hw 12 rfl)) (by decide) (t := .int) (t' := .int) (by decide) (by decide)))).other W5 (Or.inr (slot_ne (Or.inl (hwi hw 71 rfl)) (Or.inr (hwi hw 14 rfl)) (by decide) (t := .int) (t' := .long) (by decide) (by decide)))).other W9 (Or.inr (slot_ne (Or.inl (hwi hw 71 rfl)) (Or.inr (hwi hw 21 rfl)) (by decide) (t := .int) (t' := .long) (by decide) (by decide)))).other W12 (Or.inr (slot_ne (Or.inl (hwi hw 71 rfl)) (Or.inr (hwi hw 23 rfl)) (by decide) (t := .int) (t' := .double) (by decide) (by decide)))).ext E16).other W19 (Or.inr (slot_ne (Or.inl (hwi hw 71 rfl)) (Or.inl (hwi hw 41 rfl)) (by decide) (t := .int) (t' := (.array .long)) (by decide) (by decide)))).ext E20).other W23 (Or.inr (slot_ne (Or.inl (hwi hw 71 rfl)) (Or.inl (hwi hw 44 rfl)) (by decide) (t := .int) (t' := (.array .double)) (by decide) (by decide)))).ext E24).other W27 (Or.inr (slot_ne (Or.inl (hwi hw 71 rfl)) (Or.inl (hwi hw 46 rfl)) (by decide) (t := .int) (t' := (.array .double)) (by decide) (by decide)))).ext E28).other W31 (Or.inr (slot_ne (Or.inl (hwi hw 71 rfl)) (Or.inl (hwi hw 49 rfl)) (by decide) (t := .int) (t' := (.array .int)) (by decide) (by decide)))).ext E32).other W35 (Or.inr (slot_ne (Or.inl (hwi hw 71 rfl)) (Or.inl (hwi hw 51 rfl)) (by decide) (t := .int) (t' := (.array .int)) (by decide) (by decide)))).ext E36).other W39 (Or.inr (slot_ne (Or.inl (hwi hw 71 rfl)) (Or.inl (hwi hw 53 rfl)) (by decide) (t := .int) (t' := (.array .int)) (by decide) (by decide)))).ext E40).other W43 (Or.inr (slot_ne (Or.inl (hwi hw 71 rfl)) (Or.inl (hwi hw 56 rfl)) (by decide) (t := .int) (t' := (.array .boolean)) (by decide) (by decide)))).ext E44).other W47 (Or.inr (slot_ne (Or.inl (hwi hw 71 rfl)) (Or.inl (hwi hw 58 rfl)) (by decide) (t := .int) (t' := (.array .int)) (by decide) (by decide)))).ext E48).other W51 (Or.inr (slot_ne (Or.inl (hwi hw 71 rfl)) (Or.inl (hwi hw 60 rfl)) (by decide) (t := .int) (t' := (.array .int)) (by decide) (by decide)))).ext E52).other W55 (Or.inr (slot_ne (Or.inl (hwi hw 71 rfl)) (Or.inl (hwi hw 62 rfl)) (by decide) (t := .int) (t' := (.array .double)) (by decide) (by decide)))).ext E56).other W59 (Or.inr (slot_ne (Or.inl (hwi hw 71 rfl)) (Or.inl (hwi hw 64 rfl)) (by decide) (t := .int) (t' := (.array .long)) (by decide) (by decide))))
  have F64 := ((((((((((((((((((((Fw19.ext E20).other W23 (Or.inr (slot_ne (Or.inl (hwi hw 41 rfl)) (Or.inl (hwi hw 44 rfl)) (by decide) (t := (.array .long)) (t' := (.array .double)) (by decide) (by decide)))).ext E24).other W27 (Or.inr (slot_ne (Or.inl (hwi hw 41 rfl)) (Or.inl (hwi hw 46 rfl)) (by decide) (t := (.array .long)) (t' := (.array .double)) (by decide) (by decide)))).ext E28).other W31 (Or.inr (slot_ne (Or.inl (hwi hw 41 rfl)) (Or.inl (hwi hw 49 rfl)) (by decide) (t := (.array .long)) (t' := (.array .int)) (by decide) (by decide)))).ext E32).other W35 (Or.inr (slot_ne (Or.inl (hwi hw 41 rfl)) (Or.inl (hwi hw 51 rfl)) (by decide) (t := (.array .long)) (t' := (.array .int)) (by decide) (by decide)))).ext E36).other W39 (Or.inr (slot_ne (Or.inl (hwi hw 41 rfl)) (Or.inl (hwi hw 53 rfl)) (by decide) (t := (.array .long)) (t' := (.array .int)) (by decide) (by decide)))).ext E40).other W43 (Or.inr (slot_ne (Or.inl (hwi hw 41 rfl)) (Or.inl (hwi hw 56 rfl)) (by decide) (t := (.array .long)) (t' := (.array .boolean)) (by decide) (by decide)))).ext E44).other W47 (Or.inr (slot_ne (Or.inl (hwi hw 41 rfl)) (Or.inl (hwi hw 58 rfl)) (by decide) (t := (.array .long)) (t' := (.array .int)) (by decide) (by decide)))).ext E48).other W51 (Or.inr (slot_ne (Or.inl (hwi hw 41 rfl)) (Or.inl (hwi hw 60 rfl)) (by decide) (t := (.array .long)) (t' := (.array .int)) (by decide) (by decide)))).ext E52).other W55 (Or.inr (slot_ne (Or.inl (hwi hw 41 rfl)) (Or.inl (hwi hw 62 rfl)) (by decide) (t := (.array .long)) (t' := (.array .double)) (by decide) (by decide)))).ext E56).other W59 (Or.inr (slot_ne (Or.inl (hwi hw 41 rfl)) (Or.inl (hwi hw 64 rfl)) (by decide) (t := (.array .long)) (t' := (.array .long)) (by decide) (by decide))))
  have F65 := ((((((((((((((((((Fw23.ext E24).other W27 (Or.inr (slot_ne (Or.inl (hwi hw 44 rfl)) (Or.inl (hwi hw 46 rfl)) (by decide) (t := (.array .double)) (t' := (.array .double)) (by decide) (by decide)))).ext E28).other W31 (Or.inr (slot_ne (Or.inl (hwi hw 44 rfl)) (Or.inl (hwi hw 49 rfl)) (by decide) (t := (.array .double)) (t' := (.array .int)) (by decide) (by decide)))).ext E32).other W35 (Or.inr (slot_ne (Or.inl (hwi hw 44 rfl)) (Or.inl (hwi hw 51 rfl)) (by decide) (t := (.array .double)) (t' := (.array .int)) (by decide) (by decide)))).ext E36).other W39 (Or.inr (slot_ne (Or.inl (hwi hw 44 rfl)) (Or.inl (hwi hw 53 rfl)) (by decide) (t := (.array .double)) (t' := (.array .int)) (by decide) (by decide)))).ext E40).other W43 (Or.inr (slot_ne (Or.inl (hwi hw 44 rfl)) (Or.inl (hwi hw 56 rfl)) (by decide) (t := (.array .double)) (t' := (.array .boolean)) (by decide) (by decide)))).ext E44).other W47 (Or.inr (slot_ne (Or.inl (hwi hw 44 rfl)) (Or.inl (hwi hw 58 rfl)) (by decide) (t := (.array .double)) (t' := (.array .int)) (by decide) (by decide)))).ext E48).other W51 (Or.inr (slot_ne (Or.inl (hwi hw 44 rfl)) (Or.inl (hwi hw 60 rfl)) (by decide) (t := (.array .double)) (t' := (.array .int)) (by decide) (by decide)))).ext E52).other W55 (Or.inr (slot_ne (Or.inl (hwi hw 44 rfl)) (Or.inl (hwi hw 62 rfl)) (by decide) (t := (.array .double)) (t' := (.array .double)) (by decide) (by decide)))).ext E56).other W59 (Or.inr (slot_ne (Or.inl (hwi hw 44 rfl)) (Or.inl (hwi hw 64 rfl)) (by decide) (t := (.array .double)) (t' := (.array .long)) (by decide) (by decide))))
  have F66 := ((((((((((((((((Fw27.ext E28).other W31 (Or.inr (slot_ne (Or.inl (hwi hw 46 rfl)) (Or.inl (hwi hw 49 rfl)) (by decide) (t := (.array .double)) (t' := (.array .int)) (by decide) (by decide)))).ext E32).other W35 (Or.inr (slot_ne (Or.inl (hwi hw 46 rfl)) (Or.inl (hwi hw 51 rfl)) (by decide) (t := (.array .double)) (t' := (.array .int)) (by decide) (by decide)))).ext E36).other W39 (Or.inr (slot_ne (Or.inl (hwi hw 46 rfl)) (Or.inl (hwi hw 53 rfl)) (by decide) (t := (.array .double)) (t' := (.array .int)) (by decide) (by decide)))).ext E40).other W43 (Or.inr (slot_ne (Or.inl (hwi hw 46 rfl)) (Or.inl (hwi hw 56 rfl)) (by decide) (t := (.array .double)) (t' := (.array .boolean)) (by decide) (by decide)))).ext E44).other W47 (Or.inr (slot_ne (Or.inl (hwi hw 46 rfl)) (Or.inl (hwi hw 58 rfl)) (by decide) (t := (.array .double)) (t' := (.array .int)) (by decide) (by decide)))).ext E48).other W51 (Or.inr (slot_ne (Or.inl (hwi hw 46 rfl)) (Or.inl (hwi hw 60 rfl)) (by decide) (t := (.array .double)) (t' := (.array .int)) (by decide) (by decide)))).ext E52).other W55 (Or.inr (slot_ne (Or.inl (hwi hw 46 rfl)) (Or.inl (hwi hw 62 rfl)) (by decide) (t := (.array .double)) (t' := (.array .double)) (by decide) (by decide)))).ext E56).other W59 (Or.inr (slot_ne (Or.inl (hwi hw 46 rfl)) (Or.inl (hwi hw 64 rfl)) (by decide) (t := (.array .double)) (t' := (.array .long)) (by decide) (by decide))))
  have F67 := ((((((((((((((Fw31.ext E32).other W35 (Or.inr (slot_ne (Or.inl (hwi hw 49 rfl)) (Or.inl (hwi hw 51 rfl)) (by decide) (t := (.array .int)) (t' := (.array .int)) (by decide) (by decide)))).ext E36).other W39 (Or.inr (slot_ne (Or.inl (hwi hw 49 rfl)) (Or.inl (hwi hw 53 rfl)) (by decide) (t := (.array .int)) (t' := (.array .int)) (by decide) (by decide)))).ext E40).other W43 (Or.inr (slot_ne (Or.inl (hwi hw 49 rfl)) (Or.inl (hwi hw 56 rfl)) (by decide) (t := (.array .int)) (t' := (.array .boolean)) (by decide) (by decide)))).ext E44).other W47 (Or.inr (slot_ne (Or.inl (hwi hw 49 rfl)) (Or.inl (hwi hw 58 rfl)) (by decide) (t := (.array .int)) (t' := (.array .int)) (by decide) (by decide)))).ext E48).other W51 (Or.inr (slot_ne (Or.inl (hwi hw 49 rfl)) (Or.inl (hwi hw 60 rfl)) (by decide) (t := (.array .int)) (t' := (.array .int)) (by decide) (by decide)))).ext E52).other W55 (Or.inr (slot_ne (Or.inl (hwi hw 49 rfl)) (Or.inl (hwi hw 62 rfl)) (by decide) (t := (.array .int)) (t' := (.array .double)) (by decide) (by decide)))).ext E56).other W59 (Or.inr (slot_ne (Or.inl (hwi hw 49 rfl)) (Or.inl (hwi hw 64 rfl)) (by decide) (t := (.array .int)) (t' := (.array .long)) (by decide) (by decide))))
  have F68 := ((((((((((((Fw35.ext E36).other W39 (Or.inr (slot_ne (Or.inl (hwi hw 51 rfl)) (Or.inl (hwi hw 53 rfl)) (by decide) (t := (.array .int)) (t' := (.array .int)) (by decide) (by decide)))).ext E40).other W43 (Or.inr (slot_ne (Or.inl (hwi hw 51 rfl)) (Or.inl (hwi hw 56 rfl)) (by decide) (t := (.array .int)) (t' := (.array .boolean)) (by decide) (by decide)))).ext E44).other W47 (Or.inr (slot_ne (Or.inl (hwi hw 51 rfl)) (Or.inl (hwi hw 58 rfl)) (by decide) (t := (.array .int)) (t' := (.array .int)) (by decide) (by decide)))).ext E48).other W51 (Or.inr (slot_ne (Or.inl (hwi hw 51 rfl)) (Or.inl (hwi hw 60 rfl)) (by decide) (t := (.array .int)) (t' := (.array .int)) (by decide) (by decide)))).ext E52).other W55 (Or.inr (slot_ne (Or.inl (hwi hw 51 rfl)) (Or.inl (hwi hw 62 rfl)) (by decide) (t := (.array .int)) (t' := (.array .double)) (by decide) (by decide)))).ext E56).other W59 (Or.inr (slot_ne (Or.inl (hwi hw 51 rfl)) (Or.inl (hwi hw 64 rfl)) (by decide) (t := (.array .int)) (t' := (.array .long)) (by decide) (by decide))))
  have F69 := ((((((((((Fw39.ext E40).other W43 (Or.inr (slot_ne (Or.inl (hwi hw 53 rfl)) (Or.inl (hwi hw 56 rfl)) (by decide) (t := (.array .int)) (t' := (.array .boolean)) (by decide) (by decide)))).ext E44).other W47 (Or.inr (slot_ne (Or.inl (hwi hw 53 rfl)) (Or.inl (hwi hw 58 rfl)) (by decide) (t := (.array .int)) (t' := (.array .int)) (by decide) (by decide)))).ext E48).other W51 (Or.inr (slot_ne (Or.inl (hwi hw 53 rfl)) (Or.inl (hwi hw 60 rfl)) (by decide) (t := (.array .int)) (t' := (.array .int)) (by decide) (by decide)))).ext E52).other W55 (Or.inr (slot_ne (Or.inl (hwi hw 53 rfl)) (Or.inl (hwi hw 62 rfl)) (by decide) (t := (.array .int)) (t' := (.array .double)) (by decide) (by decide)))).ext E56).other W59 (Or.inr (slot_ne (Or.inl (hwi hw 53 rfl)) (Or.inl (hwi hw 64 rfl)) (by decide) (t := (.array .int)) (t' := (.array .long)) (by decide) (by decide))))
  have F70 := ((((((((Fw43.ext E44).other W47 (Or.inr (slot_ne (Or.inl (hwi hw 56 rfl)) (Or.inl (hwi hw 58 rfl)) (by decide) (t := (.array .boolean)) (t' := (.array .int)) (by decide) (by decide)))).ext E48).other W51 (Or.inr (slot_ne (Or.inl (hwi hw 56 rfl)) (Or.inl (hwi hw 60 rfl)) (by decide) (t := (.array .boolean)) (t' := (.array .int)) (by decide) (by decide)))).ext E52).other W55 (Or.inr (slot_ne (Or.inl (hwi hw 56 rfl)) (Or.inl (hwi hw 62 rfl)) (by decide) (t := (.array .boolean)) (t' := (.array .double)) (by decide) (by decide)))).ext E56).other W59 (Or.inr (slot_ne (Or.inl (hwi hw 56 rfl)) (Or.inl (hwi hw 64 rfl)) (by decide) (t := (.array .boolean)) (t' := (.array .long)) (by decide) (by decide))))
  have F71 := ((((((Fw47.ext E48).other W51 (Or.inr (slot_ne (Or.inl (hwi hw 58 rfl)) (Or.inl (hwi hw 60 rfl)) (by decide) (t := (.array .int)) (t' := (.array .int)) (by decide) (by decide)))).ext E52).other W55 (Or.inr (slot_ne (Or.inl (hwi hw 58 rfl)) (Or.inl (hwi hw 62 rfl)) (by decide) (t := (.array .int)) (t' := (.array .double)) (by decide) (by decide)))).ext E56).other W59 (Or.inr (slot_ne (Or.inl (hwi hw 58 rfl)) (Or.inl (hwi hw 64 rfl)) (by decide) (t := (.array .int)) (t' := (.array .long)) (by decide) (by decide))))
  have F72 := ((((Fw51.ext E52).other W55 (Or.inr (slot_ne (Or.inl (hwi hw 60 rfl)) (Or.inl (hwi hw 62 rfl)) (by decide) (t := (.array .int)) (t' := (.array .double)) (by decide) (by decide)))).ext E56).other W59 (Or.inr (slot_ne (Or.inl (hwi hw 60 rfl)) (Or.inl (hwi hw 64 rfl)) (by decide) (t := (.array .int)) (t' := (.array .long)) (by decide) (by decide))))
  have F73 := ((Fw55.ext E56).other W59 (Or.inr (slot_ne (Or.inl (hwi hw 62 rfl)) (Or.inl (hwi hw 64 rfl)) (by decide) (t := (.array .double)) (t' := (.array .long)) (by decide) (by decide))))
  have F74 := ((((((((((((((((((((((((((F_waiting_a.other W2 (Or.inr (slot_ne (Or.inl (hwi hw 89 rfl)) (Or.inr (hwi hw 12 rfl)) (by decide) (t := .int) (t' := .int) (by decide) (by decide)))).other W5 (Or.inr (slot_ne (Or.inl (hwi hw 89 rfl)) (Or.inr (hwi hw 14 rfl)) (by decide) (t := .int) (t' := .long) (by decide) (by decide)))).other W9 (Or.inr (slot_ne (Or.inl (hwi hw 89 rfl)) (Or.inr (hwi hw 21 rfl)) (by decide) (t := .int) (t' := .long) (by decide) (by decide)))).other W12 (Or.inr (slot_ne (Or.inl (hwi hw 89 rfl)) (Or.inr (hwi hw 23 rfl)) (by decide) (t := .int) (t' := .double) (by decide) (by decide)))).ext E16).other W19 (Or.inr (slot_ne (Or.inl (hwi hw 89 rfl)) (Or.inl (hwi hw 41 rfl)) (by decide) (t := .int) (t' := (.array .long)) (by decide) (by decide)))).ext E20).other W23 (Or.inr (slot_ne (Or.inl (hwi hw 89 rfl)) (Or.inl (hwi hw 44 rfl)) (by decide) (t := .int) (t' := (.array .double)) (by decide) (by decide)))).ext E24).other W27 (Or.inr (slot_ne (Or.inl (hwi hw 89 rfl)) (Or.inl (hwi hw 46 rfl)) (by decide) (t := .int) (t' := (.array .double)) (by decide) (by decide)))).ext E28).other W31 (Or.inr (slot_ne (Or.inl (hwi hw 89 rfl)) (Or.inl (hwi hw 49 rfl)) (by decide) (t := .int) (t' := (.array .int)) (by decide) (by decide)))).ext E32).other W35 (Or.inr (slot_ne (Or.inl (hwi hw 89 rfl)) (Or.inl (hwi hw 51 rfl)) (by decide) (t := .int) (t' := (.array .int)) (by decide) (by decide)))).ext E36).other W39 (Or.inr (slot_ne (Or.inl (hwi hw 89 rfl)) (Or.inl (hwi hw 53 rfl)) (by decide) (t := .int) (t' := (.array .int)) (by decide) (by decide)))).ext E40).other W43 (Or.inr (slot_ne (Or.inl (hwi hw 89 rfl)) (Or.inl (hwi hw 56 rfl)) (by decide) (t := .int) (t' := (.array .boolean)) (by decide) (by decide)))).ext E44).other W47 (Or.inr (slot_ne (Or.inl (hwi hw 89 rfl)) (Or.inl (hwi hw 58 rfl)) (by decide) (t := .int) (t' := (.array .int)) (by decide) (by decide)))).ext E48).other W51 (Or.inr (slot_ne (Or.inl (hwi hw 89 rfl)) (Or.inl (hwi hw 60 rfl)) (by decide) (t := .int) (t' := (.array .int)) (by decide) (by decide)))).ext E52).other W55 (Or.inr (slot_ne (Or.inl (hwi hw 89 rfl)) (Or.inl (hwi hw 62 rfl)) (by decide) (t := .int) (t' := (.array .double)) (by decide) (by decide)))).ext E56).other W59 (Or.inr (slot_ne (Or.inl (hwi hw 89 rfl)) (Or.inl (hwi hw 64 rfl)) (by decide) (t := .int) (t' := (.array .long)) (by decide) (by decide))))
  have F75 := ((((((((((((((((((((((((((F_waitingWithin_a.other W2 (Or.inr (slot_ne (Or.inl (hwi hw 82 rfl)) (Or.inr (hwi hw 12 rfl)) (by decide) (t := .long) (t' := .int) (by decide) (by decide)))).other W5 (Or.inr (slot_ne (Or.inl (hwi hw 82 rfl)) (Or.inr (hwi hw 14 rfl)) (by decide) (t := .long) (t' := .long) (by decide) (by decide)))).other W9 (Or.inr (slot_ne (Or.inl (hwi hw 82 rfl)) (Or.inr (hwi hw 21 rfl)) (by decide) (t := .long) (t' := .long) (by decide) (by decide)))).other W12 (Or.inr (slot_ne (Or.inl (hwi hw 82 rfl)) (Or.inr (hwi hw 23 rfl)) (by decide) (t := .long) (t' := .double) (by decide) (by decide)))).ext E16).other W19 (Or.inr (slot_ne (Or.inl (hwi hw 82 rfl)) (Or.inl (hwi hw 41 rfl)) (by decide) (t := .long) (t' := (.array .long)) (by decide) (by decide)))).ext E20).other W23 (Or.inr (slot_ne (Or.inl (hwi hw 82 rfl)) (Or.inl (hwi hw 44 rfl)) (by decide) (t := .long) (t' := (.array .double)) (by decide) (by decide)))).ext E24).other W27 (Or.inr (slot_ne (Or.inl (hwi hw 82 rfl)) (Or.inl (hwi hw 46 rfl)) (by decide) (t := .long) (t' := (.array .double)) (by decide) (by decide)))).ext E28).other W31 (Or.inr (slot_ne (Or.inl (hwi hw 82 rfl)) (Or.inl (hwi hw 49 rfl)) (by decide) (t := .long) (t' := (.array .int)) (by decide) (by decide)))).ext E32).other W35 (Or.inr (slot_ne (Or.inl (hwi hw 82 rfl)) (Or.inl (hwi hw 51 rfl)) (by decide) (t := .long) (t' := (.array .int)) (by decide) (by decide)))).ext E36).other W39 (Or.inr (slot_ne (Or.inl (hwi hw 82 rfl)) (Or.inl (hwi hw 53 rfl)) (by decide) (t := .long) (t' := (.array .int)) (by decide) (by decide)))).ext E40).other W43 (Or.inr (slot_ne (Or.inl (hwi hw 82 rfl)) (Or.inl (hwi hw 56 rfl)) (by decide) (t := .long) (t' := (.array .boolean)) (by decide) (by decide)))).ext E44).other W47 (Or.inr (slot_ne (Or.inl (hwi hw 82 rfl)) (Or.inl (hwi hw 58 rfl)) (by decide) (t := .long) (t' := (.array .int)) (by decide) (by decide)))).ext E48).other W51 (Or.inr (slot_ne (Or.inl (hwi hw 82 rfl)) (Or.inl (hwi hw 60 rfl)) (by decide) (t := .long) (t' := (.array .int)) (by decide) (by decide)))).ext E52).other W55 (Or.inr (slot_ne (Or.inl (hwi hw 82 rfl)) (Or.inl (hwi hw 62 rfl)) (by decide) (t := .long) (t' := (.array .double)) (by decide) (by decide)))).ext E56).other W59 (Or.inr (slot_ne (Or.inl (hwi hw 82 rfl)) (Or.inl (hwi hw 64 rfl)) (by decide) (t := .long) (t' := (.array .long)) (by decide) (by decide))))
  have F76 := ((((((((((((((((((((((((((F_held_a.other W2 (Or.inr (slot_ne (Or.inl (hwi hw 119 rfl)) (Or.inr (hwi hw 12 rfl)) (by decide) (t := .int) (t' := .int) (by decide) (by decide)))).other W5 (Or.inr (slot_ne (Or.inl (hwi hw 119 rfl)) (Or.inr (hwi hw 14 rfl)) (by decide) (t := .int) (t' := .long) (by decide) (by decide)))).other W9 (Or.inr (slot_ne (Or.inl (hwi hw 119 rfl)) (Or.inr (hwi hw 21 rfl)) (by decide) (t := .int) (t' := .long) (by decide) (by decide)))).other W12 (Or.inr (slot_ne (Or.inl (hwi hw 119 rfl)) (Or.inr (hwi hw 23 rfl)) (by decide) (t := .int) (t' := .double) (by decide) (by decide)))).ext E16).other W19 (Or.inr (slot_ne (Or.inl (hwi hw 119 rfl)) (Or.inl (hwi hw 41 rfl)) (by decide) (t := .int) (t' := (.array .long)) (by decide) (by decide)))).ext E20).other W23 (Or.inr (slot_ne (Or.inl (hwi hw 119 rfl)) (Or.inl (hwi hw 44 rfl)) (by decide) (t := .int) (t' := (.array .double)) (by decide) (by decide)))).ext E24).other W27 (Or.inr (slot_ne (Or.inl (hwi hw 119 rfl)) (Or.inl (hwi hw 46 rfl)) (by decide) (t := .int) (t' := (.array .double)) (by decide) (by decide)))).ext E28).other W31 (Or.inr (slot_ne (Or.inl (hwi hw 119 rfl)) (Or.inl (hwi hw 49 rfl)) (by decide) (t := .int) (t' := (.array .int)) (by decide) (by decide)))).ext E32).other W35 (Or.inr (slot_ne (Or.inl (hwi hw 119 rfl)) (Or.inl (hwi hw 51 rfl)) (by decide) (t := .int) (t' := (.array .int)) (by decide) (by decide)))).ext E36).other W39 (Or.inr (slot_ne (Or.inl (hwi hw 119 rfl)) (Or.inl (hwi hw 53 rfl)) (by decide) (t := .int) (t' := (.array .int)) (by decide) (by decide)))).ext E40).other W43 (Or.inr (slot_ne (Or.inl (hwi hw 119 rfl)) (Or.inl (hwi hw 56 rfl)) (by decide) (t := .int) (t' := (.array .boolean)) (by decide) (by decide)))).ext E44).other W47 (Or.inr (slot_ne (Or.inl (hwi hw 119 rfl)) (Or.inl (hwi hw 58 rfl)) (by decide) (t := .int) (t' := (.array .int)) (by decide) (by decide)))).ext E48).other W51 (Or.inr (slot_ne (Or.inl (hwi hw 119 rfl)) (Or.inl (hwi hw 60 rfl)) (by decide) (t := .int) (t' := (.array .int)) (by decide) (by decide)))).ext E52).other W55 (Or.inr (slot_ne (Or.inl (hwi hw 119 rfl)) (Or.inl (hwi hw 62 rfl)) (by decide) (t := .int) (t' := (.array .double)) (by decide) (by decide)))).ext E56).other W59 (Or.inr (slot_ne (Or.inl (hwi hw 119 rfl)) (Or.inl (hwi hw 64 rfl)) (by decide) (t := .int) (t' := (.array .long)) (by decide) (by decide))))
  have F77 := (((((((((((((((((((((V16.other W19 (Ne.symm ne_a_b16)).ext E20).other W23 (Ne.symm ne_a_b16)).ext E24).other W27 (Ne.symm ne_a_b16)).ext E28).other W31 (Ne.symm ne_a_b16)).ext E32).other W35 (Ne.symm ne_a_b16)).ext E36).other W39 (Ne.symm ne_a_b16)).ext E40).other W43 (Ne.symm ne_a_b16)).ext E44).other W47 (Ne.symm ne_a_b16)).ext E48).other W51 (Ne.symm ne_a_b16)).ext E52).other W55 (Ne.symm ne_a_b16)).ext E56).other W59 (Ne.symm ne_a_b16))
  have F78 := (((((((((((((((((((V20.other W23 (Ne.symm ne_a_b20)).ext E24).other W27 (Ne.symm ne_a_b20)).ext E28).other W31 (Ne.symm ne_a_b20)).ext E32).other W35 (Ne.symm ne_a_b20)).ext E36).other W39 (Ne.symm ne_a_b20)).ext E40).other W43 (Ne.symm ne_a_b20)).ext E44).other W47 (Ne.symm ne_a_b20)).ext E48).other W51 (Ne.symm ne_a_b20)).ext E52).other W55 (Ne.symm ne_a_b20)).ext E56).other W59 (Ne.symm ne_a_b20))
  have F79 := (((((((((((((((((V24.other W27 (Ne.symm ne_a_b24)).ext E28).other W31 (Ne.symm ne_a_b24)).ext E32).other W35 (Ne.symm ne_a_b24)).ext E36).other W39 (Ne.symm ne_a_b24)).ext E40).other W43 (Ne.symm ne_a_b24)).ext E44).other W47 (Ne.symm ne_a_b24)).ext E48).other W51 (Ne.symm ne_a_b24)).ext E52).other W55 (Ne.symm ne_a_b24)).ext E56).other W59 (Ne.symm ne_a_b24))
  have F80 := (((((((((((((((V28.other W31 (Ne.symm ne_a_b28)).ext E32).other W35 (Ne.symm ne_a_b28)).ext E36).other W39 (Ne.symm ne_a_b28)).ext E40).other W43 (Ne.symm ne_a_b28)).ext E44).other W47 (Ne.symm ne_a_b28)).ext E48).other W51 (Ne.symm ne_a_b28)).ext E52).other W55 (Ne.symm ne_a_b28)).ext E56).other W59 (Ne.symm ne_a_b28))
  have F81 := (((((((((((((V32.other W35 (Ne.symm ne_a_b32)).ext E36).other W39 (Ne.symm ne_a_b32)).ext E40).other W43 (Ne.symm ne_a_b32)).ext E44).other W47 (Ne.symm ne_a_b32)).ext E48).other W51 (Ne.symm ne_a_b32)).ext E52).other W55 (Ne.symm ne_a_b32)).ext E56).other W59 (Ne.symm ne_a_b32))
  have F82 := (((((((((((V36.other W39 (Ne.symm ne_a_b36)).ext E40).other W43 (Ne.symm ne_a_b36)).ext E44).other W47 (Ne.symm ne_a_b36)).ext E48).other W51 (Ne.symm ne_a_b36)).ext E52).other W55 (Ne.symm ne_a_b36)).ext E56).other W59 (Ne.symm ne_a_b36))
  have F83 := (((((((((V40.other W43 (Ne.symm ne_a_b40)).ext E44).other W47 (Ne.symm ne_a_b40)).ext E48).other W51 (Ne.symm ne_a_b40)).ext E52).other W55 (Ne.symm ne_a_b40)).ext E56).other W59 (Ne.symm ne_a_b40))
  have F84 := (((((((V44.other W47 (Ne.symm ne_a_b44)).ext E48).other W51 (Ne.symm ne_a_b44)).ext E52).other W55 (Ne.symm ne_a_b44)).ext E56).other W59 (Ne.symm ne_a_b44))
  have F85 := (((((V48.other W51 (Ne.symm ne_a_b48)).ext E52).other W55 (Ne.symm ne_a_b48)).ext E56).other W59 (Ne.symm ne_a_b48))
  have F86 := (((V52.other W55 (Ne.symm ne_a_b52)).ext E56).other W59 (Ne.symm ne_a_b52))
  have F87 := (V56.other W59 (Ne.symm ne_a_b56))
  exact own_goV X59 hx Bd.returns (hb hby d1_143) Bd.notSynchronized (by decide) (by decide) (by rw [e59]; exact ⟨b16, b20, b24, b28, b32, b36, b40, b44, b48, b52, b56, k16, k20, k24, k28, k32, k36, k40, k44, k48, k52, k56, [(.int (0 : Int32)), (.int (0 : Int32)), (.int (0 : Int32)), (.int (0 : Int32)), (.int (0 : Int32)), (.int (0 : Int32)), (.int (0 : Int32)), (.int (0 : Int32)), (.int (0 : Int32)), (.int (0 : Int32)), (.int (0 : Int32)), (.int (0 : Int32)), (.int (0 : Int32)), (.int (0 : Int32)), (.int (0 : Int32)), (.int (0 : Int32)), (.int (0 : Int32)), (.int (0 : Int32)), (.int (0 : Int32)), (.int (0 : Int32)), (.int (0 : Int32)), (.int (0 : Int32)), (.int (0 : Int32)), (.int (0 : Int32)), (.int (0 : Int32)), (.int (0 : Int32)), (.int (0 : Int32)), (.int (0 : Int32)), (.int (0 : Int32)), (.int (0 : Int32)), (.int (0 : Int32)), (.int (0 : Int32)), (.int (0 : Int32)), (.int (0 : Int32)), (.int (0 : Int32)), (.int (0 : Int32)), (.int (0 : Int32)), (.int (0 : Int32)), (.int (0 : Int32)), (.int (0 : Int32)), (.int (0 : Int32)), (.int (0 : Int32)), (.int (0 : Int32)), (.int (0 : Int32)), (.int (0 : Int32))], rfl, N59, K59, sz_b16, sz_b20, sz_b24, sz_b28, sz_b32, sz_b36, sz_b40, sz_b44, sz_b48, sz_b52, sz_b56, F60, F61, F62, F63, F64, F65, F66, F67, F68, F69, F70, F71, F72, F73, Fw59, F74, F75, F76, F77, F78, F79, F80, F81, F82, F83, F84, F85, F86, F87, ne_b16_b20, ne_b16_b24, ne_b16_b28, ne_b16_b32, ne_b16_b36, ne_b16_b40, ne_b16_b44, ne_b16_b48, ne_b16_b52, ne_b16_b56, ne_b20_b24, ne_b20_b28, ne_b20_b32, ne_b20_b36, ne_b20_b40, ne_b20_b44, ne_b20_b48, ne_b20_b52, ne_b20_b56, ne_b24_b28, ne_b24_b32, ne_b24_b36, ne_b24_b40, ne_b24_b44, ne_b24_b48, ne_b24_b52, ne_b24_b56, ne_b28_b32, ne_b28_b36, ne_b28_b40, ne_b28_b44, ne_b28_b48, ne_b28_b52, ne_b28_b56, ne_b32_b36, ne_b32_b40, ne_b32_b44, ne_b32_b48, ne_b32_b52, ne_b32_b56, ne_b36_b40, ne_b36_b44, ne_b36_b48, ne_b36_b52, ne_b36_b56, ne_b40_b44, ne_b40_b48, ne_b40_b52, ne_b40_b56, ne_b44_b48, ne_b44_b52, ne_b44_b56, ne_b48_b52, ne_b48_b56, ne_b52_b56, rfl, rfl⟩)
theorem d8_0 : decode prog_59_method_3_code 0 = .ok (.aload_n 0, 1) := by decide +kernel
theorem d8_1 : decode prog_59_method_3_code 1 = .ok (.getfield 82, 3) := by decide +kernel
theorem d8_4 : decode prog_59_method_3_code 4 = .ok (.aload_n 0, 1) := by decide +kernel
theorem d8_5 : decode prog_59_method_3_code 5 = .ok (.getfield 49, 3) := by decide +kernel
theorem d8_8 : decode prog_59_method_3_code 8 = .ok (.arraylength, 1) := by decide +kernel
theorem d8_9 : decode prog_59_method_3_code 9 = .ok (.if_icmp .ne 120, 3) := by decide +kernel
theorem d8_129 : decode prog_59_method_3_code 129 = .ok (.aload_n 1, 1) := by decide +kernel
theorem d8_130 : decode prog_59_method_3_code 130 = .ok (.iconst 0, 1) := by decide +kernel
theorem d8_131 : decode prog_59_method_3_code 131 = .ok (.aload_n 0, 1) := by decide +kernel
theorem d8_132 : decode prog_59_method_3_code 132 = .ok (.getfield 45, 3) := by decide +kernel
theorem d8_135 : decode prog_59_method_3_code 135 = .ok (.aload_n 0, 1) := by decide +kernel
theorem d8_136 : decode prog_59_method_3_code 136 = .ok (.getfield 82, 3) := by decide +kernel
theorem d8_139 : decode prog_59_method_3_code 139 = .ok (.aload_n 0, 1) := by decide +kernel
theorem d8_140 : decode prog_59_method_3_code 140 = .ok (.getfield 7, 3) := by decide +kernel
theorem d8_143 : decode prog_59_method_3_code 143 = .ok (.imul, 1) := by decide +kernel
theorem d8_144 : decode prog_59_method_3_code 144 = .ok (.aload_n 0, 1) := by decide +kernel
theorem d8_145 : decode prog_59_method_3_code 145 = .ok (.getfield 7, 3) := by decide +kernel
theorem d8_148 : decode prog_59_method_3_code 148 = .ok (.invokestatic 100, 3) := by decide +kernel
theorem d8_151 : decode prog_59_method_3_code 151 = .ok (.aload_n 0, 1) := by decide +kernel
theorem d8_152 : decode prog_59_method_3_code 152 = .ok (.getfield 49, 3) := by decide +kernel
theorem d8_155 : decode prog_59_method_3_code 155 = .ok (.aload_n 0, 1) := by decide +kernel
theorem d8_156 : decode prog_59_method_3_code 156 = .ok (.getfield 82, 3) := by decide +kernel
theorem d8_159 : decode prog_59_method_3_code 159 = .ok (.dload_n 2, 1) := by decide +kernel
theorem d8_160 : decode prog_59_method_3_code 160 = .ok (.dastore, 1) := by decide +kernel
theorem d8_161 : decode prog_59_method_3_code 161 = .ok (.aload_n 0, 1) := by decide +kernel
theorem d8_162 : decode prog_59_method_3_code 162 = .ok (.getfield 53, 3) := by decide +kernel
theorem d8_165 : decode prog_59_method_3_code 165 = .ok (.aload_n 0, 1) := by decide +kernel
theorem d8_166 : decode prog_59_method_3_code 166 = .ok (.getfield 82, 3) := by decide +kernel
theorem d8_169 : decode prog_59_method_3_code 169 = .ok (.dload 4, 2) := by decide +kernel
theorem d8_171 : decode prog_59_method_3_code 171 = .ok (.dastore, 1) := by decide +kernel
theorem d8_172 : decode prog_59_method_3_code 172 = .ok (.aload_n 0, 1) := by decide +kernel
theorem d8_173 : decode prog_59_method_3_code 173 = .ok (.getfield 56, 3) := by decide +kernel
theorem d8_176 : decode prog_59_method_3_code 176 = .ok (.aload_n 0, 1) := by decide +kernel
theorem d8_177 : decode prog_59_method_3_code 177 = .ok (.getfield 82, 3) := by decide +kernel
theorem d8_180 : decode prog_59_method_3_code 180 = .ok (.iload 6, 2) := by decide +kernel
theorem d8_182 : decode prog_59_method_3_code 182 = .ok (.ifCond .ge 7, 3) := by decide +kernel
theorem d8_185 : decode prog_59_method_3_code 185 = .ok (.iconst 0, 1) := by decide +kernel
theorem d8_186 : decode prog_59_method_3_code 186 = .ok (.goto 12, 3) := by decide +kernel
theorem d8_198 : decode prog_59_method_3_code 198 = .ok (.iastore, 1) := by decide +kernel
theorem d8_199 : decode prog_59_method_3_code 199 = .ok (.aload_n 0, 1) := by decide +kernel
theorem d8_200 : decode prog_59_method_3_code 200 = .ok (.getfield 60, 3) := by decide +kernel
theorem d8_203 : decode prog_59_method_3_code 203 = .ok (.aload_n 0, 1) := by decide +kernel
theorem d8_204 : decode prog_59_method_3_code 204 = .ok (.getfield 82, 3) := by decide +kernel
theorem d8_207 : decode prog_59_method_3_code 207 = .ok (.iload 6, 2) := by decide +kernel
theorem d8_209 : decode prog_59_method_3_code 209 = .ok (.iastore, 1) := by decide +kernel
theorem d8_210 : decode prog_59_method_3_code 210 = .ok (.aload_n 0, 1) := by decide +kernel
theorem d8_211 : decode prog_59_method_3_code 211 = .ok (.getfield 63, 3) := by decide +kernel
theorem d8_214 : decode prog_59_method_3_code 214 = .ok (.aload_n 0, 1) := by decide +kernel
theorem d8_215 : decode prog_59_method_3_code 215 = .ok (.getfield 82, 3) := by decide +kernel
theorem d8_218 : decode prog_59_method_3_code 218 = .ok (.iload 7, 2) := by decide +kernel
theorem d8_220 : decode prog_59_method_3_code 220 = .ok (.iastore, 1) := by decide +kernel
theorem d8_221 : decode prog_59_method_3_code 221 = .ok (.aload_n 0, 1) := by decide +kernel
theorem d8_222 : decode prog_59_method_3_code 222 = .ok (.dup, 1) := by decide +kernel
theorem d8_223 : decode prog_59_method_3_code 223 = .ok (.getfield 82, 3) := by decide +kernel
theorem d8_226 : decode prog_59_method_3_code 226 = .ok (.dup_x1, 1) := by decide +kernel
theorem d8_227 : decode prog_59_method_3_code 227 = .ok (.iconst 1, 1) := by decide +kernel
theorem d8_228 : decode prog_59_method_3_code 228 = .ok (.iadd, 1) := by decide +kernel
theorem d8_229 : decode prog_59_method_3_code 229 = .ok (.putfield 82, 3) := by decide +kernel
theorem d8_232 : decode prog_59_method_3_code 232 = .ok (.ireturn, 1) := by decide +kernel
theorem sn0 {Z : State} {a0 : Array Value} (hw : ∀ d ∈ tables_1, d.before a0 Z = true) : Jvm.RoadKit.slotOf Z "com/example/trajectory/trajectory/search/Nodes" "width" "I" ≠ Jvm.RoadKit.slotOf Z "com/example/trajectory/trajectory/search/Nodes" "count" "I" := slot_ne (Or.inr (hwi hw 12 rfl)) (Or.inl (hwi hw 71 rfl)) (by decide) (t := .int) (t' := .int) (by decide) (by decide)
theorem sn1 {Z : State} {a0 : Array Value} (hw : ∀ d ∈ tables_1, d.before a0 Z = true) : Jvm.RoadKit.slotOf Z "com/example/trajectory/trajectory/search/Nodes" "lengthLimit" "J" ≠ Jvm.RoadKit.slotOf Z "com/example/trajectory/trajectory/search/Nodes" "count" "I" := slot_ne (Or.inr (hwi hw 14 rfl)) (Or.inl (hwi hw 71 rfl)) (by decide) (t := .long) (t' := .int) (by decide) (by decide)
theorem sn2 {Z : State} {a0 : Array Value} (hw : ∀ d ∈ tables_1, d.before a0 Z = true) : Jvm.RoadKit.slotOf Z "com/example/trajectory/trajectory/search/Nodes" "states" "[J" ≠ Jvm.RoadKit.slotOf Z "com/example/trajectory/trajectory/search/Nodes" "count" "I" := slot_ne (Or.inl (hwi hw 41 rfl)) (Or.inl (hwi hw 71 rfl)) (by decide) (t := (.array .long)) (t' := .int) (by decide) (by decide)
theorem sn3 {Z : State} {a0 : Array Value} (hw : ∀ d ∈ tables_1, d.before a0 Z = true) : Jvm.RoadKit.slotOf Z "com/example/trajectory/trajectory/search/Nodes" "costs" "[D" ≠ Jvm.RoadKit.slotOf Z "com/example/trajectory/trajectory/search/Nodes" "count" "I" := slot_ne (Or.inl (hwi hw 44 rfl)) (Or.inl (hwi hw 71 rfl)) (by decide) (t := (.array .double)) (t' := .int) (by decide) (by decide)
theorem sn4 {Z : State} {a0 : Array Value} (hw : ∀ d ∈ tables_1, d.before a0 Z = true) : Jvm.RoadKit.slotOf Z "com/example/trajectory/trajectory/search/Nodes" "stepCosts" "[D" ≠ Jvm.RoadKit.slotOf Z "com/example/trajectory/trajectory/search/Nodes" "count" "I" := slot_ne (Or.inl (hwi hw 46 rfl)) (Or.inl (hwi hw 71 rfl)) (by decide) (t := (.array .double)) (t' := .int) (by decide) (by decide)
theorem sn5 {Z : State} {a0 : Array Value} (hw : ∀ d ∈ tables_1, d.before a0 Z = true) : Jvm.RoadKit.slotOf Z "com/example/trajectory/trajectory/search/Nodes" "lengths" "[I" ≠ Jvm.RoadKit.slotOf Z "com/example/trajectory/trajectory/search/Nodes" "count" "I" := slot_ne (Or.inl (hwi hw 49 rfl)) (Or.inl (hwi hw 71 rfl)) (by decide) (t := (.array .int)) (t' := .int) (by decide) (by decide)
theorem sn6 {Z : State} {a0 : Array Value} (hw : ∀ d ∈ tables_1, d.before a0 Z = true) : Jvm.RoadKit.slotOf Z "com/example/trajectory/trajectory/search/Nodes" "parents" "[I" ≠ Jvm.RoadKit.slotOf Z "com/example/trajectory/trajectory/search/Nodes" "count" "I" := slot_ne (Or.inl (hwi hw 51 rfl)) (Or.inl (hwi hw 71 rfl)) (by decide) (t := (.array .int)) (t' := .int) (by decide) (by decide)
theorem sn7 {Z : State} {a0 : Array Value} (hw : ∀ d ∈ tables_1, d.before a0 Z = true) : Jvm.RoadKit.slotOf Z "com/example/trajectory/trajectory/search/Nodes" "steps" "[I" ≠ Jvm.RoadKit.slotOf Z "com/example/trajectory/trajectory/search/Nodes" "count" "I" := slot_ne (Or.inl (hwi hw 53 rfl)) (Or.inl (hwi hw 71 rfl)) (by decide) (t := (.array .int)) (t' := .int) (by decide) (by decide)
theorem sn8 {Z : State} {a0 : Array Value} (hw : ∀ d ∈ tables_1, d.before a0 Z = true) : Jvm.RoadKit.slotOf Z "com/example/trajectory/trajectory/search/Nodes" "superseded" "[Z" ≠ Jvm.RoadKit.slotOf Z "com/example/trajectory/trajectory/search/Nodes" "count" "I" := slot_ne (Or.inl (hwi hw 56 rfl)) (Or.inl (hwi hw 71 rfl)) (by decide) (t := (.array .boolean)) (t' := .int) (by decide) (by decide)
theorem sn9 {Z : State} {a0 : Array Value} (hw : ∀ d ∈ tables_1, d.before a0 Z = true) : Jvm.RoadKit.slotOf Z "com/example/trajectory/trajectory/search/Nodes" "nextKept" "[I" ≠ Jvm.RoadKit.slotOf Z "com/example/trajectory/trajectory/search/Nodes" "count" "I" := slot_ne (Or.inl (hwi hw 58 rfl)) (Or.inl (hwi hw 71 rfl)) (by decide) (t := (.array .int)) (t' := .int) (by decide) (by decide)
theorem sn10 {Z : State} {a0 : Array Value} (hw : ∀ d ∈ tables_1, d.before a0 Z = true) : Jvm.RoadKit.slotOf Z "com/example/trajectory/trajectory/search/Nodes" "table" "[I" ≠ Jvm.RoadKit.slotOf Z "com/example/trajectory/trajectory/search/Nodes" "count" "I" := slot_ne (Or.inl (hwi hw 60 rfl)) (Or.inl (hwi hw 71 rfl)) (by decide) (t := (.array .int)) (t' := .int) (by decide) (by decide)
theorem sn11 {Z : State} {a0 : Array Value} (hw : ∀ d ∈ tables_1, d.before a0 Z = true) : Jvm.RoadKit.slotOf Z "com/example/trajectory/trajectory/search/Nodes" "frontierCosts" "[D" ≠ Jvm.RoadKit.slotOf Z "com/example/trajectory/trajectory/search/Nodes" "count" "I" := slot_ne (Or.inl (hwi hw 62 rfl)) (Or.inl (hwi hw 71 rfl)) (by decide) (t := (.array .double)) (t' := .int) (by decide) (by decide)
theorem sn12 {Z : State} {a0 : Array Value} (hw : ∀ d ∈ tables_1, d.before a0 Z = true) : Jvm.RoadKit.slotOf Z "com/example/trajectory/trajectory/search/Nodes" "frontierRanks" "[J" ≠ Jvm.RoadKit.slotOf Z "com/example/trajectory/trajectory/search/Nodes" "count" "I" := slot_ne (Or.inl (hwi hw 64 rfl)) (Or.inl (hwi hw 71 rfl)) (by decide) (t := (.array .long)) (t' := .int) (by decide) (by decide)
theorem sn13 {Z : State} {a0 : Array Value} (hw : ∀ d ∈ tables_1, d.before a0 Z = true) : Jvm.RoadKit.slotOf Z "com/example/trajectory/trajectory/search/Nodes" "waiting" "I" ≠ Jvm.RoadKit.slotOf Z "com/example/trajectory/trajectory/search/Nodes" "count" "I" := slot_ne (Or.inl (hwi hw 89 rfl)) (Or.inl (hwi hw 71 rfl)) (by decide) (t := .int) (t' := .int) (by decide) (by decide)
theorem sn14 {Z : State} {a0 : Array Value} (hw : ∀ d ∈ tables_1, d.before a0 Z = true) : Jvm.RoadKit.slotOf Z "com/example/trajectory/trajectory/search/Nodes" "waitingWithin" "J" ≠ Jvm.RoadKit.slotOf Z "com/example/trajectory/trajectory/search/Nodes" "count" "I" := slot_ne (Or.inl (hwi hw 82 rfl)) (Or.inl (hwi hw 71 rfl)) (by decide) (t := .long) (t' := .int) (by decide) (by decide)
theorem sn15 {Z : State} {a0 : Array Value} (hw : ∀ d ∈ tables_1, d.before a0 Z = true) : Jvm.RoadKit.slotOf Z "com/example/trajectory/trajectory/search/Nodes" "held" "I" ≠ Jvm.RoadKit.slotOf Z "com/example/trajectory/trajectory/search/Nodes" "count" "I" := slot_ne (Or.inl (hwi hw 119 rfl)) (Or.inl (hwi hw 71 rfl)) (by decide) (t := .int) (t' := .int) (by decide) (by decide)
theorem ef_aN (m : MethodId) (x0 : Addr) (x1 : Addr) (x2 : UInt64) (x3 : UInt64) (x4 : Int32) (x5 : Int32) : entryFrame m #[(.ref x0), (.ref x1), (.double x2), (.double x3), (.int x4), (.int x5)] 9 = mkF m 0 #[.val (.ref x0), .val (.ref x1), .val (.double x2), .second, .val (.double x3), .second, .val (.int x4), .val (.int x5), .unset] [] := by first | (simp [entryFrame, mkF, argsToLocals, Value.category]; done) | rfl
def QaN (Z : State) (a : Addr) (st_ : Addr) (dc_ : UInt64) (ds_ : UInt64) (pp_ : Int32) (ps_ : Int32) (c_ : Int32) (ll_ : Int64) (i_ : Nat) (bs_ : Addr) (bc_ : Addr) (bt_ : Addr) (bl_ : Addr) (bp_ : Addr) (bu_ : Addr) (bz_ : Addr) (bk_ : Addr) (bT_ : Addr) (bf_ : Addr) (br_ : Addr) (ks_ : ClassId) (kc_ : ClassId) (kt_ : ClassId) (kl_ : ClassId) (kp_ : ClassId) (ku_ : ClassId) (vbs_ : List Value) (vbc_ : List Value) (vbt_ : List Value) (vbl_ : List Value) (vbp_ : List Value) (vbu_ : List Value) (q_ : ClassId) (vq_ : List Value) (h0 : Heap) (n0 : Nat) (v : Option Value) (h : Heap) (L : List Loc) : Prop := ∃ wbs_ : List Value, ∃ wbt_ : List Value, ∃ wbp_ : List Value, ∃ wbu_ : List Value, v = some (.int c_) ∧ Fr n0 L ∧ Keep h0 h [a, bs_, bc_, bt_, bl_, bp_, bu_] ∧ Exa Z h a "com/example/trajectory/trajectory/search/Nodes" ∧ Fld Z h a "com/example/trajectory/trajectory/search/Nodes" "width" "I" (.int (1 : Int32)) ∧ Fld Z h a "com/example/trajectory/trajectory/search/Nodes" "lengthLimit" "J" (.long ll_) ∧ Fld Z h a "com/example/trajectory/trajectory/search/Nodes" "count" "I" (.int (c_ + (1 : Int32))) ∧ Fld Z h a "com/example/trajectory/trajectory/search/Nodes" "states" "[J" (.ref bs_) ∧ Fld Z h a "com/example/trajectory/trajectory/search/Nodes" "costs" "[D" (.ref bc_) ∧ Fld Z h a "com/example/trajectory/trajectory/search/Nodes" "stepCosts" "[D" (.ref bt_) ∧ Fld Z h a "com/example/trajectory/trajectory/search/Nodes" "lengths" "[I" (.ref bl_) ∧ Fld Z h a "com/example/trajectory/trajectory/search/Nodes" "parents" "[I" (.ref bp_) ∧ Fld Z h a "com/example/trajectory/trajectory/search/Nodes" "steps" "[I" (.ref bu_) ∧ Fld Z h a "com/example/trajectory/trajectory/search/Nodes" "superseded" "[Z" (.ref bz_) ∧ Fld Z h a "com/example/trajectory/trajectory/search/Nodes" "nextKept" "[I" (.ref bk_) ∧ Fld Z h a "com/example/trajectory/trajectory/search/Nodes" "table" "[I" (.ref bT_) ∧ Fld Z h a "com/example/trajectory/trajectory/search/Nodes" "frontierCosts" "[D" (.ref bf_) ∧ Fld Z h a "com/example/trajectory/trajectory/search/Nodes" "frontierRanks" "[J" (.ref br_) ∧ Fld Z h a "com/example/trajectory/trajectory/search/Nodes" "waiting" "I" (.int (0 : Int32)) ∧ Fld Z h a "com/example/trajectory/trajectory/search/Nodes" "waitingWithin" "J" (.long (0 : Int64)) ∧ Fld Z h a "com/example/trajectory/trajectory/search/Nodes" "held" "I" (.int (0 : Int32)) ∧ Arv Z h bs_ ks_ .long (64 : Int32) wbs_ (.long (0 : Int64)) ∧ Arv Z h bc_ kc_ .double (64 : Int32) (vbc_.set i_ (.double dc_)) (.double (0 : UInt64)) ∧ Arv Z h bt_ kt_ .double (64 : Int32) wbt_ (.double (0 : UInt64)) ∧ Arv Z h bl_ kl_ .int (64 : Int32) (vbl_.set i_ (.int (0 : Int32))) (.int (0 : Int32)) ∧ Arv Z h bp_ kp_ .int (64 : Int32) wbp_ (.int (0 : Int32)) ∧ Arv Z h bu_ ku_ .int (64 : Int32) wbu_ (.int (0 : Int32)) ∧ wbs_.length = 4 ∧ wbt_.length = 4 ∧ wbp_.length = 4 ∧ wbu_.length = 4
set_option maxRecDepth 65536 in
set_option maxHeartbeats 40000000 in
theorem rmaN (l : Launch) (Z : State) (a0 : Array Value) (hw : ∀ d ∈ tables_1, d.before a0 Z = true) (ws : List Jvm.Cond) (a : Addr) (st_ : Addr) (dc_ : UInt64) (ds_ : UInt64) (pp_ : Int32) (ps_ : Int32) (c_ : Int32) (ll_ : Int64) (i_ : Nat) (bs_ : Addr) (bc_ : Addr) (bt_ : Addr) (bl_ : Addr) (bp_ : Addr) (bu_ : Addr) (bz_ : Addr) (bk_ : Addr) (bT_ : Addr) (bf_ : Addr) (br_ : Addr) (ks_ : ClassId) (kc_ : ClassId) (kt_ : ClassId) (kl_ : ClassId) (kp_ : ClassId) (ku_ : ClassId) (vbs_ : List Value) (vbc_ : List Value) (vbt_ : List Value) (vbl_ : List Value) (vbp_ : List Value) (vbu_ : List Value) (q_ : ClassId) (vq_ : List Value) (h0 : Heap) (n0 : Nat) (Z0 : n0 ≤ h0.size) (E_a : Exa Z h0 a "com/example/trajectory/trajectory/search/Nodes") (F_width_a : Fld Z h0 a "com/example/trajectory/trajectory/search/Nodes" "width" "I" (.int (1 : Int32))) (F_lengthLimit_a : Fld Z h0 a "com/example/trajectory/trajectory/search/Nodes" "lengthLimit" "J" (.long ll_)) (F_count_a : Fld Z h0 a "com/example/trajectory/trajectory/search/Nodes" "count" "I" (.int c_)) (F_states_a : Fld Z h0 a "com/example/trajectory/trajectory/search/Nodes" "states" "[J" (.ref bs_)) (F_costs_a : Fld Z h0 a "com/example/trajectory/trajectory/search/Nodes" "costs" "[D" (.ref bc_)) (F_stepCosts_a : Fld Z h0 a "com/example/trajectory/trajectory/search/Nodes" "stepCosts" "[D" (.ref bt_)) (F_lengths_a : Fld Z h0 a "com/example/trajectory/trajectory/search/Nodes" "lengths" "[I" (.ref bl_)) (F_parents_a : Fld Z h0 a "com/example/trajectory/trajectory/search/Nodes" "parents" "[I" (.ref bp_)) (F_steps_a : Fld Z h0 a "com/example/trajectory/trajectory/search/Nodes" "steps" "[I" (.ref bu_)) (F_superseded_a : Fld Z h0 a "com/example/trajectory/trajectory/search/Nodes" "superseded" "[Z" (.ref bz_)) (F_nextKept_a : Fld Z h0 a "com/example/trajectory/trajectory/search/Nodes" "nextKept" "[I" (.ref bk_)) (F_table_a : Fld Z h0 a "com/example/trajectory/trajectory/search/Nodes" "table" "[I" (.ref bT_)) (F_frontierCosts_a : Fld Z h0 a "com/example/trajectory/trajectory/search/Nodes" "frontierCosts" "[D" (.ref bf_)) (F_frontierRanks_a : Fld Z h0 a "com/example/trajectory/trajectory/search/Nodes" "frontierRanks" "[J" (.ref br_)) (F_waiting_a : Fld Z h0 a "com/example/trajectory/trajectory/search/Nodes" "waiting" "I" (.int (0 : Int32))) (F_waitingWithin_a : Fld Z h0 a "com/example/trajectory/trajectory/search/Nodes" "waitingWithin" "J" (.long (0 : Int64))) (F_held_a : Fld Z h0 a "com/example/trajectory/trajectory/search/Nodes" "held" "I" (.int (0 : Int32))) (V_bs_ : Arv Z h0 bs_ ks_ .long (64 : Int32) vbs_ (.long (0 : Int64))) (V_bc_ : Arv Z h0 bc_ kc_ .double (64 : Int32) vbc_ (.double (0 : UInt64))) (V_bt_ : Arv Z h0 bt_ kt_ .double (64 : Int32) vbt_ (.double (0 : UInt64))) (V_bl_ : Arv Z h0 bl_ kl_ .int (64 : Int32) vbl_ (.int (0 : Int32))) (V_bp_ : Arv Z h0 bp_ kp_ .int (64 : Int32) vbp_ (.int (0 : Int32))) (V_bu_ : Arv Z h0 bu_ ku_ .int (64 : Int32) vbu_ (.int (0 : Int32))) (V_st_ : Arv Z h0 st_ q_ .long (1 : Int32) vq_ (.long (0 : Int64))) (g_a : n0 ≤ a) (g_bs_ : n0 ≤ bs_) (g_bc_ : n0 ≤ bc_) (g_bt_ : n0 ≤ bt_) (g_bl_ : n0 ≤ bl_) (g_bp_ : n0 ≤ bp_) (g_bu_ : n0 ≤ bu_) (ne_bs__bc_ : bs_ ≠ bc_) (ne_bs__bt_ : bs_ ≠ bt_) (ne_bs__bl_ : bs_ ≠ bl_) (ne_bs__bp_ : bs_ ≠ bp_) (ne_bs__bu_ : bs_ ≠ bu_) (ne_bc__bt_ : bc_ ≠ bt_) (ne_bc__bl_ : bc_ ≠ bl_) (ne_bc__bp_ : bc_ ≠ bp_) (ne_bc__bu_ : bc_ ≠ bu_) (ne_bt__bl_ : bt_ ≠ bl_) (ne_bt__bp_ : bt_ ≠ bp_) (ne_bt__bu_ : bt_ ≠ bu_) (ne_bl__bp_ : bl_ ≠ bp_) (ne_bl__bu_ : bl_ ≠ bu_) (ne_bp__bu_ : bp_ ≠ bu_) (ne_a_bs_ : a ≠ bs_) (ne_a_bc_ : a ≠ bc_) (ne_a_bt_ : a ≠ bt_) (ne_a_bl_ : a ≠ bl_) (ne_a_bp_ : a ≠ bp_) (ne_a_bu_ : a ≠ bu_) (ne_st__bs_ : st_ ≠ bs_) (ne_st__bc_ : st_ ≠ bc_) (ne_st__bt_ : st_ ≠ bt_) (ne_st__bl_ : st_ ≠ bl_) (ne_st__bp_ : st_ ≠ bp_) (ne_st__bu_ : st_ ≠ bu_) (ne_st__a : st_ ≠ a) (hp60 : c_.toInt = (i_ : Int)) (hp61 : i_ < 4) (hp62 : vbs_.length = 4) (hp63 : vbc_.length = 4) (hp64 : vbt_.length = 4) (hp65 : vbl_.length = 4) (hp66 : vbp_.length = 4) (hp67 : vbu_.length = 4) (hp68 : pp_ < (0 : Int32)) :
    MetFree l (⟨"com/example/trajectory/trajectory/search/Nodes", "add", "([JDDII)I"⟩ : MethodName) (head1 (Jvm.Cond.code (⟨"com/example/trajectory/trajectory/search/Nodes", "add", "([JDDII)I"⟩ : MethodName) prog_59_method_3_code 9 (some .int) :: ws) ({ frames := 1, cells := 0, slots := 0, locals := 18 } : Room)) (fun q_ U => q_ = #[(.ref a), (.ref st_), (.double dc_), (.double ds_), (.int pp_), (.int ps_)] ∧ Z.Warmed39 U.vm ∧ U.heap = h0) (fun _ _ _ _ _ => True) (fun _ U o U' => ∃ v L, o = .returned v ∧ QaN Z a st_ dc_ ds_ pp_ ps_ c_ ll_ i_ bs_ bc_ bt_ bl_ bp_ bu_ bz_ bk_ bT_ bf_ br_ ks_ kc_ kt_ kl_ kp_ ku_ vbs_ vbc_ vbt_ vbl_ vbp_ vbu_ q_ vq_ h0 n0 v U'.heap L ∧ FrameEnd U o U' L ({ frames := 1, cells := 0, slots := 0, locals := 18 } : Room).cells ({ frames := 1, cells := 0, slots := 0, locals := 18 } : Room).slots) := by
  refine MetFree.of_bodySF (plainFor_of_name pn_1) hisR ?_
  intro p e s m args below meth c s₁ Bd hml0 hP hK
  obtain ⟨rfl, hZ, hh⟩ := hP
  have hx := Bd.exec
  have hby := Bd.bytes
  have hml : c.maxLocals = 9 := hml0
  have hown : s.vm.findClass "com/example/trajectory/trajectory/search/Nodes" = some m.cls := findClass_of_methodNamed Bd.named
  have hnm := (name_of_methodNamed Bd.named Bd.method).1
  have X0 : Stand p l e ({ frames := 1, cells := 0, slots := 0, locals := 18 } : Room) s m #[(.ref a), (.ref st_), (.double dc_), (.double ds_), (.int pp_), (.int ps_)] below meth c s₁ [] 0 0 := Stand.of_body Bd
  have e0 : s₁.heap = h0 := by rw [← hh, Bd.state]; rfl
  have N0 := Fr.nil n0
  show own_Go p e below s (QaN Z a st_ dc_ ds_ pp_ ps_ c_ ll_ i_ bs_ bc_ bt_ bl_ bp_ bu_ bz_ bk_ bT_ bf_ br_ ks_ kc_ kt_ kl_ kp_ ku_ vbs_ vbc_ vbt_ vbl_ vbp_ vbu_ q_ vq_ h0 n0) ({ frames := 1, cells := 0, slots := 0, locals := 18 } : Room).cells ({ frames := 1, cells := 0, slots := 0, locals := 18 } : Room).slots (s₁.setTop (entryFrame m #[(.ref a), (.ref st_), (.double dc_), (.double ds_), (.int pp_), (.int ps_)] 9))
  refine own_via (fun t k => castTop (ef_aN m a st_ dc_ ds_ pp_ ps_) k) ?_
  have K0 : Keep h0 h0 [a, bs_, bc_, bt_, bl_, bp_, bu_] := Keep.refl _ _
  show own_Go p e below s _ _ _ (s₁.setTop (mkF m 0 #[lR a, lR st_, lD dc_, lS, lD ds_, lS, lI pp_, lI ps_, lU] []))
  refine own_via (fun _ k => XS.aloadN X0.here hx rfl (hb hby d8_0) rfl rfl k) ?_
  show own_Go p e below s _ _ _ (s₁.setTop (mkF m 1 #[lR a, lR st_, lD dc_, lS, lD ds_, lS, lI pp_, lI ps_, lU] [(.ref a)]))
  obtain ⟨T1, X1, e1, st1⟩ := getF X0 hx hZ hown (host := "") (Or.inl (hwi hw 70 rfl)) Via.refl e0 F_count_a (g := (mkF m 1 #[lR a, lR st_, lD dc_, lS, lD ds_, lS, lI pp_, lI ps_, lU] [(.ref a)])) rfl rfl (hb hby d8_1)
  refine own_via st1 ?_
  show own_Go p e below s _ _ _ (T1.setTop (mkF m 4 #[lR a, lR st_, lD dc_, lS, lD ds_, lS, lI pp_, lI ps_, lU] [(.int c_)]))
  refine own_via (fun _ k => XS.aloadN X1.here hx rfl (hb hby d8_4) rfl rfl k) ?_
  show own_Go p e below s _ _ _ (T1.setTop (mkF m 5 #[lR a, lR st_, lD dc_, lS, lD ds_, lS, lI pp_, lI ps_, lU] [(.ref a), (.int c_)]))
  obtain ⟨T2, X2, e2, st2⟩ := getF X1 hx hZ hown (host := "") (Or.inl (hwi hw 43 rfl)) Via.refl e1 F_costs_a (g := (mkF m 5 #[lR a, lR st_, lD dc_, lS, lD ds_, lS, lI pp_, lI ps_, lU] [(.ref a), (.int c_)])) rfl rfl (hb hby d8_5)
  refine own_via st2 ?_
  show own_Go p e below s _ _ _ (T2.setTop (mkF m 8 #[lR a, lR st_, lD dc_, lS, lD ds_, lS, lI pp_, lI ps_, lU] [(.ref bc_), (.int c_)]))
  obtain ⟨cl3, Ar3, q3, S3, M3, H3, G3⟩ := (id V_bc_)
  refine own_via (fun _ k => X2.arraylength hx (by rw [e2]; exact Ar3.1) (State.isArrayOf_alike hZ.alike Ar3.2.1) (g := (mkF m 8 #[lR a, lR st_, lD dc_, lS, lD ds_, lS, lI pp_, lI ps_, lU] [(.ref bc_), (.int c_)])) rfl rfl (hb hby d8_8) _ (by rw [len_of S3 M3]; exact k)) ?_
  show own_Go p e below s _ _ _ (T2.setTop (mkF m 9 #[lR a, lR st_, lD dc_, lS, lD ds_, lS, lI pp_, lI ps_, lU] [(.int (64 : Int32)), (.int c_)]))
  have hc4 : ¬ (c_ = (64 : Int32)) := own_ne64 hp60 hp61
  refine own_via (fun _ k => XS.icmpYes X2.here hx rfl (pc0 := 9) (pc' := 129) rfl (hb hby d8_9) rfl (Jvm.Free.XT.ii_ne_t hc4) (by decide) (by decide) k) ?_
  show own_Go p e below s _ _ _ (T2.setTop (mkF m 129 #[lR a, lR st_, lD dc_, lS, lD ds_, lS, lI pp_, lI ps_, lU] []))
  refine own_via (fun _ k => XS.aloadN X2.here hx rfl (hb hby d8_129) rfl rfl k) ?_
  show own_Go p e below s _ _ _ (T2.setTop (mkF m 130 #[lR a, lR st_, lD dc_, lS, lD ds_, lS, lI pp_, lI ps_, lU] [(.ref st_)]))
  refine own_via (fun _ k => XS.iconst X2.here hx rfl (hb hby d8_130) k) ?_
  show own_Go p e below s _ _ _ (T2.setTop (mkF m 131 #[lR a, lR st_, lD dc_, lS, lD ds_, lS, lI pp_, lI ps_, lU] [(.int (0 : Int32)), (.ref st_)]))
  refine own_via (fun _ k => XS.aloadN X2.here hx rfl (hb hby d8_131) rfl rfl k) ?_
  show own_Go p e below s _ _ _ (T2.setTop (mkF m 132 #[lR a, lR st_, lD dc_, lS, lD ds_, lS, lI pp_, lI ps_, lU] [(.ref a), (.int (0 : Int32)), (.ref st_)]))
  obtain ⟨T5, X5, e5, st5⟩ := getF X2 hx hZ hown (host := "") (Or.inl (hwi hw 40 rfl)) Via.refl e2 F_states_a (g := (mkF m 132 #[lR a, lR st_, lD dc_, lS, lD ds_, lS, lI pp_, lI ps_, lU] [(.ref a), (.int (0 : Int32)), (.ref st_)])) rfl rfl (hb hby d8_132)
  refine own_via st5 ?_
  show own_Go p e below s _ _ _ (T5.setTop (mkF m 135 #[lR a, lR st_, lD dc_, lS, lD ds_, lS, lI pp_, lI ps_, lU] [(.ref bs_), (.int (0 : Int32)), (.ref st_)]))
  refine own_via (fun _ k => XS.aloadN X5.here hx rfl (hb hby d8_135) rfl rfl k) ?_
  show own_Go p e below s _ _ _ (T5.setTop (mkF m 136 #[lR a, lR st_, lD dc_, lS, lD ds_, lS, lI pp_, lI ps_, lU] [(.ref a), (.ref bs_), (.int (0 : Int32)), (.ref st_)]))
  obtain ⟨T6, X6, e6, st6⟩ := getF X5 hx hZ hown (host := "") (Or.inl (hwi hw 70 rfl)) Via.refl e5 F_count_a (g := (mkF m 136 #[lR a, lR st_, lD dc_, lS, lD ds_, lS, lI pp_, lI ps_, lU] [(.ref a), (.ref bs_), (.int (0 : Int32)), (.ref st_)])) rfl rfl (hb hby d8_136)
  refine own_via st6 ?_
  show own_Go p e below s _ _ _ (T6.setTop (mkF m 139 #[lR a, lR st_, lD dc_, lS, lD ds_, lS, lI pp_, lI ps_, lU] [(.int c_), (.ref bs_), (.int (0 : Int32)), (.ref st_)]))
  refine own_via (fun _ k => XS.aloadN X6.here hx rfl (hb hby d8_139) rfl rfl k) ?_
  show own_Go p e below s _ _ _ (T6.setTop (mkF m 140 #[lR a, lR st_, lD dc_, lS, lD ds_, lS, lI pp_, lI ps_, lU] [(.ref a), (.int c_), (.ref bs_), (.int (0 : Int32)), (.ref st_)]))
  obtain ⟨T7, X7, e7, st7⟩ := getF X6 hx hZ hown (host := "") (Or.inl (hwi hw 11 rfl)) Via.refl e6 F_width_a (g := (mkF m 140 #[lR a, lR st_, lD dc_, lS, lD ds_, lS, lI pp_, lI ps_, lU] [(.ref a), (.int c_), (.ref bs_), (.int (0 : Int32)), (.ref st_)])) rfl rfl (hb hby d8_140)
  refine own_via st7 ?_
  show own_Go p e below s _ _ _ (T7.setTop (mkF m 143 #[lR a, lR st_, lD dc_, lS, lD ds_, lS, lI pp_, lI ps_, lU] [(.int (1 : Int32)), (.int c_), (.ref bs_), (.int (0 : Int32)), (.ref st_)]))
  refine own_via (fun _ k => XS.imul X7.here hx rfl (hb hby d8_143) rfl k) ?_
  show own_Go p e below s _ _ _ (T7.setTop (mkF m 144 #[lR a, lR st_, lD dc_, lS, lD ds_, lS, lI pp_, lI ps_, lU] [(.int (c_ * (1 : Int32))), (.ref bs_), (.int (0 : Int32)), (.ref st_)]))
  rw [show (c_ * (1 : Int32)) = c_ from (Int32.mul_one c_)]
  show own_Go p e below s _ _ _ (T7.setTop (mkF m 144 #[lR a, lR st_, lD dc_, lS, lD ds_, lS, lI pp_, lI ps_, lU] [(.int c_), (.ref bs_), (.int (0 : Int32)), (.ref st_)]))
  refine own_via (fun _ k => XS.aloadN X7.here hx rfl (hb hby d8_144) rfl rfl k) ?_
  show own_Go p e below s _ _ _ (T7.setTop (mkF m 145 #[lR a, lR st_, lD dc_, lS, lD ds_, lS, lI pp_, lI ps_, lU] [(.ref a), (.int c_), (.ref bs_), (.int (0 : Int32)), (.ref st_)]))
  obtain ⟨T8, X8, e8, st8⟩ := getF X7 hx hZ hown (host := "") (Or.inl (hwi hw 11 rfl)) Via.refl e7 F_width_a (g := (mkF m 145 #[lR a, lR st_, lD dc_, lS, lD ds_, lS, lI pp_, lI ps_, lU] [(.ref a), (.int c_), (.ref bs_), (.int (0 : Int32)), (.ref st_)])) rfl rfl (hb hby d8_145)
  refine own_via st8 ?_
  show own_Go p e below s _ _ _ (T8.setTop (mkF m 148 #[lR a, lR st_, lD dc_, lS, lD ds_, lS, lI pp_, lI ps_, lU] [(.int (1 : Int32)), (.int c_), (.ref bs_), (.int (0 : Int32)), (.ref st_)]))
  obtain ⟨T9, h9, L9, X9, e9, N9, Kq9, V9, st9⟩ := cpA X8 hx hZ hown (hwi hw 72 rfl) (hwi hw 75 rfl) (hwi hw 73 rfl) (hwi hw 74 rfl) e8 V_st_ V_bs_ (Or.inl ⟨rfl, rfl⟩) (sp := (0 : Int32)) (dp := c_) (nn := (1 : Int32)) (us := [vq_.getD 0 (.long (0 : Int64))]) (by decide) (own_nn hp60).1 (by decide) (by decide) (by rw [(own_nn hp60).2]; show i_ + 1 ≤ 64; have := hp61; omega) rfl (by rw [(own_nn hp60).2, hp62]; show i_ + 1 ≤ 4; have := hp61; omega) N0 g_bs_ (g := (mkF m 148 #[lR a, lR st_, lD dc_, lS, lD ds_, lS, lI pp_, lI ps_, lU] [(.int (1 : Int32)), (.int c_), (.ref bs_), (.int (0 : Int32)), (.ref st_)])) rfl (by rw [hml]; rfl) rfl (hb hby d8_148) (by decide) (W := 0) (by show 2 * 0 + _ ≤ _; exact Nat.le_of_eq rfl) (by decide)
  have Z9 : n0 ≤ h9.size := Nat.le_trans Z0 Kq9.1
  have K9 : Keep h0 h9 [a, bs_, bc_, bt_, bl_, bp_, bu_] := K0.trans Kq9 (allS (Or.inl (List.mem_of_getElem? (i := 1) rfl)) all0)
  generalize hvn9 : (vbs_.take (c_).toNatClampNeg ++ [vq_.getD 0 (.long (0 : Int64))] ++ vbs_.drop ((c_).toNatClampNeg + ((1 : Int32)).toNatClampNeg)) = vn9 at V9
  refine own_via st9 ?_
  show own_Go p e below s _ _ _ (T9.setTop (mkF m 151 #[lR a, lR st_, lD dc_, lS, lD ds_, lS, lI pp_, lI ps_, lU] []))
  refine own_via (fun _ k => XS.aloadN X9.here hx rfl (hb hby d8_151) rfl rfl k) ?_
  show own_Go p e below s _ _ _ (T9.setTop (mkF m 152 #[lR a, lR st_, lD dc_, lS, lD ds_, lS, lI pp_, lI ps_, lU] [(.ref a)]))
  have F10 := (F_costs_a.keep Kq9 (ninS ne_a_bs_ nin0))
  obtain ⟨T11, X11, e11, st11⟩ := getF X9 hx hZ hown (host := "") (Or.inl (hwi hw 43 rfl)) Via.refl e9 F10 (g := (mkF m 152 #[lR a, lR st_, lD dc_, lS, lD ds_, lS, lI pp_, lI ps_, lU] [(.ref a)])) rfl rfl (hb hby d8_152)
  refine own_via st11 ?_
  show own_Go p e below s _ _ _ (T11.setTop (mkF m 155 #[lR a, lR st_, lD dc_, lS, lD ds_, lS, lI pp_, lI ps_, lU] [(.ref bc_)]))
  refine own_via (fun _ k => XS.aloadN X11.here hx rfl (hb hby d8_155) rfl rfl k) ?_
  show own_Go p e below s _ _ _ (T11.setTop (mkF m 156 #[lR a, lR st_, lD dc_, lS, lD ds_, lS, lI pp_, lI ps_, lU] [(.ref a), (.ref bc_)]))
  have F12 := (F_count_a.keep Kq9 (ninS ne_a_bs_ nin0))
  obtain ⟨T13, X13, e13, st13⟩ := getF X11 hx hZ hown (host := "") (Or.inl (hwi hw 70 rfl)) Via.refl e11 F12 (g := (mkF m 156 #[lR a, lR st_, lD dc_, lS, lD ds_, lS, lI pp_, lI ps_, lU] [(.ref a), (.ref bc_)])) rfl rfl (hb hby d8_156)
  refine own_via st13 ?_
  show own_Go p e below s _ _ _ (T13.setTop (mkF m 159 #[lR a, lR st_, lD dc_, lS, lD ds_, lS, lI pp_, lI ps_, lU] [(.int c_), (.ref bc_)]))
  refine own_via (fun _ k => XS.dloadN X13.here hx rfl (hb hby d8_159) rfl k) ?_
  show own_Go p e below s _ _ _ (T13.setTop (mkF m 160 #[lR a, lR st_, lD dc_, lS, lD ds_, lS, lI pp_, lI ps_, lU] [(.double dc_), (.int c_), (.ref bc_)]))
  have F15 := (V_bc_.keep Kq9 (ninS (Ne.symm ne_bs__bc_) nin0))
  obtain ⟨cl14, Ar14, q14, S14, M14, H14, G14⟩ := (id F15)
  have hin14 : ¬ (c_ < 0 ∨ cl14.slots.size ≤ (c_).toNatClampNeg) := inb_of S14 ⟨(own_nn hp60).1, own_lt64 hp60 hp61⟩
  obtain ⟨T14, h14, X14, e14, W14, st14⟩ := stD X13 hx hZ e13 Ar14 (j := c_) hin14 (g := (mkF m 160 #[lR a, lR st_, lD dc_, lS, lD ds_, lS, lI pp_, lI ps_, lU] [(.double dc_), (.int c_), (.ref bc_)])) rfl rfl (hb hby d8_160)
  have V14 : Arv Z h14 bc_ kc_ .double (64 : Int32) (vbc_.set i_ (.double dc_)) (.double (0 : UInt64)) := Arv.set Ar14 q14 S14 M14 H14 G14 rfl W14 i_ (own_nn hp60).2 (by rw [hp63]; exact hp61)
  have N14 := Fr.snoc X14 N9 g_bc_
  have Z14 : n0 ≤ h14.size := Nat.le_trans Z9 (Keep.of_wr W14).1
  have K14 : Keep h0 h14 [a, bs_, bc_, bt_, bl_, bp_, bu_] := K9.wr W14 (Or.inl (List.mem_of_getElem? (i := 2) rfl))
  refine own_via st14 ?_
  show own_Go p e below s _ _ _ (T14.setTop (mkF m 161 #[lR a, lR st_, lD dc_, lS, lD ds_, lS, lI pp_, lI ps_, lU] []))
  refine own_via (fun _ k => XS.aloadN X14.here hx rfl (hb hby d8_161) rfl rfl k) ?_
  show own_Go p e below s _ _ _ (T14.setTop (mkF m 162 #[lR a, lR st_, lD dc_, lS, lD ds_, lS, lI pp_, lI ps_, lU] [(.ref a)]))
  have F16 := ((F_stepCosts_a.keep Kq9 (ninS ne_a_bs_ nin0)).other W14 (Or.inl ne_a_bc_))
  obtain ⟨T17, X17, e17, st17⟩ := getF X14 hx hZ hown (host := "") (Or.inl (hwi hw 45 rfl)) Via.refl e14 F16 (g := (mkF m 162 #[lR a, lR st_, lD dc_, lS, lD ds_, lS, lI pp_, lI ps_, lU] [(.ref a)])) rfl rfl (hb hby d8_162)
  refine own_via st17 ?_
  show own_Go p e below s _ _ _ (T17.setTop (mkF m 165 #[lR a, lR st_, lD dc_, lS, lD ds_, lS, lI pp_, lI ps_, lU] [(.ref bt_)]))
  refine own_via (fun _ k => XS.aloadN X17.here hx rfl (hb hby d8_165) rfl rfl k) ?_
  show own_Go p e below s _ _ _ (T17.setTop (mkF m 166 #[lR a, lR st_, lD dc_, lS, lD ds_, lS, lI pp_, lI ps_, lU] [(.ref a), (.ref bt_)]))
  have F18 := (F12.other W14 (Or.inl ne_a_bc_))
  obtain ⟨T19, X19, e19, st19⟩ := getF X17 hx hZ hown (host := "") (Or.inl (hwi hw 70 rfl)) Via.refl e17 F18 (g := (mkF m 166 #[lR a, lR st_, lD dc_, lS, lD ds_, lS, lI pp_, lI ps_, lU] [(.ref a), (.ref bt_)])) rfl rfl (hb hby d8_166)
  refine own_via st19 ?_
  show own_Go p e below s _ _ _ (T19.setTop (mkF m 169 #[lR a, lR st_, lD dc_, lS, lD ds_, lS, lI pp_, lI ps_, lU] [(.int c_), (.ref bt_)]))
  refine own_via (fun _ k => XS.dload X19.here hx rfl (hb hby d8_169) rfl k) ?_
  show own_Go p e below s _ _ _ (T19.setTop (mkF m 171 #[lR a, lR st_, lD dc_, lS, lD ds_, lS, lI pp_, lI ps_, lU] [(.double ds_), (.int c_), (.ref bt_)]))
  have F21 := ((V_bt_.keep Kq9 (ninS (Ne.symm ne_bs__bt_) nin0)).other W14 (Ne.symm ne_bc__bt_))
  obtain ⟨cl20, Ar20, q20, S20, M20, H20, G20⟩ := (id F21)
  have hin20 : ¬ (c_ < 0 ∨ cl20.slots.size ≤ (c_).toNatClampNeg) := inb_of S20 ⟨(own_nn hp60).1, own_lt64 hp60 hp61⟩
  obtain ⟨T20, h20, X20, e20, W20, st20⟩ := stD X19 hx hZ e19 Ar20 (j := c_) hin20 (g := (mkF m 171 #[lR a, lR st_, lD dc_, lS, lD ds_, lS, lI pp_, lI ps_, lU] [(.double ds_), (.int c_), (.ref bt_)])) rfl rfl (hb hby d8_171)
  have V20 : Arv Z h20 bt_ kt_ .double (64 : Int32) (vbt_.set i_ (.double ds_)) (.double (0 : UInt64)) := Arv.set Ar20 q20 S20 M20 H20 G20 rfl W20 i_ (own_nn hp60).2 (by rw [hp64]; exact hp61)
  have N20 := Fr.snoc X20 N14 g_bt_
  have Z20 : n0 ≤ h20.size := Nat.le_trans Z14 (Keep.of_wr W20).1
  have K20 : Keep h0 h20 [a, bs_, bc_, bt_, bl_, bp_, bu_] := K14.wr W20 (Or.inl (List.mem_of_getElem? (i := 3) rfl))
  refine own_via st20 ?_
  show own_Go p e below s _ _ _ (T20.setTop (mkF m 172 #[lR a, lR st_, lD dc_, lS, lD ds_, lS, lI pp_, lI ps_, lU] []))
  refine own_via (fun _ k => XS.aloadN X20.here hx rfl (hb hby d8_172) rfl rfl k) ?_
  show own_Go p e below s _ _ _ (T20.setTop (mkF m 173 #[lR a, lR st_, lD dc_, lS, lD ds_, lS, lI pp_, lI ps_, lU] [(.ref a)]))
  have F22 := (((F_lengths_a.keep Kq9 (ninS ne_a_bs_ nin0)).other W14 (Or.inl ne_a_bc_)).other W20 (Or.inl ne_a_bt_))
  obtain ⟨T23, X23, e23, st23⟩ := getF X20 hx hZ hown (host := "") (Or.inl (hwi hw 48 rfl)) Via.refl e20 F22 (g := (mkF m 173 #[lR a, lR st_, lD dc_, lS, lD ds_, lS, lI pp_, lI ps_, lU] [(.ref a)])) rfl rfl (hb hby d8_173)
  refine own_via st23 ?_
  show own_Go p e below s _ _ _ (T23.setTop (mkF m 176 #[lR a, lR st_, lD dc_, lS, lD ds_, lS, lI pp_, lI ps_, lU] [(.ref bl_)]))
  refine own_via (fun _ k => XS.aloadN X23.here hx rfl (hb hby d8_176) rfl rfl k) ?_
  show own_Go p e below s _ _ _ (T23.setTop (mkF m 177 #[lR a, lR st_, lD dc_, lS, lD ds_, lS, lI pp_, lI ps_, lU] [(.ref a), (.ref bl_)]))
  have F24 := (F18.other W20 (Or.inl ne_a_bt_))
  obtain ⟨T25, X25, e25, st25⟩ := getF X23 hx hZ hown (host := "") (Or.inl (hwi hw 70 rfl)) Via.refl e23 F24 (g := (mkF m 177 #[lR a, lR st_, lD dc_, lS, lD ds_, lS, lI pp_, lI ps_, lU] [(.ref a), (.ref bl_)])) rfl rfl (hb hby d8_177)
  refine own_via st25 ?_
  show own_Go p e below s _ _ _ (T25.setTop (mkF m 180 #[lR a, lR st_, lD dc_, lS, lD ds_, lS, lI pp_, lI ps_, lU] [(.int c_), (.ref bl_)]))
  refine own_via (fun _ k => XS.iload X25.here hx rfl (hb hby d8_180) rfl k) ?_
  show own_Go p e below s _ _ _ (T25.setTop (mkF m 182 #[lR a, lR st_, lD dc_, lS, lD ds_, lS, lI pp_, lI ps_, lU] [(.int pp_), (.int c_), (.ref bl_)]))
  have hc26 : pp_ < (0 : Int32) := hp68
  refine own_via (fun _ k => XS.ifNo X25.here hx rfl (hb hby d8_182) rfl (Jvm.Free.XT.i0_ge_f hc26) k) ?_
  show own_Go p e below s _ _ _ (T25.setTop (mkF m 185 #[lR a, lR st_, lD dc_, lS, lD ds_, lS, lI pp_, lI ps_, lU] [(.int c_), (.ref bl_)]))
  refine own_via (fun _ k => XS.iconst X25.here hx rfl (hb hby d8_185) k) ?_
  show own_Go p e below s _ _ _ (T25.setTop (mkF m 186 #[lR a, lR st_, lD dc_, lS, lD ds_, lS, lI pp_, lI ps_, lU] [(.int (0 : Int32)), (.int c_), (.ref bl_)]))
  refine own_via (fun _ k => XS.goto X25.here hx rfl (pc0 := 186) (pc' := 198) rfl (hb hby d8_186) (by decide) (by decide) k) ?_
  show own_Go p e below s _ _ _ (T25.setTop (mkF m 198 #[lR a, lR st_, lD dc_, lS, lD ds_, lS, lI pp_, lI ps_, lU] [(.int (0 : Int32)), (.int c_), (.ref bl_)]))
  have F28 := (((V_bl_.keep Kq9 (ninS (Ne.symm ne_bs__bl_) nin0)).other W14 (Ne.symm ne_bc__bl_)).other W20 (Ne.symm ne_bt__bl_))
  obtain ⟨cl27, Ar27, q27, S27, M27, H27, G27⟩ := (id F28)
  have hin27 : ¬ (c_ < 0 ∨ cl27.slots.size ≤ (c_).toNatClampNeg) := inb_of S27 ⟨(own_nn hp60).1, own_lt64 hp60 hp61⟩
  obtain ⟨T27, h27, X27, e27, W27, st27⟩ := stI X25 hx hZ e25 Ar27 (j := c_) hin27 (g := (mkF m 198 #[lR a, lR st_, lD dc_, lS, lD ds_, lS, lI pp_, lI ps_, lU] [(.int (0 : Int32)), (.int c_), (.ref bl_)])) rfl rfl (hb hby d8_198)
  have V27 : Arv Z h27 bl_ kl_ .int (64 : Int32) (vbl_.set i_ (.int (0 : Int32))) (.int (0 : Int32)) := Arv.set Ar27 q27 S27 M27 H27 G27 rfl W27 i_ (own_nn hp60).2 (by rw [hp65]; exact hp61)
  have N27 := Fr.snoc X27 N20 g_bl_
  have Z27 : n0 ≤ h27.size := Nat.le_trans Z20 (Keep.of_wr W27).1
  have K27 : Keep h0 h27 [a, bs_, bc_, bt_, bl_, bp_, bu_] := K20.wr W27 (Or.inl (List.mem_of_getElem? (i := 4) rfl))
  refine own_via st27 ?_
  show own_Go p e below s _ _ _ (T27.setTop (mkF m 199 #[lR a, lR st_, lD dc_, lS, lD ds_, lS, lI pp_, lI ps_, lU] []))
  refine own_via (fun _ k => XS.aloadN X27.here hx rfl (hb hby d8_199) rfl rfl k) ?_
  show own_Go p e below s _ _ _ (T27.setTop (mkF m 200 #[lR a, lR st_, lD dc_, lS, lD ds_, lS, lI pp_, lI ps_, lU] [(.ref a)]))
  have F29 := ((((F_parents_a.keep Kq9 (ninS ne_a_bs_ nin0)).other W14 (Or.inl ne_a_bc_)).other W20 (Or.inl ne_a_bt_)).other W27 (Or.inl ne_a_bl_))
  obtain ⟨T30, X30, e30, st30⟩ := getF X27 hx hZ hown (host := "") (Or.inl (hwi hw 50 rfl)) Via.refl e27 F29 (g := (mkF m 200 #[lR a, lR st_, lD dc_, lS, lD ds_, lS, lI pp_, lI ps_, lU] [(.ref a)])) rfl rfl (hb hby d8_200)
  refine own_via st30 ?_
  show own_Go p e below s _ _ _ (T30.setTop (mkF m 203 #[lR a, lR st_, lD dc_, lS, lD ds_, lS, lI pp_, lI ps_, lU] [(.ref bp_)]))
  refine own_via (fun _ k => XS.aloadN X30.here hx rfl (hb hby d8_203) rfl rfl k) ?_
  show own_Go p e below s _ _ _ (T30.setTop (mkF m 204 #[lR a, lR st_, lD dc_, lS, lD ds_, lS, lI pp_, lI ps_, lU] [(.ref a), (.ref bp_)]))
  have F31 := (F24.other W27 (Or.inl ne_a_bl_))
  obtain ⟨T32, X32, e32, st32⟩ := getF X30 hx hZ hown (host := "") (Or.inl (hwi hw 70 rfl)) Via.refl e30 F31 (g := (mkF m 204 #[lR a, lR st_, lD dc_, lS, lD ds_, lS, lI pp_, lI ps_, lU] [(.ref a), (.ref bp_)])) rfl rfl (hb hby d8_204)
  refine own_via st32 ?_
  show own_Go p e below s _ _ _ (T32.setTop (mkF m 207 #[lR a, lR st_, lD dc_, lS, lD ds_, lS, lI pp_, lI ps_, lU] [(.int c_), (.ref bp_)]))
  refine own_via (fun _ k => XS.iload X32.here hx rfl (hb hby d8_207) rfl k) ?_
  show own_Go p e below s _ _ _ (T32.setTop (mkF m 209 #[lR a, lR st_, lD dc_, lS, lD ds_, lS, lI pp_, lI ps_, lU] [(.int pp_), (.int c_), (.ref bp_)]))
  have F34 := ((((V_bp_.keep Kq9 (ninS (Ne.symm ne_bs__bp_) nin0)).other W14 (Ne.symm ne_bc__bp_)).other W20 (Ne.symm ne_bt__bp_)).other W27 (Ne.symm ne_bl__bp_))
  obtain ⟨cl33, Ar33, q33, S33, M33, H33, G33⟩ := (id F34)
  have hin33 : ¬ (c_ < 0 ∨ cl33.slots.size ≤ (c_).toNatClampNeg) := inb_of S33 ⟨(own_nn hp60).1, own_lt64 hp60 hp61⟩
  obtain ⟨T33, h33, X33, e33, W33, st33⟩ := stI X32 hx hZ e32 Ar33 (j := c_) hin33 (g := (mkF m 209 #[lR a, lR st_, lD dc_, lS, lD ds_, lS, lI pp_, lI ps_, lU] [(.int pp_), (.int c_), (.ref bp_)])) rfl rfl (hb hby d8_209)
  have V33 : Arv Z h33 bp_ kp_ .int (64 : Int32) (vbp_.set i_ (.int pp_)) (.int (0 : Int32)) := Arv.set Ar33 q33 S33 M33 H33 G33 rfl W33 i_ (own_nn hp60).2 (by rw [hp66]; exact hp61)
  have N33 := Fr.snoc X33 N27 g_bp_
  have Z33 : n0 ≤ h33.size := Nat.le_trans Z27 (Keep.of_wr W33).1
  have K33 : Keep h0 h33 [a, bs_, bc_, bt_, bl_, bp_, bu_] := K27.wr W33 (Or.inl (List.mem_of_getElem? (i := 5) rfl))
  refine own_via st33 ?_
  show own_Go p e below s _ _ _ (T33.setTop (mkF m 210 #[lR a, lR st_, lD dc_, lS, lD ds_, lS, lI pp_, lI ps_, lU] []))
  refine own_via (fun _ k => XS.aloadN X33.here hx rfl (hb hby d8_210) rfl rfl k) ?_
  show own_Go p e below s _ _ _ (T33.setTop (mkF m 211 #[lR a, lR st_, lD dc_, lS, lD ds_, lS, lI pp_, lI ps_, lU] [(.ref a)]))
  have F35 := (((((F_steps_a.keep Kq9 (ninS ne_a_bs_ nin0)).other W14 (Or.inl ne_a_bc_)).other W20 (Or.inl ne_a_bt_)).other W27 (Or.inl ne_a_bl_)).other W33 (Or.inl ne_a_bp_))
  obtain ⟨T36, X36, e36, st36⟩ := getF X33 hx hZ hown (host := "") (Or.inl (hwi hw 52 rfl)) Via.refl e33 F35 (g := (mkF m 211 #[lR a, lR st_, lD dc_, lS, lD ds_, lS, lI pp_, lI ps_, lU] [(.ref a)])) rfl rfl (hb hby d8_211)
  refine own_via st36 ?_
  show own_Go p e below s _ _ _ (T36.setTop (mkF m 214 #[lR a, lR st_, lD dc_, lS, lD ds_, lS, lI pp_, lI ps_, lU] [(.ref bu_)]))
  refine own_via (fun _ k => XS.aloadN X36.here hx rfl (hb hby d8_214) rfl rfl k) ?_
  show own_Go p e below s _ _ _ (T36.setTop (mkF m 215 #[lR a, lR st_, lD dc_, lS, lD ds_, lS, lI pp_, lI ps_, lU] [(.ref a), (.ref bu_)]))
  have F37 := (F31.other W33 (Or.inl ne_a_bp_))
  obtain ⟨T38, X38, e38, st38⟩ := getF X36 hx hZ hown (host := "") (Or.inl (hwi hw 70 rfl)) Via.refl e36 F37 (g := (mkF m 215 #[lR a, lR st_, lD dc_, lS, lD ds_, lS, lI pp_, lI ps_, lU] [(.ref a), (.ref bu_)])) rfl rfl (hb hby d8_215)
  refine own_via st38 ?_
  show own_Go p e below s _ _ _ (T38.setTop (mkF m 218 #[lR a, lR st_, lD dc_, lS, lD ds_, lS, lI pp_, lI ps_, lU] [(.int c_), (.ref bu_)]))
  refine own_via (fun _ k => XS.iload X38.here hx rfl (hb hby d8_218) rfl k) ?_
  show own_Go p e below s _ _ _ (T38.setTop (mkF m 220 #[lR a, lR st_, lD dc_, lS, lD ds_, lS, lI pp_, lI ps_, lU] [(.int ps_), (.int c_), (.ref bu_)]))
  have F40 := (((((V_bu_.keep Kq9 (ninS (Ne.symm ne_bs__bu_) nin0)).other W14 (Ne.symm ne_bc__bu_)).other W20 (Ne.symm ne_bt__bu_)).other W27 (Ne.symm ne_bl__bu_)).other W33 (Ne.symm ne_bp__bu_))
  obtain ⟨cl39, Ar39, q39, S39, M39, H39, G39⟩ := (id F40)
  have hin39 : ¬ (c_ < 0 ∨ cl39.slots.size ≤ (c_).toNatClampNeg) := inb_of S39 ⟨(own_nn hp60).1, own_lt64 hp60 hp61⟩
  obtain ⟨T39, h39, X39, e39, W39, st39⟩ := stI X38 hx hZ e38 Ar39 (j := c_) hin39 (g := (mkF m 220 #[lR a, lR st_, lD dc_, lS, lD ds_, lS, lI pp_, lI ps_, lU] [(.int ps_), (.int c_), (.ref bu_)])) rfl rfl (hb hby d8_220)
  have V39 : Arv Z h39 bu_ ku_ .int (64 : Int32) (vbu_.set i_ (.int ps_)) (.int (0 : Int32)) := Arv.set Ar39 q39 S39 M39 H39 G39 rfl W39 i_ (own_nn hp60).2 (by rw [hp67]; exact hp61)
  have N39 := Fr.snoc X39 N33 g_bu_
  have Z39 : n0 ≤ h39.size := Nat.le_trans Z33 (Keep.of_wr W39).1
  have K39 : Keep h0 h39 [a, bs_, bc_, bt_, bl_, bp_, bu_] := K33.wr W39 (Or.inl (List.mem_of_getElem? (i := 6) rfl))
  refine own_via st39 ?_
  show own_Go p e below s _ _ _ (T39.setTop (mkF m 221 #[lR a, lR st_, lD dc_, lS, lD ds_, lS, lI pp_, lI ps_, lU] []))
  refine own_via (fun _ k => XS.aloadN X39.here hx rfl (hb hby d8_221) rfl rfl k) ?_
  show own_Go p e below s _ _ _ (T39.setTop (mkF m 222 #[lR a, lR st_, lD dc_, lS, lD ds_, lS, lI pp_, lI ps_, lU] [(.ref a)]))
  refine own_via (fun _ k => XS.dup X39.here hx rfl (hb hby d8_222) rfl rfl k) ?_
  show own_Go p e below s _ _ _ (T39.setTop (mkF m 223 #[lR a, lR st_, lD dc_, lS, lD ds_, lS, lI pp_, lI ps_, lU] [(.ref a), (.ref a)]))
  have F41 := (F37.other W39 (Or.inl ne_a_bu_))
  obtain ⟨T42, X42, e42, st42⟩ := getF X39 hx hZ hown (host := "") (Or.inl (hwi hw 70 rfl)) Via.refl e39 F41 (g := (mkF m 223 #[lR a, lR st_, lD dc_, lS, lD ds_, lS, lI pp_, lI ps_, lU] [(.ref a), (.ref a)])) rfl rfl (hb hby d8_223)
  refine own_via st42 ?_
  show own_Go p e below s _ _ _ (T42.setTop (mkF m 226 #[lR a, lR st_, lD dc_, lS, lD ds_, lS, lI pp_, lI ps_, lU] [(.int c_), (.ref a)]))
  refine own_via (fun _ k => XS.dupX1 X42.here hx rfl (hb hby d8_226) rfl rfl rfl k) ?_
  show own_Go p e below s _ _ _ (T42.setTop (mkF m 227 #[lR a, lR st_, lD dc_, lS, lD ds_, lS, lI pp_, lI ps_, lU] [(.int c_), (.ref a), (.int c_)]))
  refine own_via (fun _ k => XS.iconst X42.here hx rfl (hb hby d8_227) k) ?_
  show own_Go p e below s _ _ _ (T42.setTop (mkF m 228 #[lR a, lR st_, lD dc_, lS, lD ds_, lS, lI pp_, lI ps_, lU] [(.int (1 : Int32)), (.int c_), (.ref a), (.int c_)]))
  refine own_via (fun _ k => XS.iadd X42.here hx rfl (hb hby d8_228) rfl k) ?_
  show own_Go p e below s _ _ _ (T42.setTop (mkF m 229 #[lR a, lR st_, lD dc_, lS, lD ds_, lS, lI pp_, lI ps_, lU] [(.int (c_ + (1 : Int32))), (.ref a), (.int c_)]))
  have F43 := ((((((E_a.keep Kq9).wr W14).wr W20).wr W27).wr W33).wr W39)
  obtain ⟨T44, h44, X44, e44, W44, st44⟩ := putF X42 hx hZ hown (host := "") (Or.inl (hwi hw 70 rfl)) Via.refl e42 F41 F43 (Or.inl (hwi hw 71 rfl)) (hwi hw 3 rfl) (ty := .int) (by decide) rfl rfl (g := (mkF m 229 #[lR a, lR st_, lD dc_, lS, lD ds_, lS, lI pp_, lI ps_, lU] [(.int (c_ + (1 : Int32))), (.ref a), (.int c_)])) rfl rfl (hb hby d8_229)
  have N44 := Fr.snoc X44 N39 g_a
  have Fw44 := F41.same W44
  have Z44 : n0 ≤ h44.size := Nat.le_trans Z39 (Keep.of_wr W44).1
  have K44 : Keep h0 h44 [a, bs_, bc_, bt_, bl_, bp_, bu_] := K39.wr W44 (Or.inl (List.mem_of_getElem? (i := 0) rfl))
  refine own_via st44 ?_
  show own_Go p e below s _ _ _ (T44.setTop (mkF m 232 #[lR a, lR st_, lD dc_, lS, lD ds_, lS, lI pp_, lI ps_, lU] [(.int c_)]))
  have F45 := (F43.wr W44)
  have F46 := (((((((F_width_a.keep Kq9 (ninS ne_a_bs_ nin0)).other W14 (Or.inl ne_a_bc_)).other W20 (Or.inl ne_a_bt_)).other W27 (Or.inl ne_a_bl_)).other W33 (Or.inl ne_a_bp_)).other W39 (Or.inl ne_a_bu_)).other W44 (Or.inr (sn0 hw)))
  have F47 := (((((((F_lengthLimit_a.keep Kq9 (ninS ne_a_bs_ nin0)).other W14 (Or.inl ne_a_bc_)).other W20 (Or.inl ne_a_bt_)).other W27 (Or.inl ne_a_bl_)).other W33 (Or.inl ne_a_bp_)).other W39 (Or.inl ne_a_bu_)).other W44 (Or.inr (sn1 hw)))
  have F48 := (((((((F_states_a.keep Kq9 (ninS ne_a_bs_ nin0)).other W14 (Or.inl ne_a_bc_)).other W20 (Or.inl ne_a_bt_)).other W27 (Or.inl ne_a_bl_)).other W33 (Or.inl ne_a_bp_)).other W39 (Or.inl ne_a_bu_)).other W44 (Or.inr (sn2 hw)))
  have F49 := ((((((F10.other W14 (Or.inl ne_a_bc_)).other W20 (Or.inl ne_a_bt_)).other W27 (Or.inl ne_a_bl_)).other W33 (Or.inl ne_a_bp_)).other W39 (Or.inl ne_a_bu_)).other W44 (Or.inr (sn3 hw)))
  have F50 := (((((F16.other W20 (Or.inl ne_a_bt_)).other W27 (Or.inl ne_a_bl_)).other W33 (Or.inl ne_a_bp_)).other W39 (Or.inl ne_a_bu_)).other W44 (Or.inr (sn4 hw)))
  have F51 := ((((F22.other W27 (Or.inl ne_a_bl_)).other W33 (Or.inl ne_a_bp_)).other W39 (Or.inl ne_a_bu_)).other W44 (Or.inr (sn5 hw)))
  have F52 := (((F29.other W33 (Or.inl ne_a_bp_)).other W39 (Or.inl ne_a_bu_)).other W44 (Or.inr (sn6 hw)))
  have F53 := ((F35.other W39 (Or.inl ne_a_bu_)).other W44 (Or.inr (sn7 hw)))
  have F54 := (((((((F_superseded_a.keep Kq9 (ninS ne_a_bs_ nin0)).other W14 (Or.inl ne_a_bc_)).other W20 (Or.inl ne_a_bt_)).other W27 (Or.inl ne_a_bl_)).other W33 (Or.inl ne_a_bp_)).other W39 (Or.inl ne_a_bu_)).other W44 (Or.inr (sn8 hw)))
  have F55 := (((((((F_nextKept_a.keep Kq9 (ninS ne_a_bs_ nin0)).other W14 (Or.inl ne_a_bc_)).other W20 (Or.inl ne_a_bt_)).other W27 (Or.inl ne_a_bl_)).other W33 (Or.inl ne_a_bp_)).other W39 (Or.inl ne_a_bu_)).other W44 (Or.inr (sn9 hw)))
  have F56 := (((((((F_table_a.keep Kq9 (ninS ne_a_bs_ nin0)).other W14 (Or.inl ne_a_bc_)).other W20 (Or.inl ne_a_bt_)).other W27 (Or.inl ne_a_bl_)).other W33 (Or.inl ne_a_bp_)).other W39 (Or.inl ne_a_bu_)).other W44 (Or.inr (sn10 hw)))
  have F57 := (((((((F_frontierCosts_a.keep Kq9 (ninS ne_a_bs_ nin0)).other W14 (Or.inl ne_a_bc_)).other W20 (Or.inl ne_a_bt_)).other W27 (Or.inl ne_a_bl_)).other W33 (Or.inl ne_a_bp_)).other W39 (Or.inl ne_a_bu_)).other W44 (Or.inr (sn11 hw)))
  have F58 := (((((((F_frontierRanks_a.keep Kq9 (ninS ne_a_bs_ nin0)).other W14 (Or.inl ne_a_bc_)).other W20 (Or.inl ne_a_bt_)).other W27 (Or.inl ne_a_bl_)).other W33 (Or.inl ne_a_bp_)).other W39 (Or.inl ne_a_bu_)).other W44 (Or.inr (sn12 hw)))
  have F59 := (((((((F_waiting_a.keep Kq9 (ninS ne_a_bs_ nin0)).other W14 (Or.inl ne_a_bc_)).other W20 (Or.inl ne_a_bt_)).other W27 (Or.inl ne_a_bl_)).other W33 (Or.inl ne_a_bp_)).other W39 (Or.inl ne_a_bu_)).other W44 (Or.inr (sn13 hw)))
  have F60 := (((((((F_waitingWithin_a.keep Kq9 (ninS ne_a_bs_ nin0)).other W14 (Or.inl ne_a_bc_)).other W20 (Or.inl ne_a_bt_)).other W27 (Or.inl ne_a_bl_)).other W33 (Or.inl ne_a_bp_)).other W39 (Or.inl ne_a_bu_)).other W44 (Or.inr (sn14 hw)))
  have F61 := (((((((F_held_a.keep Kq9 (ninS ne_a_bs_ nin0)).other W14 (Or.inl ne_a_bc_)).other W20 (Or.inl ne_a_bt_)).other W27 (Or.inl ne_a_bl_)).other W33 (Or.inl ne_a_bp_)).other W39 (Or.inl ne_a_bu_)).other W44 (Or.inr (sn15 hw)))
  have F62 := ((((((V9.other W14 ne_bs__bc_).other W20 ne_bs__bt_).other W27 ne_bs__bl_).other W33 ne_bs__bp_).other W39 ne_bs__bu_).other W44 (Ne.symm ne_a_bs_))
  have F63 := (((((V14.other W20 ne_bc__bt_).other W27 ne_bc__bl_).other W33 ne_bc__bp_).other W39 ne_bc__bu_).other W44 (Ne.symm ne_a_bc_))
  have F64 := ((((V20.other W27 ne_bt__bl_).other W33 ne_bt__bp_).other W39 ne_bt__bu_).other W44 (Ne.symm ne_a_bt_))
  have F65 := (((V27.other W33 ne_bl__bp_).other W39 ne_bl__bu_).other W44 (Ne.symm ne_a_bl_))
  have F66 := ((V33.other W39 ne_bp__bu_).other W44 (Ne.symm ne_a_bp_))
  have F67 := (V39.other W44 (Ne.symm ne_a_bu_))
  exact own_goI X44 hx Bd.returns (hb hby d8_232) Bd.notSynchronized (by decide) (by decide) (by rw [e44]; exact ⟨vn9, (vbt_.set i_ (.double ds_)), (vbp_.set i_ (.int pp_)), (vbu_.set i_ (.int ps_)), rfl, N44, K44, F45, F46, F47, Fw44, F48, F49, F50, F51, F52, F53, F54, F55, F56, F57, F58, F59, F60, F61, F62, F63, F64, F65, F66, F67, (by rw [← hvn9]; exact own_len4 (own_nn hp60).2 hp61 hp62), (by rw [List.length_set]; exact hp64), (by rw [List.length_set]; exact hp66), (by rw [List.length_set]; exact hp67)⟩)
theorem d8_189 : decode prog_59_method_3_code 189 = .ok (.aload_n 0, 1) := by decide +kernel
theorem d8_190 : decode prog_59_method_3_code 190 = .ok (.getfield 56, 3) := by decide +kernel
theorem d8_193 : decode prog_59_method_3_code 193 = .ok (.iload 6, 2) := by decide +kernel
theorem d8_195 : decode prog_59_method_3_code 195 = .ok (.iaload, 1) := by decide +kernel
theorem d8_196 : decode prog_59_method_3_code 196 = .ok (.iconst 1, 1) := by decide +kernel
theorem d8_197 : decode prog_59_method_3_code 197 = .ok (.iadd, 1) := by decide +kernel
theorem ef_aP (m : MethodId) (x0 : Addr) (x1 : Addr) (x2 : UInt64) (x3 : UInt64) (x4 : Int32) (x5 : Int32) : entryFrame m #[(.ref x0), (.ref x1), (.double x2), (.double x3), (.int x4), (.int x5)] 9 = mkF m 0 #[.val (.ref x0), .val (.ref x1), .val (.double x2), .second, .val (.double x3), .second, .val (.int x4), .val (.int x5), .unset] [] := by first | (simp [entryFrame, mkF, argsToLocals, Value.category]; done) | rfl
def QaP (Z : State) (a : Addr) (st_ : Addr) (dc_ : UInt64) (ds_ : UInt64) (pp_ : Int32) (ps_ : Int32) (c_ : Int32) (ll_ : Int64) (i_ : Nat) (bs_ : Addr) (bc_ : Addr) (bt_ : Addr) (bl_ : Addr) (bp_ : Addr) (bu_ : Addr) (bz_ : Addr) (bk_ : Addr) (bT_ : Addr) (bf_ : Addr) (br_ : Addr) (ks_ : ClassId) (kc_ : ClassId) (kt_ : ClassId) (kl_ : ClassId) (kp_ : ClassId) (ku_ : ClassId) (vbs_ : List Value) (vbc_ : List Value) (vbt_ : List Value) (vbl_ : List Value) (vbp_ : List Value) (vbu_ : List Value) (q_ : ClassId) (vq_ : List Value) (u_ : Int32) (h0 : Heap) (n0 : Nat) (v : Option Value) (h : Heap) (L : List Loc) : Prop := ∃ wbs_ : List Value, ∃ wbt_ : List Value, ∃ wbp_ : List Value, ∃ wbu_ : List Value, v = some (.int c_) ∧ Fr n0 L ∧ Keep h0 h [a, bs_, bc_, bt_, bl_, bp_, bu_] ∧ Exa Z h a "com/example/trajectory/trajectory/search/Nodes" ∧ Fld Z h a "com/example/trajectory/trajectory/search/Nodes" "width" "I" (.int (1 : Int32)) ∧ Fld Z h a "com/example/trajectory/trajectory/search/Nodes" "lengthLimit" "J" (.long ll_) ∧ Fld Z h a "com/example/trajectory/trajectory/search/Nodes" "count" "I" (.int (c_ + (1 : Int32))) ∧ Fld Z h a "com/example/trajectory/trajectory/search/Nodes" "states" "[J" (.ref bs_) ∧ Fld Z h a "com/example/trajectory/trajectory/search/Nodes" "costs" "[D" (.ref bc_) ∧ Fld Z h a "com/example/trajectory/trajectory/search/Nodes" "stepCosts" "[D" (.ref bt_) ∧ Fld Z h a "com/example/trajectory/trajectory/search/Nodes" "lengths" "[I" (.ref bl_) ∧ Fld Z h a "com/example/trajectory/trajectory/search/Nodes" "parents" "[I" (.ref bp_) ∧ Fld Z h a "com/example/trajectory/trajectory/search/Nodes" "steps" "[I" (.ref bu_) ∧ Fld Z h a "com/example/trajectory/trajectory/search/Nodes" "superseded" "[Z" (.ref bz_) ∧ Fld Z h a "com/example/trajectory/trajectory/search/Nodes" "nextKept" "[I" (.ref bk_) ∧ Fld Z h a "com/example/trajectory/trajectory/search/Nodes" "table" "[I" (.ref bT_) ∧ Fld Z h a "com/example/trajectory/trajectory/search/Nodes" "frontierCosts" "[D" (.ref bf_) ∧ Fld Z h a "com/example/trajectory/trajectory/search/Nodes" "frontierRanks" "[J" (.ref br_) ∧ Fld Z h a "com/example/trajectory/trajectory/search/Nodes" "waiting" "I" (.int (0 : Int32)) ∧ Fld Z h a "com/example/trajectory/trajectory/search/Nodes" "waitingWithin" "J" (.long (0 : Int64)) ∧ Fld Z h a "com/example/trajectory/trajectory/search/Nodes" "held" "I" (.int (0 : Int32)) ∧ Arv Z h bs_ ks_ .long (64 : Int32) wbs_ (.long (0 : Int64)) ∧ Arv Z h bc_ kc_ .double (64 : Int32) (vbc_.set i_ (.double dc_)) (.double (0 : UInt64)) ∧ Arv Z h bt_ kt_ .double (64 : Int32) wbt_ (.double (0 : UInt64)) ∧ Arv Z h bl_ kl_ .int (64 : Int32) (vbl_.set i_ (.int (u_ + (1 : Int32)))) (.int (0 : Int32)) ∧ Arv Z h bp_ kp_ .int (64 : Int32) wbp_ (.int (0 : Int32)) ∧ Arv Z h bu_ ku_ .int (64 : Int32) wbu_ (.int (0 : Int32)) ∧ wbs_.length = 4 ∧ wbt_.length = 4 ∧ wbp_.length = 4 ∧ wbu_.length = 4
set_option maxRecDepth 65536 in
set_option maxHeartbeats 40000000 in
theorem rmaP (l : Launch) (Z : State) (a0 : Array Value) (hw : ∀ d ∈ tables_1, d.before a0 Z = true) (ws : List Jvm.Cond) (a : Addr) (st_ : Addr) (dc_ : UInt64) (ds_ : UInt64) (pp_ : Int32) (ps_ : Int32) (c_ : Int32) (ll_ : Int64) (i_ : Nat) (bs_ : Addr) (bc_ : Addr) (bt_ : Addr) (bl_ : Addr) (bp_ : Addr) (bu_ : Addr) (bz_ : Addr) (bk_ : Addr) (bT_ : Addr) (bf_ : Addr) (br_ : Addr) (ks_ : ClassId) (kc_ : ClassId) (kt_ : ClassId) (kl_ : ClassId) (kp_ : ClassId) (ku_ : ClassId) (vbs_ : List Value) (vbc_ : List Value) (vbt_ : List Value) (vbl_ : List Value) (vbp_ : List Value) (vbu_ : List Value) (q_ : ClassId) (vq_ : List Value) (u_ : Int32) (h0 : Heap) (n0 : Nat) (Z0 : n0 ≤ h0.size) (E_a : Exa Z h0 a "com/example/trajectory/trajectory/search/Nodes") (F_width_a : Fld Z h0 a "com/example/trajectory/trajectory/search/Nodes" "width" "I" (.int (1 : Int32))) (F_lengthLimit_a : Fld Z h0 a "com/example/trajectory/trajectory/search/Nodes" "lengthLimit" "J" (.long ll_)) (F_count_a : Fld Z h0 a "com/example/trajectory/trajectory/search/Nodes" "count" "I" (.int c_)) (F_states_a : Fld Z h0 a "com/example/trajectory/trajectory/search/Nodes" "states" "[J" (.ref bs_)) (F_costs_a : Fld Z h0 a "com/example/trajectory/trajectory/search/Nodes" "costs" "[D" (.ref bc_)) (F_stepCosts_a : Fld Z h0 a "com/example/trajectory/trajectory/search/Nodes" "stepCosts" "[D" (.ref bt_)) (F_lengths_a : Fld Z h0 a "com/example/trajectory/trajectory/search/Nodes" "lengths" "[I" (.ref bl_)) (F_parents_a : Fld Z h0 a "com/example/trajectory/trajectory/search/Nodes" "parents" "[I" (.ref bp_)) (F_steps_a : Fld Z h0 a "com/example/trajectory/trajectory/search/Nodes" "steps" "[I" (.ref bu_)) (F_superseded_a : Fld Z h0 a "com/example/trajectory/trajectory/search/Nodes" "superseded" "[Z" (.ref bz_)) (F_nextKept_a : Fld Z h0 a "com/example/trajectory/trajectory/search/Nodes" "nextKept" "[I" (.ref bk_)) (F_table_a : Fld Z h0 a "com/example/trajectory/trajectory/search/Nodes" "table" "[I" (.ref bT_)) (F_frontierCosts_a : Fld Z h0 a "com/example/trajectory/trajectory/search/Nodes" "frontierCosts" "[D" (.ref bf_)) (F_frontierRanks_a : Fld Z h0 a "com/example/trajectory/trajectory/search/Nodes" "frontierRanks" "[J" (.ref br_)) (F_waiting_a : Fld Z h0 a "com/example/trajectory/trajectory/search/Nodes" "waiting" "I" (.int (0 : Int32))) (F_waitingWithin_a : Fld Z h0 a "com/example/trajectory/trajectory/search/Nodes" "waitingWithin" "J" (.long (0 : Int64))) (F_held_a : Fld Z h0 a "com/example/trajectory/trajectory/search/Nodes" "held" "I" (.int (0 : Int32))) (V_bs_ : Arv Z h0 bs_ ks_ .long (64 : Int32) vbs_ (.long (0 : Int64))) (V_bc_ : Arv Z h0 bc_ kc_ .double (64 : Int32) vbc_ (.double (0 : UInt64))) (V_bt_ : Arv Z h0 bt_ kt_ .double (64 : Int32) vbt_ (.double (0 : UInt64))) (V_bl_ : Arv Z h0 bl_ kl_ .int (64 : Int32) vbl_ (.int (0 : Int32))) (V_bp_ : Arv Z h0 bp_ kp_ .int (64 : Int32) vbp_ (.int (0 : Int32))) (V_bu_ : Arv Z h0 bu_ ku_ .int (64 : Int32) vbu_ (.int (0 : Int32))) (V_st_ : Arv Z h0 st_ q_ .long (1 : Int32) vq_ (.long (0 : Int64))) (g_a : n0 ≤ a) (g_bs_ : n0 ≤ bs_) (g_bc_ : n0 ≤ bc_) (g_bt_ : n0 ≤ bt_) (g_bl_ : n0 ≤ bl_) (g_bp_ : n0 ≤ bp_) (g_bu_ : n0 ≤ bu_) (ne_bs__bc_ : bs_ ≠ bc_) (ne_bs__bt_ : bs_ ≠ bt_) (ne_bs__bl_ : bs_ ≠ bl_) (ne_bs__bp_ : bs_ ≠ bp_) (ne_bs__bu_ : bs_ ≠ bu_) (ne_bc__bt_ : bc_ ≠ bt_) (ne_bc__bl_ : bc_ ≠ bl_) (ne_bc__bp_ : bc_ ≠ bp_) (ne_bc__bu_ : bc_ ≠ bu_) (ne_bt__bl_ : bt_ ≠ bl_) (ne_bt__bp_ : bt_ ≠ bp_) (ne_bt__bu_ : bt_ ≠ bu_) (ne_bl__bp_ : bl_ ≠ bp_) (ne_bl__bu_ : bl_ ≠ bu_) (ne_bp__bu_ : bp_ ≠ bu_) (ne_a_bs_ : a ≠ bs_) (ne_a_bc_ : a ≠ bc_) (ne_a_bt_ : a ≠ bt_) (ne_a_bl_ : a ≠ bl_) (ne_a_bp_ : a ≠ bp_) (ne_a_bu_ : a ≠ bu_) (ne_st__bs_ : st_ ≠ bs_) (ne_st__bc_ : st_ ≠ bc_) (ne_st__bt_ : st_ ≠ bt_) (ne_st__bl_ : st_ ≠ bl_) (ne_st__bp_ : st_ ≠ bp_) (ne_st__bu_ : st_ ≠ bu_) (ne_st__a : st_ ≠ a) (hp60 : c_.toInt = (i_ : Int)) (hp61 : i_ < 4) (hp62 : vbs_.length = 4) (hp63 : vbc_.length = 4) (hp64 : vbt_.length = 4) (hp65 : vbl_.length = 4) (hp66 : vbp_.length = 4) (hp67 : vbu_.length = 4) (hp68 : ¬ pp_ < 0 ∧ pp_ < (64 : Int32)) (hp69 : vbl_.getD (pp_).toNatClampNeg (.int (0 : Int32)) = (.int u_)) :
    MetFree l (⟨"com/example/trajectory/trajectory/search/Nodes", "add", "([JDDII)I"⟩ : MethodName) (head1 (Jvm.Cond.code (⟨"com/example/trajectory/trajectory/search/Nodes", "add", "([JDDII)I"⟩ : MethodName) prog_59_method_3_code 9 (some .int) :: ws) ({ frames := 1, cells := 0, slots := 0, locals := 18 } : Room)) (fun q_ U => q_ = #[(.ref a), (.ref st_), (.double dc_), (.double ds_), (.int pp_), (.int ps_)] ∧ Z.Warmed39 U.vm ∧ U.heap = h0) (fun _ _ _ _ _ => True) (fun _ U o U' => ∃ v L, o = .returned v ∧ QaP Z a st_ dc_ ds_ pp_ ps_ c_ ll_ i_ bs_ bc_ bt_ bl_ bp_ bu_ bz_ bk_ bT_ bf_ br_ ks_ kc_ kt_ kl_ kp_ ku_ vbs_ vbc_ vbt_ vbl_ vbp_ vbu_ q_ vq_ u_ h0 n0 v U'.heap L ∧ FrameEnd U o U' L ({ frames := 1, cells := 0, slots := 0, locals := 18 } : Room).cells ({ frames := 1, cells := 0, slots := 0, locals := 18 } : Room).slots) := by
  refine MetFree.of_bodySF (plainFor_of_name pn_1) hisR ?_
  intro p e s m args below meth c s₁ Bd hml0 hP hK
  obtain ⟨rfl, hZ, hh⟩ := hP
  have hx := Bd.exec
  have hby := Bd.bytes
  have hml : c.maxLocals = 9 := hml0
  have hown : s.vm.findClass "com/example/trajectory/trajectory/search/Nodes" = some m.cls := findClass_of_methodNamed Bd.named
  have hnm := (name_of_methodNamed Bd.named Bd.method).1
  have X0 : Stand p l e ({ frames := 1, cells := 0, slots := 0, locals := 18 } : Room) s m #[(.ref a), (.ref st_), (.double dc_), (.double ds_), (.int pp_), (.int ps_)] below meth c s₁ [] 0 0 := Stand.of_body Bd
  have e0 : s₁.heap = h0 := by rw [← hh, Bd.state]; rfl
  have N0 := Fr.nil n0
  show own_Go p e below s (QaP Z a st_ dc_ ds_ pp_ ps_ c_ ll_ i_ bs_ bc_ bt_ bl_ bp_ bu_ bz_ bk_ bT_ bf_ br_ ks_ kc_ kt_ kl_ kp_ ku_ vbs_ vbc_ vbt_ vbl_ vbp_ vbu_ q_ vq_ u_ h0 n0) ({ frames := 1, cells := 0, slots := 0, locals := 18 } : Room).cells ({ frames := 1, cells := 0, slots := 0, locals := 18 } : Room).slots (s₁.setTop (entryFrame m #[(.ref a), (.ref st_), (.double dc_), (.double ds_), (.int pp_), (.int ps_)] 9))
  refine own_via (fun t k => castTop (ef_aP m a st_ dc_ ds_ pp_ ps_) k) ?_
  have K0 : Keep h0 h0 [a, bs_, bc_, bt_, bl_, bp_, bu_] := Keep.refl _ _
  show own_Go p e below s _ _ _ (s₁.setTop (mkF m 0 #[lR a, lR st_, lD dc_, lS, lD ds_, lS, lI pp_, lI ps_, lU] []))
  refine own_via (fun _ k => XS.aloadN X0.here hx rfl (hb hby d8_0) rfl rfl k) ?_
  show own_Go p e below s _ _ _ (s₁.setTop (mkF m 1 #[lR a, lR st_, lD dc_, lS, lD ds_, lS, lI pp_, lI ps_, lU] [(.ref a)]))
  obtain ⟨T1, X1, e1, st1⟩ := getF X0 hx hZ hown (host := "") (Or.inl (hwi hw 70 rfl)) Via.refl e0 F_count_a (g := (mkF m 1 #[lR a, lR st_, lD dc_, lS, lD ds_, lS, lI pp_, lI ps_, lU] [(.ref a)])) rfl rfl (hb hby d8_1)
  refine own_via st1 ?_
  show own_Go p e below s _ _ _ (T1.setTop (mkF m 4 #[lR a, lR st_, lD dc_, lS, lD ds_, lS, lI pp_, lI ps_, lU] [(.int c_)]))
  refine own_via (fun _ k => XS.aloadN X1.here hx rfl (hb hby d8_4) rfl rfl k) ?_
  show own_Go p e below s _ _ _ (T1.setTop (mkF m 5 #[lR a, lR st_, lD dc_, lS, lD ds_, lS, lI pp_, lI ps_, lU] [(.ref a), (.int c_)]))
  obtain ⟨T2, X2, e2, st2⟩ := getF X1 hx hZ hown (host := "") (Or.inl (hwi hw 43 rfl)) Via.refl e1 F_costs_a (g := (mkF m 5 #[lR a, lR st_, lD dc_, lS, lD ds_, lS, lI pp_, lI ps_, lU] [(.ref a), (.int c_)])) rfl rfl (hb hby d8_5)
  refine own_via st2 ?_
  show own_Go p e below s _ _ _ (T2.setTop (mkF m 8 #[lR a, lR st_, lD dc_, lS, lD ds_, lS, lI pp_, lI ps_, lU] [(.ref bc_), (.int c_)]))
  obtain ⟨cl3, Ar3, q3, S3, M3, H3, G3⟩ := (id V_bc_)
  refine own_via (fun _ k => X2.arraylength hx (by rw [e2]; exact Ar3.1) (State.isArrayOf_alike hZ.alike Ar3.2.1) (g := (mkF m 8 #[lR a, lR st_, lD dc_, lS, lD ds_, lS, lI pp_, lI ps_, lU] [(.ref bc_), (.int c_)])) rfl rfl (hb hby d8_8) _ (by rw [len_of S3 M3]; exact k)) ?_
  show own_Go p e below s _ _ _ (T2.setTop (mkF m 9 #[lR a, lR st_, lD dc_, lS, lD ds_, lS, lI pp_, lI ps_, lU] [(.int (64 : Int32)), (.int c_)]))
  have hc4 : ¬ (c_ = (64 : Int32)) := own_ne64 hp60 hp61
  refine own_via (fun _ k => XS.icmpYes X2.here hx rfl (pc0 := 9) (pc' := 129) rfl (hb hby d8_9) rfl (Jvm.Free.XT.ii_ne_t hc4) (by decide) (by decide) k) ?_
  show own_Go p e below s _ _ _ (T2.setTop (mkF m 129 #[lR a, lR st_, lD dc_, lS, lD ds_, lS, lI pp_, lI ps_, lU] []))
  refine own_via (fun _ k => XS.aloadN X2.here hx rfl (hb hby d8_129) rfl rfl k) ?_
  show own_Go p e below s _ _ _ (T2.setTop (mkF m 130 #[lR a, lR st_, lD dc_, lS, lD ds_, lS, lI pp_, lI ps_, lU] [(.ref st_)]))
  refine own_via (fun _ k => XS.iconst X2.here hx rfl (hb hby d8_130) k) ?_
  show own_Go p e below s _ _ _ (T2.setTop (mkF m 131 #[lR a, lR st_, lD dc_, lS, lD ds_, lS, lI pp_, lI ps_, lU] [(.int (0 : Int32)), (.ref st_)]))
  refine own_via (fun _ k => XS.aloadN X2.here hx rfl (hb hby d8_131) rfl rfl k) ?_
  show own_Go p e below s _ _ _ (T2.setTop (mkF m 132 #[lR a, lR st_, lD dc_, lS, lD ds_, lS, lI pp_, lI ps_, lU] [(.ref a), (.int (0 : Int32)), (.ref st_)]))
  obtain ⟨T5, X5, e5, st5⟩ := getF X2 hx hZ hown (host := "") (Or.inl (hwi hw 40 rfl)) Via.refl e2 F_states_a (g := (mkF m 132 #[lR a, lR st_, lD dc_, lS, lD ds_, lS, lI pp_, lI ps_, lU] [(.ref a), (.int (0 : Int32)), (.ref st_)])) rfl rfl (hb hby d8_132)
  refine own_via st5 ?_
  show own_Go p e below s _ _ _ (T5.setTop (mkF m 135 #[lR a, lR st_, lD dc_, lS, lD ds_, lS, lI pp_, lI ps_, lU] [(.ref bs_), (.int (0 : Int32)), (.ref st_)]))
  refine own_via (fun _ k => XS.aloadN X5.here hx rfl (hb hby d8_135) rfl rfl k) ?_
  show own_Go p e below s _ _ _ (T5.setTop (mkF m 136 #[lR a, lR st_, lD dc_, lS, lD ds_, lS, lI pp_, lI ps_, lU] [(.ref a), (.ref bs_), (.int (0 : Int32)), (.ref st_)]))
  obtain ⟨T6, X6, e6, st6⟩ := getF X5 hx hZ hown (host := "") (Or.inl (hwi hw 70 rfl)) Via.refl e5 F_count_a (g := (mkF m 136 #[lR a, lR st_, lD dc_, lS, lD ds_, lS, lI pp_, lI ps_, lU] [(.ref a), (.ref bs_), (.int (0 : Int32)), (.ref st_)])) rfl rfl (hb hby d8_136)
  refine own_via st6 ?_
  show own_Go p e below s _ _ _ (T6.setTop (mkF m 139 #[lR a, lR st_, lD dc_, lS, lD ds_, lS, lI pp_, lI ps_, lU] [(.int c_), (.ref bs_), (.int (0 : Int32)), (.ref st_)]))
  refine own_via (fun _ k => XS.aloadN X6.here hx rfl (hb hby d8_139) rfl rfl k) ?_
  show own_Go p e below s _ _ _ (T6.setTop (mkF m 140 #[lR a, lR st_, lD dc_, lS, lD ds_, lS, lI pp_, lI ps_, lU] [(.ref a), (.int c_), (.ref bs_), (.int (0 : Int32)), (.ref st_)]))
  obtain ⟨T7, X7, e7, st7⟩ := getF X6 hx hZ hown (host := "") (Or.inl (hwi hw 11 rfl)) Via.refl e6 F_width_a (g := (mkF m 140 #[lR a, lR st_, lD dc_, lS, lD ds_, lS, lI pp_, lI ps_, lU] [(.ref a), (.int c_), (.ref bs_), (.int (0 : Int32)), (.ref st_)])) rfl rfl (hb hby d8_140)
  refine own_via st7 ?_
  show own_Go p e below s _ _ _ (T7.setTop (mkF m 143 #[lR a, lR st_, lD dc_, lS, lD ds_, lS, lI pp_, lI ps_, lU] [(.int (1 : Int32)), (.int c_), (.ref bs_), (.int (0 : Int32)), (.ref st_)]))
  refine own_via (fun _ k => XS.imul X7.here hx rfl (hb hby d8_143) rfl k) ?_
  show own_Go p e below s _ _ _ (T7.setTop (mkF m 144 #[lR a, lR st_, lD dc_, lS, lD ds_, lS, lI pp_, lI ps_, lU] [(.int (c_ * (1 : Int32))), (.ref bs_), (.int (0 : Int32)), (.ref st_)]))
  rw [show (c_ * (1 : Int32)) = c_ from (Int32.mul_one c_)]
  show own_Go p e below s _ _ _ (T7.setTop (mkF m 144 #[lR a, lR st_, lD dc_, lS, lD ds_, lS, lI pp_, lI ps_, lU] [(.int c_), (.ref bs_), (.int (0 : Int32)), (.ref st_)]))
  refine own_via (fun _ k => XS.aloadN X7.here hx rfl (hb hby d8_144) rfl rfl k) ?_
  show own_Go p e below s _ _ _ (T7.setTop (mkF m 145 #[lR a, lR st_, lD dc_, lS, lD ds_, lS, lI pp_, lI ps_, lU] [(.ref a), (.int c_), (.ref bs_), (.int (0 : Int32)), (.ref st_)]))
  obtain ⟨T8, X8, e8, st8⟩ := getF X7 hx hZ hown (host := "") (Or.inl (hwi hw 11 rfl)) Via.refl e7 F_width_a (g := (mkF m 145 #[lR a, lR st_, lD dc_, lS, lD ds_, lS, lI pp_, lI ps_, lU] [(.ref a), (.int c_), (.ref bs_), (.int (0 : Int32)), (.ref st_)])) rfl rfl (hb hby d8_145)
  refine own_via st8 ?_
  show own_Go p e below s _ _ _ (T8.setTop (mkF m 148 #[lR a, lR st_, lD dc_, lS, lD ds_, lS, lI pp_, lI ps_, lU] [(.int (1 : Int32)), (.int c_), (.ref bs_), (.int (0 : Int32)), (.ref st_)]))
  obtain ⟨T9, h9, L9, X9, e9, N9, Kq9, V9, st9⟩ := cpA X8 hx hZ hown (hwi hw 72 rfl) (hwi hw 75 rfl) (hwi hw 73 rfl) (hwi hw 74 rfl) e8 V_st_ V_bs_ (Or.inl ⟨rfl, rfl⟩) (sp := (0 : Int32)) (dp := c_) (nn := (1 : Int32)) (us := [vq_.getD 0 (.long (0 : Int64))]) (by decide) (own_nn hp60).1 (by decide) (by decide) (by rw [(own_nn hp60).2]; show i_ + 1 ≤ 64; have := hp61; omega) rfl (by rw [(own_nn hp60).2, hp62]; show i_ + 1 ≤ 4; have := hp61; omega) N0 g_bs_ (g := (mkF m 148 #[lR a, lR st_, lD dc_, lS, lD ds_, lS, lI pp_, lI ps_, lU] [(.int (1 : Int32)), (.int c_), (.ref bs_), (.int (0 : Int32)), (.ref st_)])) rfl (by rw [hml]; rfl) rfl (hb hby d8_148) (by decide) (W := 0) (by show 2 * 0 + _ ≤ _; exact Nat.le_of_eq rfl) (by decide)
  have Z9 : n0 ≤ h9.size := Nat.le_trans Z0 Kq9.1
  have K9 : Keep h0 h9 [a, bs_, bc_, bt_, bl_, bp_, bu_] := K0.trans Kq9 (allS (Or.inl (List.mem_of_getElem? (i := 1) rfl)) all0)
  generalize hvn9 : (vbs_.take (c_).toNatClampNeg ++ [vq_.getD 0 (.long (0 : Int64))] ++ vbs_.drop ((c_).toNatClampNeg + ((1 : Int32)).toNatClampNeg)) = vn9 at V9
  refine own_via st9 ?_
  show own_Go p e below s _ _ _ (T9.setTop (mkF m 151 #[lR a, lR st_, lD dc_, lS, lD ds_, lS, lI pp_, lI ps_, lU] []))
  refine own_via (fun _ k => XS.aloadN X9.here hx rfl (hb hby d8_151) rfl rfl k) ?_
  show own_Go p e below s _ _ _ (T9.setTop (mkF m 152 #[lR a, lR st_, lD dc_, lS, lD ds_, lS, lI pp_, lI ps_, lU] [(.ref a)]))
  have F10 := (F_costs_a.keep Kq9 (ninS ne_a_bs_ nin0))
  obtain ⟨T11, X11, e11, st11⟩ := getF X9 hx hZ hown (host := "") (Or.inl (hwi hw 43 rfl)) Via.refl e9 F10 (g := (mkF m 152 #[lR a, lR st_, lD dc_, lS, lD ds_, lS, lI pp_, lI ps_, lU] [(.ref a)])) rfl rfl (hb hby d8_152)
  refine own_via st11 ?_
  show own_Go p e below s _ _ _ (T11.setTop (mkF m 155 #[lR a, lR st_, lD dc_, lS, lD ds_, lS, lI pp_, lI ps_, lU] [(.ref bc_)]))
  refine own_via (fun _ k => XS.aloadN X11.here hx rfl (hb hby d8_155) rfl rfl k) ?_
  show own_Go p e below s _ _ _ (T11.setTop (mkF m 156 #[lR a, lR st_, lD dc_, lS, lD ds_, lS, lI pp_, lI ps_, lU] [(.ref a), (.ref bc_)]))
  have F12 := (F_count_a.keep Kq9 (ninS ne_a_bs_ nin0))
  obtain ⟨T13, X13, e13, st13⟩ := getF X11 hx hZ hown (host := "") (Or.inl (hwi hw 70 rfl)) Via.refl e11 F12 (g := (mkF m 156 #[lR a, lR st_, lD dc_, lS, lD ds_, lS, lI pp_, lI ps_, lU] [(.ref a), (.ref bc_)])) rfl rfl (hb hby d8_156)
  refine own_via st13 ?_
  show own_Go p e below s _ _ _ (T13.setTop (mkF m 159 #[lR a, lR st_, lD dc_, lS, lD ds_, lS, lI pp_, lI ps_, lU] [(.int c_), (.ref bc_)]))
  refine own_via (fun _ k => XS.dloadN X13.here hx rfl (hb hby d8_159) rfl k) ?_
  show own_Go p e below s _ _ _ (T13.setTop (mkF m 160 #[lR a, lR st_, lD dc_, lS, lD ds_, lS, lI pp_, lI ps_, lU] [(.double dc_), (.int c_), (.ref bc_)]))
  have F15 := (V_bc_.keep Kq9 (ninS (Ne.symm ne_bs__bc_) nin0))
  obtain ⟨cl14, Ar14, q14, S14, M14, H14, G14⟩ := (id F15)
  have hin14 : ¬ (c_ < 0 ∨ cl14.slots.size ≤ (c_).toNatClampNeg) := inb_of S14 ⟨(own_nn hp60).1, own_lt64 hp60 hp61⟩
  obtain ⟨T14, h14, X14, e14, W14, st14⟩ := stD X13 hx hZ e13 Ar14 (j := c_) hin14 (g := (mkF m 160 #[lR a, lR st_, lD dc_, lS, lD ds_, lS, lI pp_, lI ps_, lU] [(.double dc_), (.int c_), (.ref bc_)])) rfl rfl (hb hby d8_160)
  have V14 : Arv Z h14 bc_ kc_ .double (64 : Int32) (vbc_.set i_ (.double dc_)) (.double (0 : UInt64)) := Arv.set Ar14 q14 S14 M14 H14 G14 rfl W14 i_ (own_nn hp60).2 (by rw [hp63]; exact hp61)
  have N14 := Fr.snoc X14 N9 g_bc_
  have Z14 : n0 ≤ h14.size := Nat.le_trans Z9 (Keep.of_wr W14).1
  have K14 : Keep h0 h14 [a, bs_, bc_, bt_, bl_, bp_, bu_] := K9.wr W14 (Or.inl (List.mem_of_getElem? (i := 2) rfl))
  refine own_via st14 ?_
  show own_Go p e below s _ _ _ (T14.setTop (mkF m 161 #[lR a, lR st_, lD dc_, lS, lD ds_, lS, lI pp_, lI ps_, lU] []))
  refine own_via (fun _ k => XS.aloadN X14.here hx rfl (hb hby d8_161) rfl rfl k) ?_
  show own_Go p e below s _ _ _ (T14.setTop (mkF m 162 #[lR a, lR st_, lD dc_, lS, lD ds_, lS, lI pp_, lI ps_, lU] [(.ref a)]))
  have F16 := ((F_stepCosts_a.keep Kq9 (ninS ne_a_bs_ nin0)).other W14 (Or.inl ne_a_bc_))
  obtain ⟨T17, X17, e17, st17⟩ := getF X14 hx hZ hown (host := "") (Or.inl (hwi hw 45 rfl)) Via.refl e14 F16 (g := (mkF m 162 #[lR a, lR st_, lD dc_, lS, lD ds_, lS, lI pp_, lI ps_, lU] [(.ref a)])) rfl rfl (hb hby d8_162)
  refine own_via st17 ?_
  show own_Go p e below s _ _ _ (T17.setTop (mkF m 165 #[lR a, lR st_, lD dc_, lS, lD ds_, lS, lI pp_, lI ps_, lU] [(.ref bt_)]))
  refine own_via (fun _ k => XS.aloadN X17.here hx rfl (hb hby d8_165) rfl rfl k) ?_
  show own_Go p e below s _ _ _ (T17.setTop (mkF m 166 #[lR a, lR st_, lD dc_, lS, lD ds_, lS, lI pp_, lI ps_, lU] [(.ref a), (.ref bt_)]))
  have F18 := (F12.other W14 (Or.inl ne_a_bc_))
  obtain ⟨T19, X19, e19, st19⟩ := getF X17 hx hZ hown (host := "") (Or.inl (hwi hw 70 rfl)) Via.refl e17 F18 (g := (mkF m 166 #[lR a, lR st_, lD dc_, lS, lD ds_, lS, lI pp_, lI ps_, lU] [(.ref a), (.ref bt_)])) rfl rfl (hb hby d8_166)
  refine own_via st19 ?_
  show own_Go p e below s _ _ _ (T19.setTop (mkF m 169 #[lR a, lR st_, lD dc_, lS, lD ds_, lS, lI pp_, lI ps_, lU] [(.int c_), (.ref bt_)]))
  refine own_via (fun _ k => XS.dload X19.here hx rfl (hb hby d8_169) rfl k) ?_
  show own_Go p e below s _ _ _ (T19.setTop (mkF m 171 #[lR a, lR st_, lD dc_, lS, lD ds_, lS, lI pp_, lI ps_, lU] [(.double ds_), (.int c_), (.ref bt_)]))
  have F21 := ((V_bt_.keep Kq9 (ninS (Ne.symm ne_bs__bt_) nin0)).other W14 (Ne.symm ne_bc__bt_))
  obtain ⟨cl20, Ar20, q20, S20, M20, H20, G20⟩ := (id F21)
  have hin20 : ¬ (c_ < 0 ∨ cl20.slots.size ≤ (c_).toNatClampNeg) := inb_of S20 ⟨(own_nn hp60).1, own_lt64 hp60 hp61⟩
  obtain ⟨T20, h20, X20, e20, W20, st20⟩ := stD X19 hx hZ e19 Ar20 (j := c_) hin20 (g := (mkF m 171 #[lR a, lR st_, lD dc_, lS, lD ds_, lS, lI pp_, lI ps_, lU] [(.double ds_), (.int c_), (.ref bt_)])) rfl rfl (hb hby d8_171)
  have V20 : Arv Z h20 bt_ kt_ .double (64 : Int32) (vbt_.set i_ (.double ds_)) (.double (0 : UInt64)) := Arv.set Ar20 q20 S20 M20 H20 G20 rfl W20 i_ (own_nn hp60).2 (by rw [hp64]; exact hp61)
  have N20 := Fr.snoc X20 N14 g_bt_
  have Z20 : n0 ≤ h20.size := Nat.le_trans Z14 (Keep.of_wr W20).1
  have K20 : Keep h0 h20 [a, bs_, bc_, bt_, bl_, bp_, bu_] := K14.wr W20 (Or.inl (List.mem_of_getElem? (i := 3) rfl))
  refine own_via st20 ?_
  show own_Go p e below s _ _ _ (T20.setTop (mkF m 172 #[lR a, lR st_, lD dc_, lS, lD ds_, lS, lI pp_, lI ps_, lU] []))
  refine own_via (fun _ k => XS.aloadN X20.here hx rfl (hb hby d8_172) rfl rfl k) ?_
  show own_Go p e below s _ _ _ (T20.setTop (mkF m 173 #[lR a, lR st_, lD dc_, lS, lD ds_, lS, lI pp_, lI ps_, lU] [(.ref a)]))
  have F22 := (((F_lengths_a.keep Kq9 (ninS ne_a_bs_ nin0)).other W14 (Or.inl ne_a_bc_)).other W20 (Or.inl ne_a_bt_))
  obtain ⟨T23, X23, e23, st23⟩ := getF X20 hx hZ hown (host := "") (Or.inl (hwi hw 48 rfl)) Via.refl e20 F22 (g := (mkF m 173 #[lR a, lR st_, lD dc_, lS, lD ds_, lS, lI pp_, lI ps_, lU] [(.ref a)])) rfl rfl (hb hby d8_173)
  refine own_via st23 ?_
  show own_Go p e below s _ _ _ (T23.setTop (mkF m 176 #[lR a, lR st_, lD dc_, lS, lD ds_, lS, lI pp_, lI ps_, lU] [(.ref bl_)]))
  refine own_via (fun _ k => XS.aloadN X23.here hx rfl (hb hby d8_176) rfl rfl k) ?_
  show own_Go p e below s _ _ _ (T23.setTop (mkF m 177 #[lR a, lR st_, lD dc_, lS, lD ds_, lS, lI pp_, lI ps_, lU] [(.ref a), (.ref bl_)]))
  have F24 := (F18.other W20 (Or.inl ne_a_bt_))
  obtain ⟨T25, X25, e25, st25⟩ := getF X23 hx hZ hown (host := "") (Or.inl (hwi hw 70 rfl)) Via.refl e23 F24 (g := (mkF m 177 #[lR a, lR st_, lD dc_, lS, lD ds_, lS, lI pp_, lI ps_, lU] [(.ref a), (.ref bl_)])) rfl rfl (hb hby d8_177)
  refine own_via st25 ?_
  show own_Go p e below s _ _ _ (T25.setTop (mkF m 180 #[lR a, lR st_, lD dc_, lS, lD ds_, lS, lI pp_, lI ps_, lU] [(.int c_), (.ref bl_)]))
  refine own_via (fun _ k => XS.iload X25.here hx rfl (hb hby d8_180) rfl k) ?_
  show own_Go p e below s _ _ _ (T25.setTop (mkF m 182 #[lR a, lR st_, lD dc_, lS, lD ds_, lS, lI pp_, lI ps_, lU] [(.int pp_), (.int c_), (.ref bl_)]))
  have hc26 : ¬ (pp_ < (0 : Int32)) := hp68.1
  refine own_via (fun _ k => XS.ifYes X25.here hx rfl (pc0 := 182) (pc' := 189) rfl (hb hby d8_182) rfl (Jvm.Free.XT.i0_ge_t hc26) (by decide) (by decide) k) ?_
  show own_Go p e below s _ _ _ (T25.setTop (mkF m 189 #[lR a, lR st_, lD dc_, lS, lD ds_, lS, lI pp_, lI ps_, lU] [(.int c_), (.ref bl_)]))
  refine own_via (fun _ k => XS.aloadN X25.here hx rfl (hb hby d8_189) rfl rfl k) ?_
  show own_Go p e below s _ _ _ (T25.setTop (mkF m 190 #[lR a, lR st_, lD dc_, lS, lD ds_, lS, lI pp_, lI ps_, lU] [(.ref a), (.int c_), (.ref bl_)]))
  obtain ⟨T27, X27, e27, st27⟩ := getF X25 hx hZ hown (host := "") (Or.inl (hwi hw 48 rfl)) Via.refl e25 F22 (g := (mkF m 190 #[lR a, lR st_, lD dc_, lS, lD ds_, lS, lI pp_, lI ps_, lU] [(.ref a), (.int c_), (.ref bl_)])) rfl rfl (hb hby d8_190)
  refine own_via st27 ?_
  show own_Go p e below s _ _ _ (T27.setTop (mkF m 193 #[lR a, lR st_, lD dc_, lS, lD ds_, lS, lI pp_, lI ps_, lU] [(.ref bl_), (.int c_), (.ref bl_)]))
  refine own_via (fun _ k => XS.iload X27.here hx rfl (hb hby d8_193) rfl k) ?_
  show own_Go p e below s _ _ _ (T27.setTop (mkF m 195 #[lR a, lR st_, lD dc_, lS, lD ds_, lS, lI pp_, lI ps_, lU] [(.int pp_), (.ref bl_), (.int c_), (.ref bl_)]))
  have F29 := (((V_bl_.keep Kq9 (ninS (Ne.symm ne_bs__bl_) nin0)).other W14 (Ne.symm ne_bc__bl_)).other W20 (Ne.symm ne_bt__bl_))
  obtain ⟨cl28, Ar28, q28, S28, M28, H28, G28⟩ := (id F29)
  have hin28 : ¬ (pp_ < 0 ∨ cl28.slots.size ≤ (pp_).toNatClampNeg) := inb_of S28 hp68
  have hat28 : cl28.slots[(pp_).toNatClampNeg]? = some (.int u_) := Has.at H28 hin28 hp69
  refine own_via (fun _ k => X27.iaload hx (j := pp_) (v := (.int u_)) (by rw [e27]; exact Ar28.1) (State.isArrayOf_alike hZ.alike Ar28.2.1) Ar28.2.2 hin28 hat28 (g := (mkF m 195 #[lR a, lR st_, lD dc_, lS, lD ds_, lS, lI pp_, lI ps_, lU] [(.int pp_), (.ref bl_), (.int c_), (.ref bl_)])) rfl rfl (hb hby d8_195) _ k) ?_
  show own_Go p e below s _ _ _ (T27.setTop (mkF m 196 #[lR a, lR st_, lD dc_, lS, lD ds_, lS, lI pp_, lI ps_, lU] [(.int u_), (.int c_), (.ref bl_)]))
  refine own_via (fun _ k => XS.iconst X27.here hx rfl (hb hby d8_196) k) ?_
  show own_Go p e below s _ _ _ (T27.setTop (mkF m 197 #[lR a, lR st_, lD dc_, lS, lD ds_, lS, lI pp_, lI ps_, lU] [(.int (1 : Int32)), (.int u_), (.int c_), (.ref bl_)]))
  refine own_via (fun _ k => XS.iadd X27.here hx rfl (hb hby d8_197) rfl k) ?_
  show own_Go p e below s _ _ _ (T27.setTop (mkF m 198 #[lR a, lR st_, lD dc_, lS, lD ds_, lS, lI pp_, lI ps_, lU] [(.int (u_ + (1 : Int32))), (.int c_), (.ref bl_)]))
  obtain ⟨cl30, Ar30, q30, S30, M30, H30, G30⟩ := (id F29)
  have hin30 : ¬ (c_ < 0 ∨ cl30.slots.size ≤ (c_).toNatClampNeg) := inb_of S30 ⟨(own_nn hp60).1, own_lt64 hp60 hp61⟩
  obtain ⟨T30, h30, X30, e30, W30, st30⟩ := stI X27 hx hZ e27 Ar30 (j := c_) hin30 (g := (mkF m 198 #[lR a, lR st_, lD dc_, lS, lD ds_, lS, lI pp_, lI ps_, lU] [(.int (u_ + (1 : Int32))), (.int c_), (.ref bl_)])) rfl rfl (hb hby d8_198)
  have V30 : Arv Z h30 bl_ kl_ .int (64 : Int32) (vbl_.set i_ (.int (u_ + (1 : Int32)))) (.int (0 : Int32)) := Arv.set Ar30 q30 S30 M30 H30 G30 rfl W30 i_ (own_nn hp60).2 (by rw [hp65]; exact hp61)
  have N30 := Fr.snoc X30 N20 g_bl_
  have Z30 : n0 ≤ h30.size := Nat.le_trans Z20 (Keep.of_wr W30).1
  have K30 : Keep h0 h30 [a, bs_, bc_, bt_, bl_, bp_, bu_] := K20.wr W30 (Or.inl (List.mem_of_getElem? (i := 4) rfl))
  refine own_via st30 ?_
  show own_Go p e below s _ _ _ (T30.setTop (mkF m 199 #[lR a, lR st_, lD dc_, lS, lD ds_, lS, lI pp_, lI ps_, lU] []))
  refine own_via (fun _ k => XS.aloadN X30.here hx rfl (hb hby d8_199) rfl rfl k) ?_
  show own_Go p e below s _ _ _ (T30.setTop (mkF m 200 #[lR a, lR st_, lD dc_, lS, lD ds_, lS, lI pp_, lI ps_, lU] [(.ref a)]))
  have F31 := ((((F_parents_a.keep Kq9 (ninS ne_a_bs_ nin0)).other W14 (Or.inl ne_a_bc_)).other W20 (Or.inl ne_a_bt_)).other W30 (Or.inl ne_a_bl_))
  obtain ⟨T32, X32, e32, st32⟩ := getF X30 hx hZ hown (host := "") (Or.inl (hwi hw 50 rfl)) Via.refl e30 F31 (g := (mkF m 200 #[lR a, lR st_, lD dc_, lS, lD ds_, lS, lI pp_, lI ps_, lU] [(.ref a)])) rfl rfl (hb hby d8_200)
  refine own_via st32 ?_
  show own_Go p e below s _ _ _ (T32.setTop (mkF m 203 #[lR a, lR st_, lD dc_, lS, lD ds_, lS, lI pp_, lI ps_, lU] [(.ref bp_)]))
  refine own_via (fun _ k => XS.aloadN X32.here hx rfl (hb hby d8_203) rfl rfl k) ?_
  show own_Go p e below s _ _ _ (T32.setTop (mkF m 204 #[lR a, lR st_, lD dc_, lS, lD ds_, lS, lI pp_, lI ps_, lU] [(.ref a), (.ref bp_)]))
  have F33 := (F24.other W30 (Or.inl ne_a_bl_))
  obtain ⟨T34, X34, e34, st34⟩ := getF X32 hx hZ hown (host := "") (Or.inl (hwi hw 70 rfl)) Via.refl e32 F33 (g := (mkF m 204 #[lR a, lR st_, lD dc_, lS, lD ds_, lS, lI pp_, lI ps_, lU] [(.ref a), (.ref bp_)])) rfl rfl (hb hby d8_204)
  refine own_via st34 ?_
  show own_Go p e below s _ _ _ (T34.setTop (mkF m 207 #[lR a, lR st_, lD dc_, lS, lD ds_, lS, lI pp_, lI ps_, lU] [(.int c_), (.ref bp_)]))
  refine own_via (fun _ k => XS.iload X34.here hx rfl (hb hby d8_207) rfl k) ?_
  show own_Go p e below s _ _ _ (T34.setTop (mkF m 209 #[lR a, lR st_, lD dc_, lS, lD ds_, lS, lI pp_, lI ps_, lU] [(.int pp_), (.int c_), (.ref bp_)]))
  have F36 := ((((V_bp_.keep Kq9 (ninS (Ne.symm ne_bs__bp_) nin0)).other W14 (Ne.symm ne_bc__bp_)).other W20 (Ne.symm ne_bt__bp_)).other W30 (Ne.symm ne_bl__bp_))
  obtain ⟨cl35, Ar35, q35, S35, M35, H35, G35⟩ := (id F36)
  have hin35 : ¬ (c_ < 0 ∨ cl35.slots.size ≤ (c_).toNatClampNeg) := inb_of S35 ⟨(own_nn hp60).1, own_lt64 hp60 hp61⟩
  obtain ⟨T35, h35, X35, e35, W35, st35⟩ := stI X34 hx hZ e34 Ar35 (j := c_) hin35 (g := (mkF m 209 #[lR a, lR st_, lD dc_, lS, lD ds_, lS, lI pp_, lI ps_, lU] [(.int pp_), (.int c_), (.ref bp_)])) rfl rfl (hb hby d8_209)
  have V35 : Arv Z h35 bp_ kp_ .int (64 : Int32) (vbp_.set i_ (.int pp_)) (.int (0 : Int32)) := Arv.set Ar35 q35 S35 M35 H35 G35 rfl W35 i_ (own_nn hp60).2 (by rw [hp66]; exact hp61)
  have N35 := Fr.snoc X35 N30 g_bp_
  have Z35 : n0 ≤ h35.size := Nat.le_trans Z30 (Keep.of_wr W35).1
  have K35 : Keep h0 h35 [a, bs_, bc_, bt_, bl_, bp_, bu_] := K30.wr W35 (Or.inl (List.mem_of_getElem? (i := 5) rfl))
  refine own_via st35 ?_
  show own_Go p e below s _ _ _ (T35.setTop (mkF m 210 #[lR a, lR st_, lD dc_, lS, lD ds_, lS, lI pp_, lI ps_, lU] []))
  refine own_via (fun _ k => XS.aloadN X35.here hx rfl (hb hby d8_210) rfl rfl k) ?_
  show own_Go p e below s _ _ _ (T35.setTop (mkF m 211 #[lR a, lR st_, lD dc_, lS, lD ds_, lS, lI pp_, lI ps_, lU] [(.ref a)]))
  have F37 := (((((F_steps_a.keep Kq9 (ninS ne_a_bs_ nin0)).other W14 (Or.inl ne_a_bc_)).other W20 (Or.inl ne_a_bt_)).other W30 (Or.inl ne_a_bl_)).other W35 (Or.inl ne_a_bp_))
  obtain ⟨T38, X38, e38, st38⟩ := getF X35 hx hZ hown (host := "") (Or.inl (hwi hw 52 rfl)) Via.refl e35 F37 (g := (mkF m 211 #[lR a, lR st_, lD dc_, lS, lD ds_, lS, lI pp_, lI ps_, lU] [(.ref a)])) rfl rfl (hb hby d8_211)
  refine own_via st38 ?_
  show own_Go p e below s _ _ _ (T38.setTop (mkF m 214 #[lR a, lR st_, lD dc_, lS, lD ds_, lS, lI pp_, lI ps_, lU] [(.ref bu_)]))
  refine own_via (fun _ k => XS.aloadN X38.here hx rfl (hb hby d8_214) rfl rfl k) ?_
  show own_Go p e below s _ _ _ (T38.setTop (mkF m 215 #[lR a, lR st_, lD dc_, lS, lD ds_, lS, lI pp_, lI ps_, lU] [(.ref a), (.ref bu_)]))
  have F39 := (F33.other W35 (Or.inl ne_a_bp_))
  obtain ⟨T40, X40, e40, st40⟩ := getF X38 hx hZ hown (host := "") (Or.inl (hwi hw 70 rfl)) Via.refl e38 F39 (g := (mkF m 215 #[lR a, lR st_, lD dc_, lS, lD ds_, lS, lI pp_, lI ps_, lU] [(.ref a), (.ref bu_)])) rfl rfl (hb hby d8_215)
  refine own_via st40 ?_
  show own_Go p e below s _ _ _ (T40.setTop (mkF m 218 #[lR a, lR st_, lD dc_, lS, lD ds_, lS, lI pp_, lI ps_, lU] [(.int c_), (.ref bu_)]))
  refine own_via (fun _ k => XS.iload X40.here hx rfl (hb hby d8_218) rfl k) ?_
  show own_Go p e below s _ _ _ (T40.setTop (mkF m 220 #[lR a, lR st_, lD dc_, lS, lD ds_, lS, lI pp_, lI ps_, lU] [(.int ps_), (.int c_), (.ref bu_)]))
  have F42 := (((((V_bu_.keep Kq9 (ninS (Ne.symm ne_bs__bu_) nin0)).other W14 (Ne.symm ne_bc__bu_)).other W20 (Ne.symm ne_bt__bu_)).other W30 (Ne.symm ne_bl__bu_)).other W35 (Ne.symm ne_bp__bu_))
  obtain ⟨cl41, Ar41, q41, S41, M41, H41, G41⟩ := (id F42)
  have hin41 : ¬ (c_ < 0 ∨ cl41.slots.size ≤ (c_).toNatClampNeg) := inb_of S41 ⟨(own_nn hp60).1, own_lt64 hp60 hp61⟩
  obtain ⟨T41, h41, X41, e41, W41, st41⟩ := stI X40 hx hZ e40 Ar41 (j := c_) hin41 (g := (mkF m 220 #[lR a, lR st_, lD dc_, lS, lD ds_, lS, lI pp_, lI ps_, lU] [(.int ps_), (.int c_), (.ref bu_)])) rfl rfl (hb hby d8_220)
  have V41 : Arv Z h41 bu_ ku_ .int (64 : Int32) (vbu_.set i_ (.int ps_)) (.int (0 : Int32)) := Arv.set Ar41 q41 S41 M41 H41 G41 rfl W41 i_ (own_nn hp60).2 (by rw [hp67]; exact hp61)
  have N41 := Fr.snoc X41 N35 g_bu_
  have Z41 : n0 ≤ h41.size := Nat.le_trans Z35 (Keep.of_wr W41).1
  have K41 : Keep h0 h41 [a, bs_, bc_, bt_, bl_, bp_, bu_] := K35.wr W41 (Or.inl (List.mem_of_getElem? (i := 6) rfl))
  refine own_via st41 ?_
  show own_Go p e below s _ _ _ (T41.setTop (mkF m 221 #[lR a, lR st_, lD dc_, lS, lD ds_, lS, lI pp_, lI ps_, lU] []))
  refine own_via (fun _ k => XS.aloadN X41.here hx rfl (hb hby d8_221) rfl rfl k) ?_
  show own_Go p e below s _ _ _ (T41.setTop (mkF m 222 #[lR a, lR st_, lD dc_, lS, lD ds_, lS, lI pp_, lI ps_, lU] [(.ref a)]))
  refine own_via (fun _ k => XS.dup X41.here hx rfl (hb hby d8_222) rfl rfl k) ?_
  show own_Go p e below s _ _ _ (T41.setTop (mkF m 223 #[lR a, lR st_, lD dc_, lS, lD ds_, lS, lI pp_, lI ps_, lU] [(.ref a), (.ref a)]))
  have F43 := (F39.other W41 (Or.inl ne_a_bu_))
  obtain ⟨T44, X44, e44, st44⟩ := getF X41 hx hZ hown (host := "") (Or.inl (hwi hw 70 rfl)) Via.refl e41 F43 (g := (mkF m 223 #[lR a, lR st_, lD dc_, lS, lD ds_, lS, lI pp_, lI ps_, lU] [(.ref a), (.ref a)])) rfl rfl (hb hby d8_223)
  refine own_via st44 ?_
  show own_Go p e below s _ _ _ (T44.setTop (mkF m 226 #[lR a, lR st_, lD dc_, lS, lD ds_, lS, lI pp_, lI ps_, lU] [(.int c_), (.ref a)]))
  refine own_via (fun _ k => XS.dupX1 X44.here hx rfl (hb hby d8_226) rfl rfl rfl k) ?_
  show own_Go p e below s _ _ _ (T44.setTop (mkF m 227 #[lR a, lR st_, lD dc_, lS, lD ds_, lS, lI pp_, lI ps_, lU] [(.int c_), (.ref a), (.int c_)]))
  refine own_via (fun _ k => XS.iconst X44.here hx rfl (hb hby d8_227) k) ?_
  show own_Go p e below s _ _ _ (T44.setTop (mkF m 228 #[lR a, lR st_, lD dc_, lS, lD ds_, lS, lI pp_, lI ps_, lU] [(.int (1 : Int32)), (.int c_), (.ref a), (.int c_)]))
  refine own_via (fun _ k => XS.iadd X44.here hx rfl (hb hby d8_228) rfl k) ?_
  show own_Go p e below s _ _ _ (T44.setTop (mkF m 229 #[lR a, lR st_, lD dc_, lS, lD ds_, lS, lI pp_, lI ps_, lU] [(.int (c_ + (1 : Int32))), (.ref a), (.int c_)]))
  have F45 := ((((((E_a.keep Kq9).wr W14).wr W20).wr W30).wr W35).wr W41)
  obtain ⟨T46, h46, X46, e46, W46, st46⟩ := putF X44 hx hZ hown (host := "") (Or.inl (hwi hw 70 rfl)) Via.refl e44 F43 F45 (Or.inl (hwi hw 71 rfl)) (hwi hw 3 rfl) (ty := .int) (by decide) rfl rfl (g := (mkF m 229 #[lR a, lR st_, lD dc_, lS, lD ds_, lS, lI pp_, lI ps_, lU] [(.int (c_ + (1 : Int32))), (.ref a), (.int c_)])) rfl rfl (hb hby d8_229)
  have N46 := Fr.snoc X46 N41 g_a
  have Fw46 := F43.same W46
  have Z46 : n0 ≤ h46.size := Nat.le_trans Z41 (Keep.of_wr W46).1
  have K46 : Keep h0 h46 [a, bs_, bc_, bt_, bl_, bp_, bu_] := K41.wr W46 (Or.inl (List.mem_of_getElem? (i := 0) rfl))
  refine own_via st46 ?_
  show own_Go p e below s _ _ _ (T46.setTop (mkF m 232 #[lR a, lR st_, lD dc_, lS, lD ds_, lS, lI pp_, lI ps_, lU] [(.int c_)]))
  have F47 := (F45.wr W46)
  have F48 := (((((((F_width_a.keep Kq9 (ninS ne_a_bs_ nin0)).other W14 (Or.inl ne_a_bc_)).other W20 (Or.inl ne_a_bt_)).other W30 (Or.inl ne_a_bl_)).other W35 (Or.inl ne_a_bp_)).other W41 (Or.inl ne_a_bu_)).other W46 (Or.inr (sn0 hw)))
  have F49 := (((((((F_lengthLimit_a.keep Kq9 (ninS ne_a_bs_ nin0)).other W14 (Or.inl ne_a_bc_)).other W20 (Or.inl ne_a_bt_)).other W30 (Or.inl ne_a_bl_)).other W35 (Or.inl ne_a_bp_)).other W41 (Or.inl ne_a_bu_)).other W46 (Or.inr (sn1 hw)))
  have F50 := (((((((F_states_a.keep Kq9 (ninS ne_a_bs_ nin0)).other W14 (Or.inl ne_a_bc_)).other W20 (Or.inl ne_a_bt_)).other W30 (Or.inl ne_a_bl_)).other W35 (Or.inl ne_a_bp_)).other W41 (Or.inl ne_a_bu_)).other W46 (Or.inr (sn2 hw)))
  have F51 := ((((((F10.other W14 (Or.inl ne_a_bc_)).other W20 (Or.inl ne_a_bt_)).other W30 (Or.inl ne_a_bl_)).other W35 (Or.inl ne_a_bp_)).other W41 (Or.inl ne_a_bu_)).other W46 (Or.inr (sn3 hw)))
  have F52 := (((((F16.other W20 (Or.inl ne_a_bt_)).other W30 (Or.inl ne_a_bl_)).other W35 (Or.inl ne_a_bp_)).other W41 (Or.inl ne_a_bu_)).other W46 (Or.inr (sn4 hw)))
  have F53 := ((((F22.other W30 (Or.inl ne_a_bl_)).other W35 (Or.inl ne_a_bp_)).other W41 (Or.inl ne_a_bu_)).other W46 (Or.inr (sn5 hw)))
  have F54 := (((F31.other W35 (Or.inl ne_a_bp_)).other W41 (Or.inl ne_a_bu_)).other W46 (Or.inr (sn6 hw)))
  have F55 := ((F37.other W41 (Or.inl ne_a_bu_)).other W46 (Or.inr (sn7 hw)))
  have F56 := (((((((F_superseded_a.keep Kq9 (ninS ne_a_bs_ nin0)).other W14 (Or.inl ne_a_bc_)).other W20 (Or.inl ne_a_bt_)).other W30 (Or.inl ne_a_bl_)).other W35 (Or.inl ne_a_bp_)).other W41 (Or.inl ne_a_bu_)).other W46 (Or.inr (sn8 hw)))
  have F57 := (((((((F_nextKept_a.keep Kq9 (ninS ne_a_bs_ nin0)).other W14 (Or.inl ne_a_bc_)).other W20 (Or.inl ne_a_bt_)).other W30 (Or.inl ne_a_bl_)).other W35 (Or.inl ne_a_bp_)).other W41 (Or.inl ne_a_bu_)).other W46 (Or.inr (sn9 hw)))
  have F58 := (((((((F_table_a.keep Kq9 (ninS ne_a_bs_ nin0)).other W14 (Or.inl ne_a_bc_)).other W20 (Or.inl ne_a_bt_)).other W30 (Or.inl ne_a_bl_)).other W35 (Or.inl ne_a_bp_)).other W41 (Or.inl ne_a_bu_)).other W46 (Or.inr (sn10 hw)))
  have F59 := (((((((F_frontierCosts_a.keep Kq9 (ninS ne_a_bs_ nin0)).other W14 (Or.inl ne_a_bc_)).other W20 (Or.inl ne_a_bt_)).other W30 (Or.inl ne_a_bl_)).other W35 (Or.inl ne_a_bp_)).other W41 (Or.inl ne_a_bu_)).other W46 (Or.inr (sn11 hw)))
  have F60 := (((((((F_frontierRanks_a.keep Kq9 (ninS ne_a_bs_ nin0)).other W14 (Or.inl ne_a_bc_)).other W20 (Or.inl ne_a_bt_)).other W30 (Or.inl ne_a_bl_)).other W35 (Or.inl ne_a_bp_)).other W41 (Or.inl ne_a_bu_)).other W46 (Or.inr (sn12 hw)))
  have F61 := (((((((F_waiting_a.keep Kq9 (ninS ne_a_bs_ nin0)).other W14 (Or.inl ne_a_bc_)).other W20 (Or.inl ne_a_bt_)).other W30 (Or.inl ne_a_bl_)).other W35 (Or.inl ne_a_bp_)).other W41 (Or.inl ne_a_bu_)).other W46 (Or.inr (sn13 hw)))
  have F62 := (((((((F_waitingWithin_a.keep Kq9 (ninS ne_a_bs_ nin0)).other W14 (Or.inl ne_a_bc_)).other W20 (Or.inl ne_a_bt_)).other W30 (Or.inl ne_a_bl_)).other W35 (Or.inl ne_a_bp_)).other W41 (Or.inl ne_a_bu_)).other W46 (Or.inr (sn14 hw)))
  have F63 := (((((((F_held_a.keep Kq9 (ninS ne_a_bs_ nin0)).other W14 (Or.inl ne_a_bc_)).other W20 (Or.inl ne_a_bt_)).other W30 (Or.inl ne_a_bl_)).other W35 (Or.inl ne_a_bp_)).other W41 (Or.inl ne_a_bu_)).other W46 (Or.inr (sn15 hw)))
  have F64 := ((((((V9.other W14 ne_bs__bc_).other W20 ne_bs__bt_).other W30 ne_bs__bl_).other W35 ne_bs__bp_).other W41 ne_bs__bu_).other W46 (Ne.symm ne_a_bs_))
  have F65 := (((((V14.other W20 ne_bc__bt_).other W30 ne_bc__bl_).other W35 ne_bc__bp_).other W41 ne_bc__bu_).other W46 (Ne.symm ne_a_bc_))
  have F66 := ((((V20.other W30 ne_bt__bl_).other W35 ne_bt__bp_).other W41 ne_bt__bu_).other W46 (Ne.symm ne_a_bt_))
  have F67 := (((V30.other W35 ne_bl__bp_).other W41 ne_bl__bu_).other W46 (Ne.symm ne_a_bl_))
  have F68 := ((V35.other W41 ne_bp__bu_).other W46 (Ne.symm ne_a_bp_))
  have F69 := (V41.other W46 (Ne.symm ne_a_bu_))
  exact own_goI X46 hx Bd.returns (hb hby d8_232) Bd.notSynchronized (by decide) (by decide) (by rw [e46]; exact ⟨vn9, (vbt_.set i_ (.double ds_)), (vbp_.set i_ (.int pp_)), (vbu_.set i_ (.int ps_)), rfl, N46, K46, F47, F48, F49, Fw46, F50, F51, F52, F53, F54, F55, F56, F57, F58, F59, F60, F61, F62, F63, F64, F65, F66, F67, F68, F69, (by rw [← hvn9]; exact own_len4 (own_nn hp60).2 hp61 hp62), (by rw [List.length_set]; exact hp64), (by rw [List.length_set]; exact hp66), (by rw [List.length_set]; exact hp67)⟩)
theorem d11_0 : decode prog_59_method_12_code 0 = .ok (.aload_n 0, 1) := by decide +kernel
theorem d11_1 : decode prog_59_method_12_code 1 = .ok (.getfield 56, 3) := by decide +kernel
theorem d11_4 : decode prog_59_method_12_code 4 = .ok (.iload_n 1, 1) := by decide +kernel
theorem d11_5 : decode prog_59_method_12_code 5 = .ok (.iaload, 1) := by decide +kernel
theorem d11_6 : decode prog_59_method_12_code 6 = .ok (.i2l, 1) := by decide +kernel
theorem d11_7 : decode prog_59_method_12_code 7 = .ok (.aload_n 0, 1) := by decide +kernel
theorem d11_8 : decode prog_59_method_12_code 8 = .ok (.getfield 13, 3) := by decide +kernel
theorem d11_11 : decode prog_59_method_12_code 11 = .ok (.lcmp, 1) := by decide +kernel
theorem d11_12 : decode prog_59_method_12_code 12 = .ok (.ifCond .gt 7, 3) := by decide +kernel
theorem d11_19 : decode prog_59_method_12_code 19 = .ok (.iconst 0, 1) := by decide +kernel
theorem d11_20 : decode prog_59_method_12_code 20 = .ok (.ireturn, 1) := by decide +kernel
theorem d11_15 : decode prog_59_method_12_code 15 = .ok (.iconst 1, 1) := by decide +kernel
theorem d11_16 : decode prog_59_method_12_code 16 = .ok (.goto 4, 3) := by decide +kernel
def own_w (u_ : Int32) (ll_ : Int64) : Int32 := (if ll_ < (o_i2l u_) then (0 : Int32) else (1 : Int32))
theorem ef_11 (m : MethodId) (x0 : Addr) (x1 : Int32) : entryFrame m #[(.ref x0), (.int x1)] 2 = mkF m 0 #[.val (.ref x0), .val (.int x1)] [] := by first | (simp [entryFrame, mkF, argsToLocals, Value.category]; done) | rfl
def Q11 (Z : State) (a : Addr) (n_ : Int32) (bl_ : Addr) (ll_ : Int64) (kl_ : ClassId) (vbl_ : List Value) (u_ : Int32) (h0 : Heap) (n0 : Nat) (v : Option Value) (h : Heap) (L : List Loc) : Prop := v = some (.int (own_w u_ ll_)) ∧ Fr n0 L ∧ h = h0
set_option maxRecDepth 65536 in
set_option maxHeartbeats 40000000 in
theorem rm11 (l : Launch) (Z : State) (a0 : Array Value) (hw : ∀ d ∈ tables_1, d.before a0 Z = true) (ws : List Jvm.Cond) (a : Addr) (n_ : Int32) (bl_ : Addr) (ll_ : Int64) (kl_ : ClassId) (vbl_ : List Value) (u_ : Int32) (h0 : Heap) (n0 : Nat) (Z0 : n0 ≤ h0.size) (F_lengths_a : Fld Z h0 a "com/example/trajectory/trajectory/search/Nodes" "lengths" "[I" (.ref bl_)) (F_lengthLimit_a : Fld Z h0 a "com/example/trajectory/trajectory/search/Nodes" "lengthLimit" "J" (.long ll_)) (V_bl_ : Arv Z h0 bl_ kl_ .int (64 : Int32) vbl_ (.int (0 : Int32))) (hp3 : ¬ n_ < 0 ∧ n_ < (64 : Int32)) (hp4 : vbl_.getD (n_).toNatClampNeg (.int (0 : Int32)) = (.int u_)) :
    MetFree l (⟨"com/example/trajectory/trajectory/search/Nodes", "isWithinLimit", "(I)Z"⟩ : MethodName) (head1 (Jvm.Cond.code (⟨"com/example/trajectory/trajectory/search/Nodes", "isWithinLimit", "(I)Z"⟩ : MethodName) prog_59_method_12_code 2 (some .boolean) :: ws) ({ frames := 0, cells := 0, slots := 0, locals := 0 } : Room)) (fun q_ U => q_ = #[(.ref a), (.int n_)] ∧ Z.Warmed39 U.vm ∧ U.heap = h0) (fun _ _ _ _ _ => True) (fun _ U o U' => ∃ v L, o = .returned v ∧ Q11 Z a n_ bl_ ll_ kl_ vbl_ u_ h0 n0 v U'.heap L ∧ FrameEnd U o U' L ({ frames := 0, cells := 0, slots := 0, locals := 0 } : Room).cells ({ frames := 0, cells := 0, slots := 0, locals := 0 } : Room).slots) := by
  refine MetFree.of_bodySF (plainFor_of_name pn_1) hisR ?_
  intro p e s m args below meth c s₁ Bd hml0 hP hK
  obtain ⟨rfl, hZ, hh⟩ := hP
  have hx := Bd.exec
  have hby := Bd.bytes
  have hml : c.maxLocals = 2 := hml0
  have hown : s.vm.findClass "com/example/trajectory/trajectory/search/Nodes" = some m.cls := findClass_of_methodNamed Bd.named
  have hnm := (name_of_methodNamed Bd.named Bd.method).1
  have X0 : Stand p l e ({ frames := 0, cells := 0, slots := 0, locals := 0 } : Room) s m #[(.ref a), (.int n_)] below meth c s₁ [] 0 0 := Stand.of_body Bd
  have e0 : s₁.heap = h0 := by rw [← hh, Bd.state]; rfl
  have N0 := Fr.nil n0
  show own_Go p e below s (Q11 Z a n_ bl_ ll_ kl_ vbl_ u_ h0 n0) ({ frames := 0, cells := 0, slots := 0, locals := 0 } : Room).cells ({ frames := 0, cells := 0, slots := 0, locals := 0 } : Room).slots (s₁.setTop (entryFrame m #[(.ref a), (.int n_)] 2))
  refine own_via (fun t k => castTop (ef_11 m a n_) k) ?_
  show own_Go p e below s _ _ _ (s₁.setTop (mkF m 0 #[lR a, lI n_] []))
  refine own_via (fun _ k => XS.aloadN X0.here hx rfl (hb hby d11_0) rfl rfl k) ?_
  show own_Go p e below s _ _ _ (s₁.setTop (mkF m 1 #[lR a, lI n_] [(.ref a)]))
  obtain ⟨T1, X1, e1, st1⟩ := getF X0 hx hZ hown (host := "") (Or.inl (hwi hw 48 rfl)) Via.refl e0 F_lengths_a (g := (mkF m 1 #[lR a, lI n_] [(.ref a)])) rfl rfl (hb hby d11_1)
  refine own_via st1 ?_
  show own_Go p e below s _ _ _ (T1.setTop (mkF m 4 #[lR a, lI n_] [(.ref bl_)]))
  refine own_via (fun _ k => XS.iloadN X1.here hx rfl (hb hby d11_4) rfl k) ?_
  show own_Go p e below s _ _ _ (T1.setTop (mkF m 5 #[lR a, lI n_] [(.int n_), (.ref bl_)]))
  obtain ⟨cl2, Ar2, q2, S2, M2, H2, G2⟩ := (id V_bl_)
  have hin2 : ¬ (n_ < 0 ∨ cl2.slots.size ≤ (n_).toNatClampNeg) := inb_of S2 hp3
  have hat2 : cl2.slots[(n_).toNatClampNeg]? = some (.int u_) := Has.at H2 hin2 hp4
  refine own_via (fun _ k => X1.iaload hx (j := n_) (v := (.int u_)) (by rw [e1]; exact Ar2.1) (State.isArrayOf_alike hZ.alike Ar2.2.1) Ar2.2.2 hin2 hat2 (g := (mkF m 5 #[lR a, lI n_] [(.int n_), (.ref bl_)])) rfl rfl (hb hby d11_5) _ k) ?_
  show own_Go p e below s _ _ _ (T1.setTop (mkF m 6 #[lR a, lI n_] [(.int u_)]))
  refine own_via (fun _ k => XS.i2l X1.here hx rfl (hb hby d11_6) rfl k) ?_
  show own_Go p e below s _ _ _ (T1.setTop (mkF m 7 #[lR a, lI n_] [(.long (o_i2l u_))]))
  refine own_via (fun _ k => XS.aloadN X1.here hx rfl (hb hby d11_7) rfl rfl k) ?_
  show own_Go p e below s _ _ _ (T1.setTop (mkF m 8 #[lR a, lI n_] [(.ref a), (.long (o_i2l u_))]))
  obtain ⟨T3, X3, e3, st3⟩ := getF X1 hx hZ hown (host := "") (Or.inl (hwi hw 13 rfl)) Via.refl e1 F_lengthLimit_a (g := (mkF m 8 #[lR a, lI n_] [(.ref a), (.long (o_i2l u_))])) rfl rfl (hb hby d11_8)
  refine own_via st3 ?_
  show own_Go p e below s _ _ _ (T3.setTop (mkF m 11 #[lR a, lI n_] [(.long ll_), (.long (o_i2l u_))]))
  refine own_via (fun _ k => XS.lcmp X3.here hx rfl (hb hby d11_11) rfl k) ?_
  show own_Go p e below s _ _ _ (T3.setTop (mkF m 12 #[lR a, lI n_] [(.int (lcmpW (o_i2l u_) ll_))]))
  by_cases hc4 : ll_ < (o_i2l u_)
  · refine own_via (fun _ k => XS.ifYes X3.here hx rfl (pc0 := 12) (pc' := 19) rfl (hb hby d11_12) rfl (Jvm.Free.XT.ll_gt_t hc4) (by decide) (by decide) k) ?_
    show own_Go p e below s _ _ _ (T3.setTop (mkF m 19 #[lR a, lI n_] []))
    refine own_via (fun _ k => XS.iconst X3.here hx rfl (hb hby d11_19) k) ?_
    show own_Go p e below s _ _ _ (T3.setTop (mkF m 20 #[lR a, lI n_] [(.int (0 : Int32))]))
    exact own_goN X3 hx (t := .boolean) Bd.returns (by simp) (hb hby d11_20) Bd.notSynchronized (by decide) (by decide) (by rw [e3]; exact ⟨by rw [own_w, if_pos hc4] <;> rfl, N0, rfl⟩)
  · refine own_via (fun _ k => XS.ifNo X3.here hx rfl (hb hby d11_12) rfl (Jvm.Free.XT.ll_gt_f hc4) k) ?_
    show own_Go p e below s _ _ _ (T3.setTop (mkF m 15 #[lR a, lI n_] []))
    refine own_via (fun _ k => XS.iconst X3.here hx rfl (hb hby d11_15) k) ?_
    show own_Go p e below s _ _ _ (T3.setTop (mkF m 16 #[lR a, lI n_] [(.int (1 : Int32))]))
    refine own_via (fun _ k => XS.goto X3.here hx rfl (pc0 := 16) (pc' := 20) rfl (hb hby d11_16) (by decide) (by decide) k) ?_
    show own_Go p e below s _ _ _ (T3.setTop (mkF m 20 #[lR a, lI n_] [(.int (1 : Int32))]))
    exact own_goN X3 hx (t := .boolean) Bd.returns (by simp) (hb hby d11_20) Bd.notSynchronized (by decide) (by decide) (by rw [e3]; exact ⟨by rw [own_w, if_neg hc4] <;> rfl, N0, rfl⟩)

def own_inc (w : Int64) (u : Int32) (l : Int64) : Int64 := if (own_w u l) = (0 : Int32) then w else (w + (1 : Int64))
def own_dec (w : Int64) (u : Int32) (l : Int64) : Int64 := if (own_w u l) = (0 : Int32) then w else (w - (1 : Int64))
def own_pol (w : Int64) (z u : Int32) (l : Int64) : Int64 := if z = (0 : Int32) then own_dec w u l else w

theorem d12_0 : decode prog_59_method_24_code 0 = .ok (.dload_n 0, 1) := by decide +kernel
theorem d12_1 : decode prog_59_method_24_code 1 = .ok (.dload 4, 2) := by decide +kernel
theorem d12_3 : decode prog_59_method_24_code 3 = .ok (.dcmp .g, 1) := by decide +kernel
theorem d12_4 : decode prog_59_method_24_code 4 = .ok (.ifCond .lt 17, 3) := by decide +kernel
theorem d12_21 : decode prog_59_method_24_code 21 = .ok (.iconst 1, 1) := by decide +kernel
theorem d12_22 : decode prog_59_method_24_code 22 = .ok (.goto 4, 3) := by decide +kernel
theorem d12_26 : decode prog_59_method_24_code 26 = .ok (.ireturn, 1) := by decide +kernel
theorem d12_7 : decode prog_59_method_24_code 7 = .ok (.dload_n 0, 1) := by decide +kernel
theorem d12_8 : decode prog_59_method_24_code 8 = .ok (.dload 4, 2) := by decide +kernel
theorem d12_10 : decode prog_59_method_24_code 10 = .ok (.dcmp .l, 1) := by decide +kernel
theorem d12_11 : decode prog_59_method_24_code 11 = .ok (.ifCond .ne 14, 3) := by decide +kernel
theorem d12_14 : decode prog_59_method_24_code 14 = .ok (.lload_n 2, 1) := by decide +kernel
theorem d12_15 : decode prog_59_method_24_code 15 = .ok (.lload 6, 2) := by decide +kernel
theorem d12_17 : decode prog_59_method_24_code 17 = .ok (.lcmp, 1) := by decide +kernel
theorem d12_18 : decode prog_59_method_24_code 18 = .ok (.ifCond .ge 7, 3) := by decide +kernel
theorem d12_25 : decode prog_59_method_24_code 25 = .ok (.iconst 0, 1) := by decide +kernel
def own_bf (y_ : Int32) (x_ : Int32) (pr_ : Int64) (ps_ : Int64) : Int32 := (if (own_dcv y_ x_) < (0 : Int32) then (1 : Int32) else (if (own_dcv y_ x_) = (0 : Int32) then (if pr_ < ps_ then (1 : Int32) else (0 : Int32)) else (0 : Int32)))
theorem ef_12 (m : MethodId) (x0 : UInt64) (x1 : Int64) (x2 : UInt64) (x3 : Int64) : entryFrame m #[(.double x0), (.long x1), (.double x2), (.long x3)] 8 = mkF m 0 #[.val (.double x0), .second, .val (.long x1), .second, .val (.double x2), .second, .val (.long x3), .second] [] := by first | (simp [entryFrame, mkF, argsToLocals, Value.category]; done) | rfl
def Q12 (Z : State) (pc_ : UInt64) (pr_ : Int64) (po_ : UInt64) (ps_ : Int64) (y_ : Int32) (x_ : Int32) (h0 : Heap) (n0 : Nat) (v : Option Value) (h : Heap) (L : List Loc) : Prop := v = some (.int (own_bf y_ x_ pr_ ps_)) ∧ Fr n0 L ∧ h = h0
set_option maxRecDepth 65536 in
set_option maxHeartbeats 40000000 in
theorem rm12 (l : Launch) (Z : State) (a0 : Array Value) (hw : ∀ d ∈ tables_1, d.before a0 Z = true) (ws : List Jvm.Cond) (pc_ : UInt64) (pr_ : Int64) (po_ : UInt64) (ps_ : Int64) (y_ : Int32) (x_ : Int32) (h0 : Heap) (n0 : Nat) (Z0 : n0 ≤ h0.size) (hp0 : pc_ = FP.i2d y_) (hp1 : po_ = FP.i2d x_) :
    MetFree l (⟨"com/example/trajectory/trajectory/search/Nodes", "before", "(DJDJ)Z"⟩ : MethodName) (head1 (Jvm.Cond.code (⟨"com/example/trajectory/trajectory/search/Nodes", "before", "(DJDJ)Z"⟩ : MethodName) prog_59_method_24_code 8 (some .boolean) :: ws) ({ frames := 0, cells := 0, slots := 0, locals := 0 } : Room)) (fun q_ U => q_ = #[(.double pc_), (.long pr_), (.double po_), (.long ps_)] ∧ Z.Warmed39 U.vm ∧ U.heap = h0) (fun _ _ _ _ _ => True) (fun _ U o U' => ∃ v L, o = .returned v ∧ Q12 Z pc_ pr_ po_ ps_ y_ x_ h0 n0 v U'.heap L ∧ FrameEnd U o U' L ({ frames := 0, cells := 0, slots := 0, locals := 0 } : Room).cells ({ frames := 0, cells := 0, slots := 0, locals := 0 } : Room).slots) := by
  refine MetFree.of_bodySF (plainFor_of_name pn_1) hisR ?_
  intro p e s m args below meth c s₁ Bd hml0 hP hK
  obtain ⟨rfl, hZ, hh⟩ := hP
  have hx := Bd.exec
  have hby := Bd.bytes
  have hml : c.maxLocals = 8 := hml0
  have hown : s.vm.findClass "com/example/trajectory/trajectory/search/Nodes" = some m.cls := findClass_of_methodNamed Bd.named
  have hnm := (name_of_methodNamed Bd.named Bd.method).1
  have X0 : Stand p l e ({ frames := 0, cells := 0, slots := 0, locals := 0 } : Room) s m #[(.double pc_), (.long pr_), (.double po_), (.long ps_)] below meth c s₁ [] 0 0 := Stand.of_body Bd
  have e0 : s₁.heap = h0 := by rw [← hh, Bd.state]; rfl
  have N0 := Fr.nil n0
  show own_Go p e below s (Q12 Z pc_ pr_ po_ ps_ y_ x_ h0 n0) ({ frames := 0, cells := 0, slots := 0, locals := 0 } : Room).cells ({ frames := 0, cells := 0, slots := 0, locals := 0 } : Room).slots (s₁.setTop (entryFrame m #[(.double pc_), (.long pr_), (.double po_), (.long ps_)] 8))
  refine own_via (fun t k => castTop (ef_12 m pc_ pr_ po_ ps_) k) ?_
  show own_Go p e below s _ _ _ (s₁.setTop (mkF m 0 #[lD pc_, lS, lJ pr_, lS, lD po_, lS, lJ ps_, lS] []))
  refine own_via (fun _ k => XS.dloadN X0.here hx rfl (hb hby d12_0) rfl k) ?_
  show own_Go p e below s _ _ _ (s₁.setTop (mkF m 1 #[lD pc_, lS, lJ pr_, lS, lD po_, lS, lJ ps_, lS] [(.double pc_)]))
  refine own_via (fun _ k => XS.dload X0.here hx rfl (hb hby d12_1) rfl k) ?_
  show own_Go p e below s _ _ _ (s₁.setTop (mkF m 3 #[lD pc_, lS, lJ pr_, lS, lD po_, lS, lJ ps_, lS] [(.double po_), (.double pc_)]))
  refine own_via (fun _ k => XS.dcmpS X0.here hx rfl (hb hby d12_3) rfl (own_dcE hp0 hp1 _) k) ?_
  show own_Go p e below s _ _ _ (s₁.setTop (mkF m 4 #[lD pc_, lS, lJ pr_, lS, lD po_, lS, lJ ps_, lS] [(.int (own_dcv y_ x_))]))
  by_cases hc1 : (own_dcv y_ x_) < (0 : Int32)
  · refine own_via (fun _ k => XS.ifYes X0.here hx rfl (pc0 := 4) (pc' := 21) rfl (hb hby d12_4) rfl (Jvm.Free.XT.i0_lt_t hc1) (by decide) (by decide) k) ?_
    show own_Go p e below s _ _ _ (s₁.setTop (mkF m 21 #[lD pc_, lS, lJ pr_, lS, lD po_, lS, lJ ps_, lS] []))
    refine own_via (fun _ k => XS.iconst X0.here hx rfl (hb hby d12_21) k) ?_
    show own_Go p e below s _ _ _ (s₁.setTop (mkF m 22 #[lD pc_, lS, lJ pr_, lS, lD po_, lS, lJ ps_, lS] [(.int (1 : Int32))]))
    refine own_via (fun _ k => XS.goto X0.here hx rfl (pc0 := 22) (pc' := 26) rfl (hb hby d12_22) (by decide) (by decide) k) ?_
    show own_Go p e below s _ _ _ (s₁.setTop (mkF m 26 #[lD pc_, lS, lJ pr_, lS, lD po_, lS, lJ ps_, lS] [(.int (1 : Int32))]))
    exact own_goN X0 hx (t := .boolean) Bd.returns (by simp) (hb hby d12_26) Bd.notSynchronized (by decide) (by decide) (by rw [e0]; exact ⟨by rw [own_bf, if_pos hc1] <;> rfl, N0, rfl⟩)
  · refine own_via (fun _ k => XS.ifNo X0.here hx rfl (hb hby d12_4) rfl (Jvm.Free.XT.i0_lt_f hc1) k) ?_
    show own_Go p e below s _ _ _ (s₁.setTop (mkF m 7 #[lD pc_, lS, lJ pr_, lS, lD po_, lS, lJ ps_, lS] []))
    refine own_via (fun _ k => XS.dloadN X0.here hx rfl (hb hby d12_7) rfl k) ?_
    show own_Go p e below s _ _ _ (s₁.setTop (mkF m 8 #[lD pc_, lS, lJ pr_, lS, lD po_, lS, lJ ps_, lS] [(.double pc_)]))
    refine own_via (fun _ k => XS.dload X0.here hx rfl (hb hby d12_8) rfl k) ?_
    show own_Go p e below s _ _ _ (s₁.setTop (mkF m 10 #[lD pc_, lS, lJ pr_, lS, lD po_, lS, lJ ps_, lS] [(.double po_), (.double pc_)]))
    refine own_via (fun _ k => XS.dcmpS X0.here hx rfl (hb hby d12_10) rfl (own_dcE hp0 hp1 _) k) ?_
    show own_Go p e below s _ _ _ (s₁.setTop (mkF m 11 #[lD pc_, lS, lJ pr_, lS, lD po_, lS, lJ ps_, lS] [(.int (own_dcv y_ x_))]))
    by_cases hc2 : (own_dcv y_ x_) = (0 : Int32)
    · refine own_via (fun _ k => XS.ifNo X0.here hx rfl (hb hby d12_11) rfl (Jvm.Free.XT.i0_ne_f hc2) k) ?_
      show own_Go p e below s _ _ _ (s₁.setTop (mkF m 14 #[lD pc_, lS, lJ pr_, lS, lD po_, lS, lJ ps_, lS] []))
      refine own_via (fun _ k => XS.lloadN X0.here hx rfl (hb hby d12_14) rfl k) ?_
      show own_Go p e below s _ _ _ (s₁.setTop (mkF m 15 #[lD pc_, lS, lJ pr_, lS, lD po_, lS, lJ ps_, lS] [(.long pr_)]))
      refine own_via (fun _ k => XS.lload X0.here hx rfl (hb hby d12_15) rfl k) ?_
      show own_Go p e below s _ _ _ (s₁.setTop (mkF m 17 #[lD pc_, lS, lJ pr_, lS, lD po_, lS, lJ ps_, lS] [(.long ps_), (.long pr_)]))
      refine own_via (fun _ k => XS.lcmp X0.here hx rfl (hb hby d12_17) rfl k) ?_
      show own_Go p e below s _ _ _ (s₁.setTop (mkF m 18 #[lD pc_, lS, lJ pr_, lS, lD po_, lS, lJ ps_, lS] [(.int (lcmpW pr_ ps_))]))
      by_cases hc3 : pr_ < ps_
      · refine own_via (fun _ k => XS.ifNo X0.here hx rfl (hb hby d12_18) rfl (Jvm.Free.XT.ll_ge_f hc3) k) ?_
        show own_Go p e below s _ _ _ (s₁.setTop (mkF m 21 #[lD pc_, lS, lJ pr_, lS, lD po_, lS, lJ ps_, lS] []))
        refine own_via (fun _ k => XS.iconst X0.here hx rfl (hb hby d12_21) k) ?_
        show own_Go p e below s _ _ _ (s₁.setTop (mkF m 22 #[lD pc_, lS, lJ pr_, lS, lD po_, lS, lJ ps_, lS] [(.int (1 : Int32))]))
        refine own_via (fun _ k => XS.goto X0.here hx rfl (pc0 := 22) (pc' := 26) rfl (hb hby d12_22) (by decide) (by decide) k) ?_
        show own_Go p e below s _ _ _ (s₁.setTop (mkF m 26 #[lD pc_, lS, lJ pr_, lS, lD po_, lS, lJ ps_, lS] [(.int (1 : Int32))]))
        exact own_goN X0 hx (t := .boolean) Bd.returns (by simp) (hb hby d12_26) Bd.notSynchronized (by decide) (by decide) (by rw [e0]; exact ⟨by rw [own_bf, if_neg hc1, if_pos hc2, if_pos hc3] <;> rfl, N0, rfl⟩)
      · refine own_via (fun _ k => XS.ifYes X0.here hx rfl (pc0 := 18) (pc' := 25) rfl (hb hby d12_18) rfl (Jvm.Free.XT.ll_ge_t hc3) (by decide) (by decide) k) ?_
        show own_Go p e below s _ _ _ (s₁.setTop (mkF m 25 #[lD pc_, lS, lJ pr_, lS, lD po_, lS, lJ ps_, lS] []))
        refine own_via (fun _ k => XS.iconst X0.here hx rfl (hb hby d12_25) k) ?_
        show own_Go p e below s _ _ _ (s₁.setTop (mkF m 26 #[lD pc_, lS, lJ pr_, lS, lD po_, lS, lJ ps_, lS] [(.int (0 : Int32))]))
        exact own_goN X0 hx (t := .boolean) Bd.returns (by simp) (hb hby d12_26) Bd.notSynchronized (by decide) (by decide) (by rw [e0]; exact ⟨by rw [own_bf, if_neg hc1, if_pos hc2, if_neg hc3] <;> rfl, N0, rfl⟩)
    · refine own_via (fun _ k => XS.ifYes X0.here hx rfl (pc0 := 11) (pc' := 25) rfl (hb hby d12_11) rfl (Jvm.Free.XT.i0_ne_t hc2) (by decide) (by decide) k) ?_
      show own_Go p e below s _ _ _ (s₁.setTop (mkF m 25 #[lD pc_, lS, lJ pr_, lS, lD po_, lS, lJ ps_, lS] []))
      refine own_via (fun _ k => XS.iconst X0.here hx rfl (hb hby d12_25) k) ?_
      show own_Go p e below s _ _ _ (s₁.setTop (mkF m 26 #[lD pc_, lS, lJ pr_, lS, lD po_, lS, lJ ps_, lS] [(.int (0 : Int32))]))
      exact own_goN X0 hx (t := .boolean) Bd.returns (by simp) (hb hby d12_26) Bd.notSynchronized (by decide) (by decide) (by rw [e0]; exact ⟨by rw [own_bf, if_neg hc1, if_neg hc2] <;> rfl, N0, rfl⟩)

theorem own_bf_t {y x : Int32} {r s : Int64} (h : y < x) : ¬ (own_bf y x r s) = (0 : Int32) := by
  have q : own_dcv y x = (-1 : Int32) := by unfold own_dcv; rw [if_pos h]
  unfold own_bf; rw [q, if_pos (by decide)]; decide
theorem own_bf_f {y x : Int32} {r s : Int64} (h : ¬ y < x) (hr : ¬ r < s) : (own_bf y x r s) = (0 : Int32) := by
  unfold own_bf own_dcv; rw [if_neg h]
  by_cases q : y = x
  · rw [if_pos q, if_neg (by decide), if_pos rfl, if_neg hr]
  · rw [if_neg q, if_neg (by decide), if_neg (by decide)]

theorem d17_0 : decode prog_59_method_16_code 0 = .ok (.dload_n 1, 1) := by decide +kernel
theorem d17_1 : decode prog_59_method_16_code 1 = .ok (.dload 4, 2) := by decide +kernel
theorem d17_3 : decode prog_59_method_16_code 3 = .ok (.dcmp .g, 1) := by decide +kernel
theorem d17_4 : decode prog_59_method_16_code 4 = .ok (.ifCond .gt 11, 3) := by decide +kernel
theorem d17_7 : decode prog_59_method_16_code 7 = .ok (.iload_n 3, 1) := by decide +kernel
theorem d17_8 : decode prog_59_method_16_code 8 = .ok (.iload 6, 2) := by decide +kernel
theorem d17_10 : decode prog_59_method_16_code 10 = .ok (.if_icmp .gt 5, 3) := by decide +kernel
theorem d17_13 : decode prog_59_method_16_code 13 = .ok (.iconst 1, 1) := by decide +kernel
theorem d17_14 : decode prog_59_method_16_code 14 = .ok (.ireturn, 1) := by decide +kernel
theorem ef_17 (m : MethodId) (x0 : Addr) (x1 : UInt64) (x2 : Int32) (x3 : UInt64) (x4 : Int32) : entryFrame m #[(.ref x0), (.double x1), (.int x2), (.double x3), (.int x4)] 11 = mkF m 0 #[.val (.ref x0), .val (.double x1), .second, .val (.int x2), .val (.double x3), .second, .val (.int x4), .unset, .unset, .unset, .unset] [] := by first | (simp [entryFrame, mkF, argsToLocals, Value.category]; done) | rfl
def Q17 (Z : State) (a : Addr) (pc_ : UInt64) (pl_ : Int32) (po_ : UInt64) (pm_ : Int32) (y_ : Int32) (x_ : Int32) (h0 : Heap) (n0 : Nat) (v : Option Value) (h : Heap) (L : List Loc) : Prop := v = some (.int (1 : Int32)) ∧ Fr n0 L ∧ h = h0
set_option maxRecDepth 65536 in
set_option maxHeartbeats 40000000 in
theorem rm17 (l : Launch) (Z : State) (a0 : Array Value) (hw : ∀ d ∈ tables_1, d.before a0 Z = true) (ws : List Jvm.Cond) (a : Addr) (pc_ : UInt64) (pl_ : Int32) (po_ : UInt64) (pm_ : Int32) (y_ : Int32) (x_ : Int32) (h0 : Heap) (n0 : Nat) (Z0 : n0 ≤ h0.size) (hp0 : pc_ = FP.i2d y_) (hp1 : po_ = FP.i2d x_) (hp2 : ¬ x_ < y_) (hp3 : ¬ pm_ < pl_) :
    MetFree l (⟨"com/example/trajectory/trajectory/search/Nodes", "makesNeedless", "(DIDI)Z"⟩ : MethodName) (head1 (Jvm.Cond.code (⟨"com/example/trajectory/trajectory/search/Nodes", "makesNeedless", "(DIDI)Z"⟩ : MethodName) prog_59_method_16_code 11 (some .boolean) :: ws) ({ frames := 0, cells := 0, slots := 0, locals := 0 } : Room)) (fun q_ U => q_ = #[(.ref a), (.double pc_), (.int pl_), (.double po_), (.int pm_)] ∧ Z.Warmed39 U.vm ∧ U.heap = h0) (fun _ _ _ _ _ => True) (fun _ U o U' => ∃ v L, o = .returned v ∧ Q17 Z a pc_ pl_ po_ pm_ y_ x_ h0 n0 v U'.heap L ∧ FrameEnd U o U' L ({ frames := 0, cells := 0, slots := 0, locals := 0 } : Room).cells ({ frames := 0, cells := 0, slots := 0, locals := 0 } : Room).slots) := by
  refine MetFree.of_bodySF (plainFor_of_name pn_1) hisR ?_
  intro p e s m args below meth c s₁ Bd hml0 hP hK
  obtain ⟨rfl, hZ, hh⟩ := hP
  have hx := Bd.exec
  have hby := Bd.bytes
  have hml : c.maxLocals = 11 := hml0
  have hown : s.vm.findClass "com/example/trajectory/trajectory/search/Nodes" = some m.cls := findClass_of_methodNamed Bd.named
  have hnm := (name_of_methodNamed Bd.named Bd.method).1
  have X0 : Stand p l e ({ frames := 0, cells := 0, slots := 0, locals := 0 } : Room) s m #[(.ref a), (.double pc_), (.int pl_), (.double po_), (.int pm_)] below meth c s₁ [] 0 0 := Stand.of_body Bd
  have e0 : s₁.heap = h0 := by rw [← hh, Bd.state]; rfl
  have N0 := Fr.nil n0
  show own_Go p e below s (Q17 Z a pc_ pl_ po_ pm_ y_ x_ h0 n0) ({ frames := 0, cells := 0, slots := 0, locals := 0 } : Room).cells ({ frames := 0, cells := 0, slots := 0, locals := 0 } : Room).slots (s₁.setTop (entryFrame m #[(.ref a), (.double pc_), (.int pl_), (.double po_), (.int pm_)] 11))
  refine own_via (fun t k => castTop (ef_17 m a pc_ pl_ po_ pm_) k) ?_
  show own_Go p e below s _ _ _ (s₁.setTop (mkF m 0 #[lR a, lD pc_, lS, lI pl_, lD po_, lS, lI pm_, lU, lU, lU, lU] []))
  refine own_via (fun _ k => XS.dloadN X0.here hx rfl (hb hby d17_0) rfl k) ?_
  show own_Go p e below s _ _ _ (s₁.setTop (mkF m 1 #[lR a, lD pc_, lS, lI pl_, lD po_, lS, lI pm_, lU, lU, lU, lU] [(.double pc_)]))
  refine own_via (fun _ k => XS.dload X0.here hx rfl (hb hby d17_1) rfl k) ?_
  show own_Go p e below s _ _ _ (s₁.setTop (mkF m 3 #[lR a, lD pc_, lS, lI pl_, lD po_, lS, lI pm_, lU, lU, lU, lU] [(.double po_), (.double pc_)]))
  refine own_via (fun _ k => XS.dcmpS X0.here hx rfl (hb hby d17_3) rfl (own_dcE hp0 hp1 _) k) ?_
  show own_Go p e below s _ _ _ (s₁.setTop (mkF m 4 #[lR a, lD pc_, lS, lI pl_, lD po_, lS, lI pm_, lU, lU, lU, lU] [(.int (own_dcv y_ x_))]))
  have hc1 : ¬ ((0 : Int32) < (own_dcv y_ x_)) := own_dcv_le hp2
  refine own_via (fun _ k => XS.ifNo X0.here hx rfl (hb hby d17_4) rfl (Jvm.Free.XT.i0_gt_f hc1) k) ?_
  show own_Go p e below s _ _ _ (s₁.setTop (mkF m 7 #[lR a, lD pc_, lS, lI pl_, lD po_, lS, lI pm_, lU, lU, lU, lU] []))
  refine own_via (fun _ k => XS.iloadN X0.here hx rfl (hb hby d17_7) rfl k) ?_
  show own_Go p e below s _ _ _ (s₁.setTop (mkF m 8 #[lR a, lD pc_, lS, lI pl_, lD po_, lS, lI pm_, lU, lU, lU, lU] [(.int pl_)]))
  refine own_via (fun _ k => XS.iload X0.here hx rfl (hb hby d17_8) rfl k) ?_
  show own_Go p e below s _ _ _ (s₁.setTop (mkF m 10 #[lR a, lD pc_, lS, lI pl_, lD po_, lS, lI pm_, lU, lU, lU, lU] [(.int pm_), (.int pl_)]))
  have hc2 : ¬ (pm_ < pl_) := hp3
  refine own_via (fun _ k => XS.icmpNo X0.here hx rfl (hb hby d17_10) rfl (Jvm.Free.XT.ii_gt_f hc2) k) ?_
  show own_Go p e below s _ _ _ (s₁.setTop (mkF m 13 #[lR a, lD pc_, lS, lI pl_, lD po_, lS, lI pm_, lU, lU, lU, lU] []))
  refine own_via (fun _ k => XS.iconst X0.here hx rfl (hb hby d17_13) k) ?_
  show own_Go p e below s _ _ _ (s₁.setTop (mkF m 14 #[lR a, lD pc_, lS, lI pl_, lD po_, lS, lI pm_, lU, lU, lU, lU] [(.int (1 : Int32))]))
  exact own_goN X0 hx (t := .boolean) Bd.returns (by simp) (hb hby d17_14) Bd.notSynchronized (by decide) (by decide) (by rw [e0]; exact ⟨rfl, N0, rfl⟩)
theorem d10_0 : decode prog_59_method_20_code 0 = .ok (.aload_n 0, 1) := by decide +kernel
theorem d10_1 : decode prog_59_method_20_code 1 = .ok (.getfield 143, 3) := by decide +kernel
theorem d10_4 : decode prog_59_method_20_code 4 = .ok (.aload_n 0, 1) := by decide +kernel
theorem d10_5 : decode prog_59_method_20_code 5 = .ok (.getfield 76, 3) := by decide +kernel
theorem d10_8 : decode prog_59_method_20_code 8 = .ok (.arraylength, 1) := by decide +kernel
theorem d10_9 : decode prog_59_method_20_code 9 = .ok (.if_icmp .ne 37, 3) := by decide +kernel
theorem d10_46 : decode prog_59_method_20_code 46 = .ok (.aload_n 0, 1) := by decide +kernel
theorem d10_47 : decode prog_59_method_20_code 47 = .ok (.getfield 49, 3) := by decide +kernel
theorem d10_50 : decode prog_59_method_20_code 50 = .ok (.iload_n 1, 1) := by decide +kernel
theorem d10_51 : decode prog_59_method_20_code 51 = .ok (.daload, 1) := by decide +kernel
theorem d10_52 : decode prog_59_method_20_code 52 = .ok (.dstore_n 2, 1) := by decide +kernel
theorem d10_53 : decode prog_59_method_20_code 53 = .ok (.aload_n 0, 1) := by decide +kernel
theorem d10_54 : decode prog_59_method_20_code 54 = .ok (.getfield 56, 3) := by decide +kernel
theorem d10_57 : decode prog_59_method_20_code 57 = .ok (.iload_n 1, 1) := by decide +kernel
theorem d10_58 : decode prog_59_method_20_code 58 = .ok (.iaload, 1) := by decide +kernel
theorem d10_59 : decode prog_59_method_20_code 59 = .ok (.i2l, 1) := by decide +kernel
theorem d10_60 : decode prog_59_method_20_code 60 = .ok (.bipush 32, 2) := by decide +kernel
theorem d10_62 : decode prog_59_method_20_code 62 = .ok (.lshl, 1) := by decide +kernel
theorem d10_63 : decode prog_59_method_20_code 63 = .ok (.iload_n 1, 1) := by decide +kernel
theorem d10_64 : decode prog_59_method_20_code 64 = .ok (.i2l, 1) := by decide +kernel
theorem d10_65 : decode prog_59_method_20_code 65 = .ok (.lor, 1) := by decide +kernel
theorem d10_66 : decode prog_59_method_20_code 66 = .ok (.lstore 4, 2) := by decide +kernel
theorem d10_68 : decode prog_59_method_20_code 68 = .ok (.aload_n 0, 1) := by decide +kernel
theorem d10_69 : decode prog_59_method_20_code 69 = .ok (.dup, 1) := by decide +kernel
theorem d10_70 : decode prog_59_method_20_code 70 = .ok (.getfield 143, 3) := by decide +kernel
theorem d10_73 : decode prog_59_method_20_code 73 = .ok (.dup_x1, 1) := by decide +kernel
theorem d10_74 : decode prog_59_method_20_code 74 = .ok (.iconst 1, 1) := by decide +kernel
theorem d10_75 : decode prog_59_method_20_code 75 = .ok (.iadd, 1) := by decide +kernel
theorem d10_76 : decode prog_59_method_20_code 76 = .ok (.putfield 143, 3) := by decide +kernel
theorem d10_79 : decode prog_59_method_20_code 79 = .ok (.istore 6, 2) := by decide +kernel
theorem d10_81 : decode prog_59_method_20_code 81 = .ok (.iload 6, 2) := by decide +kernel
theorem d10_83 : decode prog_59_method_20_code 83 = .ok (.iconst 1, 1) := by decide +kernel
theorem d10_84 : decode prog_59_method_20_code 84 = .ok (.isub, 1) := by decide +kernel
theorem d10_85 : decode prog_59_method_20_code 85 = .ok (.iconst 2, 1) := by decide +kernel
theorem d10_86 : decode prog_59_method_20_code 86 = .ok (.idiv, 1) := by decide +kernel
theorem d10_87 : decode prog_59_method_20_code 87 = .ok (.istore 7, 2) := by decide +kernel
theorem d10_89 : decode prog_59_method_20_code 89 = .ok (.iload 6, 2) := by decide +kernel
theorem d10_91 : decode prog_59_method_20_code 91 = .ok (.ifCond .le 69, 3) := by decide +kernel
theorem d10_160 : decode prog_59_method_20_code 160 = .ok (.aload_n 0, 1) := by decide +kernel
theorem sn16 {Z : State} {a0 : Array Value} (hw : ∀ d ∈ tables_1, d.before a0 Z = true) : Jvm.RoadKit.slotOf Z "com/example/trajectory/trajectory/search/Nodes" "frontierCosts" "[D" ≠ Jvm.RoadKit.slotOf Z "com/example/trajectory/trajectory/search/Nodes" "waiting" "I" := slot_ne (Or.inl (hwi hw 62 rfl)) (Or.inl (hwi hw 89 rfl)) (by decide) (t := (.array .double)) (t' := .int) (by decide) (by decide)
theorem d10_161 : decode prog_59_method_20_code 161 = .ok (.getfield 76, 3) := by decide +kernel
theorem d10_164 : decode prog_59_method_20_code 164 = .ok (.iload 6, 2) := by decide +kernel
theorem d10_166 : decode prog_59_method_20_code 166 = .ok (.dload_n 2, 1) := by decide +kernel
theorem d10_167 : decode prog_59_method_20_code 167 = .ok (.dastore, 1) := by decide +kernel
theorem d10_168 : decode prog_59_method_20_code 168 = .ok (.aload_n 0, 1) := by decide +kernel
theorem sn17 {Z : State} {a0 : Array Value} (hw : ∀ d ∈ tables_1, d.before a0 Z = true) : Jvm.RoadKit.slotOf Z "com/example/trajectory/trajectory/search/Nodes" "frontierRanks" "[J" ≠ Jvm.RoadKit.slotOf Z "com/example/trajectory/trajectory/search/Nodes" "waiting" "I" := slot_ne (Or.inl (hwi hw 64 rfl)) (Or.inl (hwi hw 89 rfl)) (by decide) (t := (.array .long)) (t' := .int) (by decide) (by decide)
theorem d10_169 : decode prog_59_method_20_code 169 = .ok (.getfield 79, 3) := by decide +kernel
theorem d10_172 : decode prog_59_method_20_code 172 = .ok (.iload 6, 2) := by decide +kernel
theorem d10_174 : decode prog_59_method_20_code 174 = .ok (.lload 4, 2) := by decide +kernel
theorem d10_176 : decode prog_59_method_20_code 176 = .ok (.lastore, 1) := by decide +kernel
theorem d10_177 : decode prog_59_method_20_code 177 = .ok (.aload_n 0, 1) := by decide +kernel
theorem d10_178 : decode prog_59_method_20_code 178 = .ok (.iload_n 1, 1) := by decide +kernel
theorem sn18 {Z : State} {a0 : Array Value} (hw : ∀ d ∈ tables_1, d.before a0 Z = true) : Jvm.RoadKit.slotOf Z "com/example/trajectory/trajectory/search/Nodes" "lengths" "[I" ≠ Jvm.RoadKit.slotOf Z "com/example/trajectory/trajectory/search/Nodes" "waiting" "I" := slot_ne (Or.inl (hwi hw 49 rfl)) (Or.inl (hwi hw 89 rfl)) (by decide) (t := (.array .int)) (t' := .int) (by decide) (by decide)
theorem sn19 {Z : State} {a0 : Array Value} (hw : ∀ d ∈ tables_1, d.before a0 Z = true) : Jvm.RoadKit.slotOf Z "com/example/trajectory/trajectory/search/Nodes" "lengthLimit" "J" ≠ Jvm.RoadKit.slotOf Z "com/example/trajectory/trajectory/search/Nodes" "waiting" "I" := slot_ne (Or.inr (hwi hw 14 rfl)) (Or.inl (hwi hw 89 rfl)) (by decide) (t := .long) (t' := .int) (by decide) (by decide)
theorem pd_3 : parseMethodDescriptor "(I)Z" = some ⟨[.int], some .boolean⟩ := by decide +kernel
theorem d10_179 : decode prog_59_method_20_code 179 = .ok (.invokevirtual 130, 3) := by decide +kernel
theorem d10_182 : decode prog_59_method_20_code 182 = .ok (.ifCond .eq 13, 3) := by decide +kernel
theorem d10_195 : decode prog_59_method_20_code 195 = .ok (.return_, 1) := by decide +kernel
theorem sn20 {Z : State} {a0 : Array Value} (hw : ∀ d ∈ tables_1, d.before a0 Z = true) : Jvm.RoadKit.slotOf Z "com/example/trajectory/trajectory/search/Nodes" "width" "I" ≠ Jvm.RoadKit.slotOf Z "com/example/trajectory/trajectory/search/Nodes" "waiting" "I" := slot_ne (Or.inr (hwi hw 12 rfl)) (Or.inl (hwi hw 89 rfl)) (by decide) (t := .int) (t' := .int) (by decide) (by decide)
theorem sn21 {Z : State} {a0 : Array Value} (hw : ∀ d ∈ tables_1, d.before a0 Z = true) : Jvm.RoadKit.slotOf Z "com/example/trajectory/trajectory/search/Nodes" "costs" "[D" ≠ Jvm.RoadKit.slotOf Z "com/example/trajectory/trajectory/search/Nodes" "waiting" "I" := slot_ne (Or.inl (hwi hw 44 rfl)) (Or.inl (hwi hw 89 rfl)) (by decide) (t := (.array .double)) (t' := .int) (by decide) (by decide)
theorem sn22 {Z : State} {a0 : Array Value} (hw : ∀ d ∈ tables_1, d.before a0 Z = true) : Jvm.RoadKit.slotOf Z "com/example/trajectory/trajectory/search/Nodes" "superseded" "[Z" ≠ Jvm.RoadKit.slotOf Z "com/example/trajectory/trajectory/search/Nodes" "waiting" "I" := slot_ne (Or.inl (hwi hw 56 rfl)) (Or.inl (hwi hw 89 rfl)) (by decide) (t := (.array .boolean)) (t' := .int) (by decide) (by decide)
theorem sn23 {Z : State} {a0 : Array Value} (hw : ∀ d ∈ tables_1, d.before a0 Z = true) : Jvm.RoadKit.slotOf Z "com/example/trajectory/trajectory/search/Nodes" "nextKept" "[I" ≠ Jvm.RoadKit.slotOf Z "com/example/trajectory/trajectory/search/Nodes" "waiting" "I" := slot_ne (Or.inl (hwi hw 58 rfl)) (Or.inl (hwi hw 89 rfl)) (by decide) (t := (.array .int)) (t' := .int) (by decide) (by decide)
theorem sn24 {Z : State} {a0 : Array Value} (hw : ∀ d ∈ tables_1, d.before a0 Z = true) : Jvm.RoadKit.slotOf Z "com/example/trajectory/trajectory/search/Nodes" "table" "[I" ≠ Jvm.RoadKit.slotOf Z "com/example/trajectory/trajectory/search/Nodes" "waiting" "I" := slot_ne (Or.inl (hwi hw 60 rfl)) (Or.inl (hwi hw 89 rfl)) (by decide) (t := (.array .int)) (t' := .int) (by decide) (by decide)
theorem sn25 {Z : State} {a0 : Array Value} (hw : ∀ d ∈ tables_1, d.before a0 Z = true) : Jvm.RoadKit.slotOf Z "com/example/trajectory/trajectory/search/Nodes" "waitingWithin" "J" ≠ Jvm.RoadKit.slotOf Z "com/example/trajectory/trajectory/search/Nodes" "waiting" "I" := slot_ne (Or.inl (hwi hw 82 rfl)) (Or.inl (hwi hw 89 rfl)) (by decide) (t := .long) (t' := .int) (by decide) (by decide)
theorem sn26 {Z : State} {a0 : Array Value} (hw : ∀ d ∈ tables_1, d.before a0 Z = true) : Jvm.RoadKit.slotOf Z "com/example/trajectory/trajectory/search/Nodes" "held" "I" ≠ Jvm.RoadKit.slotOf Z "com/example/trajectory/trajectory/search/Nodes" "waiting" "I" := slot_ne (Or.inl (hwi hw 119 rfl)) (Or.inl (hwi hw 89 rfl)) (by decide) (t := .int) (t' := .int) (by decide) (by decide)
theorem d10_185 : decode prog_59_method_20_code 185 = .ok (.aload_n 0, 1) := by decide +kernel
theorem d10_186 : decode prog_59_method_20_code 186 = .ok (.dup, 1) := by decide +kernel
theorem d10_187 : decode prog_59_method_20_code 187 = .ok (.getfield 134, 3) := by decide +kernel
theorem d10_190 : decode prog_59_method_20_code 190 = .ok (.lconst 1, 1) := by decide +kernel
theorem d10_191 : decode prog_59_method_20_code 191 = .ok (.ladd, 1) := by decide +kernel
theorem d10_192 : decode prog_59_method_20_code 192 = .ok (.putfield 134, 3) := by decide +kernel
theorem sn27 {Z : State} {a0 : Array Value} (hw : ∀ d ∈ tables_1, d.before a0 Z = true) : Jvm.RoadKit.slotOf Z "com/example/trajectory/trajectory/search/Nodes" "width" "I" ≠ Jvm.RoadKit.slotOf Z "com/example/trajectory/trajectory/search/Nodes" "waitingWithin" "J" := slot_ne (Or.inr (hwi hw 12 rfl)) (Or.inl (hwi hw 82 rfl)) (by decide) (t := .int) (t' := .long) (by decide) (by decide)
theorem sn28 {Z : State} {a0 : Array Value} (hw : ∀ d ∈ tables_1, d.before a0 Z = true) : Jvm.RoadKit.slotOf Z "com/example/trajectory/trajectory/search/Nodes" "lengthLimit" "J" ≠ Jvm.RoadKit.slotOf Z "com/example/trajectory/trajectory/search/Nodes" "waitingWithin" "J" := slot_ne (Or.inr (hwi hw 14 rfl)) (Or.inl (hwi hw 82 rfl)) (by decide) (t := .long) (t' := .long) (by decide) (by decide)
theorem sn29 {Z : State} {a0 : Array Value} (hw : ∀ d ∈ tables_1, d.before a0 Z = true) : Jvm.RoadKit.slotOf Z "com/example/trajectory/trajectory/search/Nodes" "costs" "[D" ≠ Jvm.RoadKit.slotOf Z "com/example/trajectory/trajectory/search/Nodes" "waitingWithin" "J" := slot_ne (Or.inl (hwi hw 44 rfl)) (Or.inl (hwi hw 82 rfl)) (by decide) (t := (.array .double)) (t' := .long) (by decide) (by decide)
theorem sn30 {Z : State} {a0 : Array Value} (hw : ∀ d ∈ tables_1, d.before a0 Z = true) : Jvm.RoadKit.slotOf Z "com/example/trajectory/trajectory/search/Nodes" "lengths" "[I" ≠ Jvm.RoadKit.slotOf Z "com/example/trajectory/trajectory/search/Nodes" "waitingWithin" "J" := slot_ne (Or.inl (hwi hw 49 rfl)) (Or.inl (hwi hw 82 rfl)) (by decide) (t := (.array .int)) (t' := .long) (by decide) (by decide)
theorem sn31 {Z : State} {a0 : Array Value} (hw : ∀ d ∈ tables_1, d.before a0 Z = true) : Jvm.RoadKit.slotOf Z "com/example/trajectory/trajectory/search/Nodes" "superseded" "[Z" ≠ Jvm.RoadKit.slotOf Z "com/example/trajectory/trajectory/search/Nodes" "waitingWithin" "J" := slot_ne (Or.inl (hwi hw 56 rfl)) (Or.inl (hwi hw 82 rfl)) (by decide) (t := (.array .boolean)) (t' := .long) (by decide) (by decide)
theorem sn32 {Z : State} {a0 : Array Value} (hw : ∀ d ∈ tables_1, d.before a0 Z = true) : Jvm.RoadKit.slotOf Z "com/example/trajectory/trajectory/search/Nodes" "nextKept" "[I" ≠ Jvm.RoadKit.slotOf Z "com/example/trajectory/trajectory/search/Nodes" "waitingWithin" "J" := slot_ne (Or.inl (hwi hw 58 rfl)) (Or.inl (hwi hw 82 rfl)) (by decide) (t := (.array .int)) (t' := .long) (by decide) (by decide)
theorem sn33 {Z : State} {a0 : Array Value} (hw : ∀ d ∈ tables_1, d.before a0 Z = true) : Jvm.RoadKit.slotOf Z "com/example/trajectory/trajectory/search/Nodes" "table" "[I" ≠ Jvm.RoadKit.slotOf Z "com/example/trajectory/trajectory/search/Nodes" "waitingWithin" "J" := slot_ne (Or.inl (hwi hw 60 rfl)) (Or.inl (hwi hw 82 rfl)) (by decide) (t := (.array .int)) (t' := .long) (by decide) (by decide)
theorem sn34 {Z : State} {a0 : Array Value} (hw : ∀ d ∈ tables_1, d.before a0 Z = true) : Jvm.RoadKit.slotOf Z "com/example/trajectory/trajectory/search/Nodes" "frontierCosts" "[D" ≠ Jvm.RoadKit.slotOf Z "com/example/trajectory/trajectory/search/Nodes" "waitingWithin" "J" := slot_ne (Or.inl (hwi hw 62 rfl)) (Or.inl (hwi hw 82 rfl)) (by decide) (t := (.array .double)) (t' := .long) (by decide) (by decide)
theorem sn35 {Z : State} {a0 : Array Value} (hw : ∀ d ∈ tables_1, d.before a0 Z = true) : Jvm.RoadKit.slotOf Z "com/example/trajectory/trajectory/search/Nodes" "frontierRanks" "[J" ≠ Jvm.RoadKit.slotOf Z "com/example/trajectory/trajectory/search/Nodes" "waitingWithin" "J" := slot_ne (Or.inl (hwi hw 64 rfl)) (Or.inl (hwi hw 82 rfl)) (by decide) (t := (.array .long)) (t' := .long) (by decide) (by decide)
theorem sn36 {Z : State} {a0 : Array Value} (hw : ∀ d ∈ tables_1, d.before a0 Z = true) : Jvm.RoadKit.slotOf Z "com/example/trajectory/trajectory/search/Nodes" "waiting" "I" ≠ Jvm.RoadKit.slotOf Z "com/example/trajectory/trajectory/search/Nodes" "waitingWithin" "J" := slot_ne (Or.inl (hwi hw 89 rfl)) (Or.inl (hwi hw 82 rfl)) (by decide) (t := .int) (t' := .long) (by decide) (by decide)
theorem sn37 {Z : State} {a0 : Array Value} (hw : ∀ d ∈ tables_1, d.before a0 Z = true) : Jvm.RoadKit.slotOf Z "com/example/trajectory/trajectory/search/Nodes" "held" "I" ≠ Jvm.RoadKit.slotOf Z "com/example/trajectory/trajectory/search/Nodes" "waitingWithin" "J" := slot_ne (Or.inl (hwi hw 119 rfl)) (Or.inl (hwi hw 82 rfl)) (by decide) (t := .int) (t' := .long) (by decide) (by decide)
theorem ef_q0 (m : MethodId) (x0 : Addr) (x1 : Int32) : entryFrame m #[(.ref x0), (.int x1)] 8 = mkF m 0 #[.val (.ref x0), .val (.int x1), .unset, .unset, .unset, .unset, .unset, .unset] [] := by first | (simp [entryFrame, mkF, argsToLocals, Value.category]; done) | rfl
def Qq0 (Z : State) (a : Addr) (n_ : Int32) (ll_ : Int64) (ww_ : Int64) (u_ : Int32) (bc_ : Addr) (bl_ : Addr) (bz_ : Addr) (bk_ : Addr) (bT_ : Addr) (bf_ : Addr) (br_ : Addr) (kc_ : ClassId) (kl_ : ClassId) (kf_ : ClassId) (kr_ : ClassId) (vbc_ : List Value) (vbl_ : List Value) (dc_ : UInt64) (h0 : Heap) (n0 : Nat) (v : Option Value) (h : Heap) (L : List Loc) : Prop := v = none ∧ Fr n0 L ∧ Keep h0 h [a, bf_, br_] ∧ Exa Z h a "com/example/trajectory/trajectory/search/Nodes" ∧ Fld Z h a "com/example/trajectory/trajectory/search/Nodes" "width" "I" (.int (1 : Int32)) ∧ Fld Z h a "com/example/trajectory/trajectory/search/Nodes" "lengthLimit" "J" (.long ll_) ∧ Fld Z h a "com/example/trajectory/trajectory/search/Nodes" "costs" "[D" (.ref bc_) ∧ Fld Z h a "com/example/trajectory/trajectory/search/Nodes" "lengths" "[I" (.ref bl_) ∧ Fld Z h a "com/example/trajectory/trajectory/search/Nodes" "superseded" "[Z" (.ref bz_) ∧ Fld Z h a "com/example/trajectory/trajectory/search/Nodes" "nextKept" "[I" (.ref bk_) ∧ Fld Z h a "com/example/trajectory/trajectory/search/Nodes" "table" "[I" (.ref bT_) ∧ Fld Z h a "com/example/trajectory/trajectory/search/Nodes" "frontierCosts" "[D" (.ref bf_) ∧ Fld Z h a "com/example/trajectory/trajectory/search/Nodes" "frontierRanks" "[J" (.ref br_) ∧ Fld Z h a "com/example/trajectory/trajectory/search/Nodes" "waiting" "I" (.int (1 : Int32)) ∧ Fld Z h a "com/example/trajectory/trajectory/search/Nodes" "waitingWithin" "J" (.long (own_inc ww_ u_ ll_)) ∧ Fld Z h a "com/example/trajectory/trajectory/search/Nodes" "held" "I" (.int (0 : Int32)) ∧ Arv Z h bf_ kf_ .double (64 : Int32) [(.double dc_), (.double (0 : UInt64)), (.double (0 : UInt64)), (.double (0 : UInt64))] (.double (0 : UInt64)) ∧ Arv Z h br_ kr_ .long (64 : Int32) [(.long (own_rk u_ n_)), (.long (0 : Int64)), (.long (0 : Int64)), (.long (0 : Int64))] (.long (0 : Int64))
set_option maxRecDepth 65536 in
set_option maxHeartbeats 40000000 in
theorem rmq0 (l : Launch) (Z : State) (a0 : Array Value) (hw : ∀ d ∈ tables_1, d.before a0 Z = true) (ws : List Jvm.Cond) (a : Addr) (n_ : Int32) (ll_ : Int64) (ww_ : Int64) (u_ : Int32) (bc_ : Addr) (bl_ : Addr) (bz_ : Addr) (bk_ : Addr) (bT_ : Addr) (bf_ : Addr) (br_ : Addr) (kc_ : ClassId) (kl_ : ClassId) (kf_ : ClassId) (kr_ : ClassId) (vbc_ : List Value) (vbl_ : List Value) (dc_ : UInt64) (h0 : Heap) (n0 : Nat) (Z0 : n0 ≤ h0.size) (E_a : Exa Z h0 a "com/example/trajectory/trajectory/search/Nodes") (F_width_a : Fld Z h0 a "com/example/trajectory/trajectory/search/Nodes" "width" "I" (.int (1 : Int32))) (F_lengthLimit_a : Fld Z h0 a "com/example/trajectory/trajectory/search/Nodes" "lengthLimit" "J" (.long ll_)) (F_costs_a : Fld Z h0 a "com/example/trajectory/trajectory/search/Nodes" "costs" "[D" (.ref bc_)) (F_lengths_a : Fld Z h0 a "com/example/trajectory/trajectory/search/Nodes" "lengths" "[I" (.ref bl_)) (F_superseded_a : Fld Z h0 a "com/example/trajectory/trajectory/search/Nodes" "superseded" "[Z" (.ref bz_)) (F_nextKept_a : Fld Z h0 a "com/example/trajectory/trajectory/search/Nodes" "nextKept" "[I" (.ref bk_)) (F_table_a : Fld Z h0 a "com/example/trajectory/trajectory/search/Nodes" "table" "[I" (.ref bT_)) (F_frontierCosts_a : Fld Z h0 a "com/example/trajectory/trajectory/search/Nodes" "frontierCosts" "[D" (.ref bf_)) (F_frontierRanks_a : Fld Z h0 a "com/example/trajectory/trajectory/search/Nodes" "frontierRanks" "[J" (.ref br_)) (F_waiting_a : Fld Z h0 a "com/example/trajectory/trajectory/search/Nodes" "waiting" "I" (.int (0 : Int32))) (F_waitingWithin_a : Fld Z h0 a "com/example/trajectory/trajectory/search/Nodes" "waitingWithin" "J" (.long ww_)) (F_held_a : Fld Z h0 a "com/example/trajectory/trajectory/search/Nodes" "held" "I" (.int (0 : Int32))) (V_bc_ : Arv Z h0 bc_ kc_ .double (64 : Int32) vbc_ (.double (0 : UInt64))) (V_bl_ : Arv Z h0 bl_ kl_ .int (64 : Int32) vbl_ (.int (0 : Int32))) (V_bf_ : Arv Z h0 bf_ kf_ .double (64 : Int32) [(.double (0 : UInt64)), (.double (0 : UInt64)), (.double (0 : UInt64)), (.double (0 : UInt64))] (.double (0 : UInt64))) (V_br_ : Arv Z h0 br_ kr_ .long (64 : Int32) [(.long (0 : Int64)), (.long (0 : Int64)), (.long (0 : Int64)), (.long (0 : Int64))] (.long (0 : Int64))) (g_a : n0 ≤ a) (g_bf_ : n0 ≤ bf_) (g_br_ : n0 ≤ br_) (ne_a_bf_ : a ≠ bf_) (ne_a_br_ : a ≠ br_) (ne_a_bl_ : a ≠ bl_) (ne_bf__br_ : bf_ ≠ br_) (ne_bl__bf_ : bl_ ≠ bf_) (ne_bl__br_ : bl_ ≠ br_) (hp26 : ¬ n_ < 0 ∧ n_ < (64 : Int32)) (hp27 : vbc_.getD (n_).toNatClampNeg (.double (0 : UInt64)) = (.double dc_)) (hp28 : vbl_.getD (n_).toNatClampNeg (.int (0 : Int32)) = (.int u_)) :
    MetFree l (⟨"com/example/trajectory/trajectory/search/Nodes", "queue", "(I)V"⟩ : MethodName) (head1 (Jvm.Cond.code (⟨"com/example/trajectory/trajectory/search/Nodes", "queue", "(I)V"⟩ : MethodName) prog_59_method_20_code 8 none :: ws) ({ frames := 1, cells := 0, slots := 0, locals := 13 } : Room)) (fun q_ U => q_ = #[(.ref a), (.int n_)] ∧ Z.Warmed39 U.vm ∧ U.heap = h0) (fun _ _ _ _ _ => True) (fun _ U o U' => ∃ v L, o = .returned v ∧ Qq0 Z a n_ ll_ ww_ u_ bc_ bl_ bz_ bk_ bT_ bf_ br_ kc_ kl_ kf_ kr_ vbc_ vbl_ dc_ h0 n0 v U'.heap L ∧ FrameEnd U o U' L ({ frames := 1, cells := 0, slots := 0, locals := 13 } : Room).cells ({ frames := 1, cells := 0, slots := 0, locals := 13 } : Room).slots) := by
  refine MetFree.of_bodySF (plainFor_of_name pn_1) hisR ?_
  intro p e s m args below meth c s₁ Bd hml0 hP hK
  obtain ⟨rfl, hZ, hh⟩ := hP
  have hx := Bd.exec
  have hby := Bd.bytes
  have hml : c.maxLocals = 8 := hml0
  have hown : s.vm.findClass "com/example/trajectory/trajectory/search/Nodes" = some m.cls := findClass_of_methodNamed Bd.named
  have hnm := (name_of_methodNamed Bd.named Bd.method).1
  have X0 : Stand p l e ({ frames := 1, cells := 0, slots := 0, locals := 13 } : Room) s m #[(.ref a), (.int n_)] below meth c s₁ [] 0 0 := Stand.of_body Bd
  have e0 : s₁.heap = h0 := by rw [← hh, Bd.state]; rfl
  have N0 := Fr.nil n0
  show own_Go p e below s (Qq0 Z a n_ ll_ ww_ u_ bc_ bl_ bz_ bk_ bT_ bf_ br_ kc_ kl_ kf_ kr_ vbc_ vbl_ dc_ h0 n0) ({ frames := 1, cells := 0, slots := 0, locals := 13 } : Room).cells ({ frames := 1, cells := 0, slots := 0, locals := 13 } : Room).slots (s₁.setTop (entryFrame m #[(.ref a), (.int n_)] 8))
  refine own_via (fun t k => castTop (ef_q0 m a n_) k) ?_
  have K0 : Keep h0 h0 [a, bf_, br_] := Keep.refl _ _
  show own_Go p e below s _ _ _ (s₁.setTop (mkF m 0 #[lR a, lI n_, lU, lU, lU, lU, lU, lU] []))
  refine own_via (fun _ k => XS.aloadN X0.here hx rfl (hb hby d10_0) rfl rfl k) ?_
  show own_Go p e below s _ _ _ (s₁.setTop (mkF m 1 #[lR a, lI n_, lU, lU, lU, lU, lU, lU] [(.ref a)]))
  obtain ⟨T1, X1, e1, st1⟩ := getF X0 hx hZ hown (host := "") (Or.inl (hwi hw 88 rfl)) Via.refl e0 F_waiting_a (g := (mkF m 1 #[lR a, lI n_, lU, lU, lU, lU, lU, lU] [(.ref a)])) rfl rfl (hb hby d10_1)
  refine own_via st1 ?_
  show own_Go p e below s _ _ _ (T1.setTop (mkF m 4 #[lR a, lI n_, lU, lU, lU, lU, lU, lU] [(.int (0 : Int32))]))
  refine own_via (fun _ k => XS.aloadN X1.here hx rfl (hb hby d10_4) rfl rfl k) ?_
  show own_Go p e below s _ _ _ (T1.setTop (mkF m 5 #[lR a, lI n_, lU, lU, lU, lU, lU, lU] [(.ref a), (.int (0 : Int32))]))
  obtain ⟨T2, X2, e2, st2⟩ := getF X1 hx hZ hown (host := "") (Or.inl (hwi hw 61 rfl)) Via.refl e1 F_frontierCosts_a (g := (mkF m 5 #[lR a, lI n_, lU, lU, lU, lU, lU, lU] [(.ref a), (.int (0 : Int32))])) rfl rfl (hb hby d10_5)
  refine own_via st2 ?_
  show own_Go p e below s _ _ _ (T2.setTop (mkF m 8 #[lR a, lI n_, lU, lU, lU, lU, lU, lU] [(.ref bf_), (.int (0 : Int32))]))
  obtain ⟨cl3, Ar3, q3, S3, M3, H3, G3⟩ := (id V_bf_)
  refine own_via (fun _ k => X2.arraylength hx (by rw [e2]; exact Ar3.1) (State.isArrayOf_alike hZ.alike Ar3.2.1) (g := (mkF m 8 #[lR a, lI n_, lU, lU, lU, lU, lU, lU] [(.ref bf_), (.int (0 : Int32))])) rfl rfl (hb hby d10_8) _ (by rw [len_of S3 M3]; exact k)) ?_
  show own_Go p e below s _ _ _ (T2.setTop (mkF m 9 #[lR a, lI n_, lU, lU, lU, lU, lU, lU] [(.int (64 : Int32)), (.int (0 : Int32))]))
  refine own_via (fun _ k => XS.icmpYes X2.here hx rfl (pc0 := 9) (pc' := 46) rfl (hb hby d10_9) rfl (Jvm.Free.XT.ii_ne_t (by decide)) (by decide) (by decide) k) ?_
  show own_Go p e below s _ _ _ (T2.setTop (mkF m 46 #[lR a, lI n_, lU, lU, lU, lU, lU, lU] []))
  refine own_via (fun _ k => XS.aloadN X2.here hx rfl (hb hby d10_46) rfl rfl k) ?_
  show own_Go p e below s _ _ _ (T2.setTop (mkF m 47 #[lR a, lI n_, lU, lU, lU, lU, lU, lU] [(.ref a)]))
  obtain ⟨T4, X4, e4, st4⟩ := getF X2 hx hZ hown (host := "") (Or.inl (hwi hw 43 rfl)) Via.refl e2 F_costs_a (g := (mkF m 47 #[lR a, lI n_, lU, lU, lU, lU, lU, lU] [(.ref a)])) rfl rfl (hb hby d10_47)
  refine own_via st4 ?_
  show own_Go p e below s _ _ _ (T4.setTop (mkF m 50 #[lR a, lI n_, lU, lU, lU, lU, lU, lU] [(.ref bc_)]))
  refine own_via (fun _ k => XS.iloadN X4.here hx rfl (hb hby d10_50) rfl k) ?_
  show own_Go p e below s _ _ _ (T4.setTop (mkF m 51 #[lR a, lI n_, lU, lU, lU, lU, lU, lU] [(.int n_), (.ref bc_)]))
  obtain ⟨cl5, Ar5, q5, S5, M5, H5, G5⟩ := (id V_bc_)
  have hin5 : ¬ (n_ < 0 ∨ cl5.slots.size ≤ (n_).toNatClampNeg) := inb_of S5 hp26
  have hat5 : cl5.slots[(n_).toNatClampNeg]? = some (.double dc_) := Has.at H5 hin5 hp27
  refine own_via (fun _ k => X4.daload hx (j := n_) (v := (.double dc_)) (by rw [e4]; exact Ar5.1) (State.isArrayOf_alike hZ.alike Ar5.2.1) Ar5.2.2 hin5 hat5 (g := (mkF m 51 #[lR a, lI n_, lU, lU, lU, lU, lU, lU] [(.int n_), (.ref bc_)])) rfl rfl (hb hby d10_51) _ k) ?_
  show own_Go p e below s _ _ _ (T4.setTop (mkF m 52 #[lR a, lI n_, lU, lU, lU, lU, lU, lU] [(.double dc_)]))
  refine own_via (fun _ k => XS.dstoreN X4.here hx rfl (hb hby d10_52) rfl (l' := #[lR a, lI n_, lD dc_, lS, lU, lU, lU, lU]) rfl k) ?_
  show own_Go p e below s _ _ _ (T4.setTop (mkF m 53 #[lR a, lI n_, lD dc_, lS, lU, lU, lU, lU] []))
  refine own_via (fun _ k => XS.aloadN X4.here hx rfl (hb hby d10_53) rfl rfl k) ?_
  show own_Go p e below s _ _ _ (T4.setTop (mkF m 54 #[lR a, lI n_, lD dc_, lS, lU, lU, lU, lU] [(.ref a)]))
  obtain ⟨T6, X6, e6, st6⟩ := getF X4 hx hZ hown (host := "") (Or.inl (hwi hw 48 rfl)) Via.refl e4 F_lengths_a (g := (mkF m 54 #[lR a, lI n_, lD dc_, lS, lU, lU, lU, lU] [(.ref a)])) rfl rfl (hb hby d10_54)
  refine own_via st6 ?_
  show own_Go p e below s _ _ _ (T6.setTop (mkF m 57 #[lR a, lI n_, lD dc_, lS, lU, lU, lU, lU] [(.ref bl_)]))
  refine own_via (fun _ k => XS.iloadN X6.here hx rfl (hb hby d10_57) rfl k) ?_
  show own_Go p e below s _ _ _ (T6.setTop (mkF m 58 #[lR a, lI n_, lD dc_, lS, lU, lU, lU, lU] [(.int n_), (.ref bl_)]))
  obtain ⟨cl7, Ar7, q7, S7, M7, H7, G7⟩ := (id V_bl_)
  have hin7 : ¬ (n_ < 0 ∨ cl7.slots.size ≤ (n_).toNatClampNeg) := inb_of S7 hp26
  have hat7 : cl7.slots[(n_).toNatClampNeg]? = some (.int u_) := Has.at H7 hin7 hp28
  refine own_via (fun _ k => X6.iaload hx (j := n_) (v := (.int u_)) (by rw [e6]; exact Ar7.1) (State.isArrayOf_alike hZ.alike Ar7.2.1) Ar7.2.2 hin7 hat7 (g := (mkF m 58 #[lR a, lI n_, lD dc_, lS, lU, lU, lU, lU] [(.int n_), (.ref bl_)])) rfl rfl (hb hby d10_58) _ k) ?_
  show own_Go p e below s _ _ _ (T6.setTop (mkF m 59 #[lR a, lI n_, lD dc_, lS, lU, lU, lU, lU] [(.int u_)]))
  refine own_via (fun _ k => XS.i2l X6.here hx rfl (hb hby d10_59) rfl k) ?_
  show own_Go p e below s _ _ _ (T6.setTop (mkF m 60 #[lR a, lI n_, lD dc_, lS, lU, lU, lU, lU] [(.long (o_i2l u_))]))
  refine own_via (fun _ k => XS.bipush X6.here hx rfl (hb hby d10_60) k) ?_
  show own_Go p e below s _ _ _ (T6.setTop (mkF m 62 #[lR a, lI n_, lD dc_, lS, lU, lU, lU, lU] [(.int (32 : Int32)), (.long (o_i2l u_))]))
  refine own_via (fun _ k => XS.lshl X6.here hx rfl (hb hby d10_62) rfl k) ?_
  show own_Go p e below s _ _ _ (T6.setTop (mkF m 63 #[lR a, lI n_, lD dc_, lS, lU, lU, lU, lU] [(.long (o_lshl (o_i2l u_) (32 : Int32)))]))
  refine own_via (fun _ k => XS.iloadN X6.here hx rfl (hb hby d10_63) rfl k) ?_
  show own_Go p e below s _ _ _ (T6.setTop (mkF m 64 #[lR a, lI n_, lD dc_, lS, lU, lU, lU, lU] [(.int n_), (.long (o_lshl (o_i2l u_) (32 : Int32)))]))
  refine own_via (fun _ k => XS.i2l X6.here hx rfl (hb hby d10_64) rfl k) ?_
  show own_Go p e below s _ _ _ (T6.setTop (mkF m 65 #[lR a, lI n_, lD dc_, lS, lU, lU, lU, lU] [(.long (o_i2l n_)), (.long (o_lshl (o_i2l u_) (32 : Int32)))]))
  refine own_via (fun _ k => XS.lor X6.here hx rfl (hb hby d10_65) rfl k) ?_
  show own_Go p e below s _ _ _ (T6.setTop (mkF m 66 #[lR a, lI n_, lD dc_, lS, lU, lU, lU, lU] [(.long ((o_lshl (o_i2l u_) (32 : Int32)) ||| (o_i2l n_)))]))
  rw [show ((o_lshl (o_i2l u_) (32 : Int32)) ||| (o_i2l n_)) = (own_rk u_ n_) from rfl]
  show own_Go p e below s _ _ _ (T6.setTop (mkF m 66 #[lR a, lI n_, lD dc_, lS, lU, lU, lU, lU] [(.long (own_rk u_ n_))]))
  refine own_via (fun _ k => XS.lstore X6.here hx rfl (hb hby d10_66) rfl (l' := #[lR a, lI n_, lD dc_, lS, lJ (own_rk u_ n_), lS, lU, lU]) rfl k) ?_
  show own_Go p e below s _ _ _ (T6.setTop (mkF m 68 #[lR a, lI n_, lD dc_, lS, lJ (own_rk u_ n_), lS, lU, lU] []))
  refine own_via (fun _ k => XS.aloadN X6.here hx rfl (hb hby d10_68) rfl rfl k) ?_
  show own_Go p e below s _ _ _ (T6.setTop (mkF m 69 #[lR a, lI n_, lD dc_, lS, lJ (own_rk u_ n_), lS, lU, lU] [(.ref a)]))
  refine own_via (fun _ k => XS.dup X6.here hx rfl (hb hby d10_69) rfl rfl k) ?_
  show own_Go p e below s _ _ _ (T6.setTop (mkF m 70 #[lR a, lI n_, lD dc_, lS, lJ (own_rk u_ n_), lS, lU, lU] [(.ref a), (.ref a)]))
  obtain ⟨T8, X8, e8, st8⟩ := getF X6 hx hZ hown (host := "") (Or.inl (hwi hw 88 rfl)) Via.refl e6 F_waiting_a (g := (mkF m 70 #[lR a, lI n_, lD dc_, lS, lJ (own_rk u_ n_), lS, lU, lU] [(.ref a), (.ref a)])) rfl rfl (hb hby d10_70)
  refine own_via st8 ?_
  show own_Go p e below s _ _ _ (T8.setTop (mkF m 73 #[lR a, lI n_, lD dc_, lS, lJ (own_rk u_ n_), lS, lU, lU] [(.int (0 : Int32)), (.ref a)]))
  refine own_via (fun _ k => XS.dupX1 X8.here hx rfl (hb hby d10_73) rfl rfl rfl k) ?_
  show own_Go p e below s _ _ _ (T8.setTop (mkF m 74 #[lR a, lI n_, lD dc_, lS, lJ (own_rk u_ n_), lS, lU, lU] [(.int (0 : Int32)), (.ref a), (.int (0 : Int32))]))
  refine own_via (fun _ k => XS.iconst X8.here hx rfl (hb hby d10_74) k) ?_
  show own_Go p e below s _ _ _ (T8.setTop (mkF m 75 #[lR a, lI n_, lD dc_, lS, lJ (own_rk u_ n_), lS, lU, lU] [(.int (1 : Int32)), (.int (0 : Int32)), (.ref a), (.int (0 : Int32))]))
  refine own_via (fun _ k => XS.iadd X8.here hx rfl (hb hby d10_75) rfl k) ?_
  show own_Go p e below s _ _ _ (T8.setTop (mkF m 76 #[lR a, lI n_, lD dc_, lS, lJ (own_rk u_ n_), lS, lU, lU] [(.int (1 : Int32)), (.ref a), (.int (0 : Int32))]))
  obtain ⟨T9, h9, X9, e9, W9, st9⟩ := putF X8 hx hZ hown (host := "") (Or.inl (hwi hw 88 rfl)) Via.refl e8 F_waiting_a E_a (Or.inl (hwi hw 89 rfl)) (hwi hw 3 rfl) (ty := .int) (by decide) rfl rfl (g := (mkF m 76 #[lR a, lI n_, lD dc_, lS, lJ (own_rk u_ n_), lS, lU, lU] [(.int (1 : Int32)), (.ref a), (.int (0 : Int32))])) rfl rfl (hb hby d10_76)
  have N9 := Fr.snoc X9 N0 g_a
  have Fw9 := F_waiting_a.same W9
  have Z9 : n0 ≤ h9.size := Nat.le_trans Z0 (Keep.of_wr W9).1
  have K9 : Keep h0 h9 [a, bf_, br_] := K0.wr W9 (Or.inl (List.mem_of_getElem? (i := 0) rfl))
  refine own_via st9 ?_
  show own_Go p e below s _ _ _ (T9.setTop (mkF m 79 #[lR a, lI n_, lD dc_, lS, lJ (own_rk u_ n_), lS, lU, lU] [(.int (0 : Int32))]))
  refine own_via (fun _ k => XS.istore X9.here hx rfl (hb hby d10_79) rfl (l' := #[lR a, lI n_, lD dc_, lS, lJ (own_rk u_ n_), lS, lI 0, lU]) rfl k) ?_
  show own_Go p e below s _ _ _ (T9.setTop (mkF m 81 #[lR a, lI n_, lD dc_, lS, lJ (own_rk u_ n_), lS, lI 0, lU] []))
  refine own_via (fun _ k => XS.iload X9.here hx rfl (hb hby d10_81) rfl k) ?_
  show own_Go p e below s _ _ _ (T9.setTop (mkF m 83 #[lR a, lI n_, lD dc_, lS, lJ (own_rk u_ n_), lS, lI 0, lU] [(.int (0 : Int32))]))
  refine own_via (fun _ k => XS.iconst X9.here hx rfl (hb hby d10_83) k) ?_
  show own_Go p e below s _ _ _ (T9.setTop (mkF m 84 #[lR a, lI n_, lD dc_, lS, lJ (own_rk u_ n_), lS, lI 0, lU] [(.int (1 : Int32)), (.int (0 : Int32))]))
  refine own_via (fun _ k => XS.isub X9.here hx rfl (hb hby d10_84) rfl k) ?_
  show own_Go p e below s _ _ _ (T9.setTop (mkF m 85 #[lR a, lI n_, lD dc_, lS, lJ (own_rk u_ n_), lS, lI 0, lU] [(.int (-1 : Int32))]))
  refine own_via (fun _ k => XS.iconst X9.here hx rfl (hb hby d10_85) k) ?_
  show own_Go p e below s _ _ _ (T9.setTop (mkF m 86 #[lR a, lI n_, lD dc_, lS, lJ (own_rk u_ n_), lS, lI 0, lU] [(.int (2 : Int32)), (.int (-1 : Int32))]))
  refine own_via (fun _ k => XS.idiv X9.here hx rfl (hb hby d10_86) rfl (by decide) k) ?_
  show own_Go p e below s _ _ _ (T9.setTop (mkF m 87 #[lR a, lI n_, lD dc_, lS, lJ (own_rk u_ n_), lS, lI 0, lU] [(.int ((-1 : Int32) / (2 : Int32)))]))
  rw [show ((-1 : Int32) / (2 : Int32)) = (0 : Int32) from (by decide)]
  show own_Go p e below s _ _ _ (T9.setTop (mkF m 87 #[lR a, lI n_, lD dc_, lS, lJ (own_rk u_ n_), lS, lI 0, lU] [(.int (0 : Int32))]))
  refine own_via (fun _ k => XS.istore X9.here hx rfl (hb hby d10_87) rfl (l' := #[lR a, lI n_, lD dc_, lS, lJ (own_rk u_ n_), lS, lI 0, lI 0]) rfl k) ?_
  show own_Go p e below s _ _ _ (T9.setTop (mkF m 89 #[lR a, lI n_, lD dc_, lS, lJ (own_rk u_ n_), lS, lI 0, lI 0] []))
  refine own_via (fun _ k => XS.iload X9.here hx rfl (hb hby d10_89) rfl k) ?_
  show own_Go p e below s _ _ _ (T9.setTop (mkF m 91 #[lR a, lI n_, lD dc_, lS, lJ (own_rk u_ n_), lS, lI 0, lI 0] [(.int (0 : Int32))]))
  refine own_via (fun _ k => XS.ifYes X9.here hx rfl (pc0 := 91) (pc' := 160) rfl (hb hby d10_91) rfl (Jvm.Free.XT.i0_le_t (by decide)) (by decide) (by decide) k) ?_
  show own_Go p e below s _ _ _ (T9.setTop (mkF m 160 #[lR a, lI n_, lD dc_, lS, lJ (own_rk u_ n_), lS, lI 0, lI 0] []))
  refine own_via (fun _ k => XS.aloadN X9.here hx rfl (hb hby d10_160) rfl rfl k) ?_
  show own_Go p e below s _ _ _ (T9.setTop (mkF m 161 #[lR a, lI n_, lD dc_, lS, lJ (own_rk u_ n_), lS, lI 0, lI 0] [(.ref a)]))
  have F10 := (F_frontierCosts_a.other W9 (Or.inr (sn16 hw)))
  obtain ⟨T11, X11, e11, st11⟩ := getF X9 hx hZ hown (host := "") (Or.inl (hwi hw 61 rfl)) Via.refl e9 F10 (g := (mkF m 161 #[lR a, lI n_, lD dc_, lS, lJ (own_rk u_ n_), lS, lI 0, lI 0] [(.ref a)])) rfl rfl (hb hby d10_161)
  refine own_via st11 ?_
  show own_Go p e below s _ _ _ (T11.setTop (mkF m 164 #[lR a, lI n_, lD dc_, lS, lJ (own_rk u_ n_), lS, lI 0, lI 0] [(.ref bf_)]))
  refine own_via (fun _ k => XS.iload X11.here hx rfl (hb hby d10_164) rfl k) ?_
  show own_Go p e below s _ _ _ (T11.setTop (mkF m 166 #[lR a, lI n_, lD dc_, lS, lJ (own_rk u_ n_), lS, lI 0, lI 0] [(.int (0 : Int32)), (.ref bf_)]))
  refine own_via (fun _ k => XS.dloadN X11.here hx rfl (hb hby d10_166) rfl k) ?_
  show own_Go p e below s _ _ _ (T11.setTop (mkF m 167 #[lR a, lI n_, lD dc_, lS, lJ (own_rk u_ n_), lS, lI 0, lI 0] [(.double dc_), (.int (0 : Int32)), (.ref bf_)]))
  have F13 := (V_bf_.other W9 (Ne.symm ne_a_bf_))
  obtain ⟨cl12, Ar12, q12, S12, M12, H12, G12⟩ := (id F13)
  have hin12 : ¬ ((0 : Int32) < 0 ∨ cl12.slots.size ≤ ((0 : Int32)).toNatClampNeg) := inb_of S12 ⟨by decide, by decide⟩
  obtain ⟨T12, h12, X12, e12, W12, st12⟩ := stD X11 hx hZ e11 Ar12 (j := (0 : Int32)) hin12 (g := (mkF m 167 #[lR a, lI n_, lD dc_, lS, lJ (own_rk u_ n_), lS, lI 0, lI 0] [(.double dc_), (.int (0 : Int32)), (.ref bf_)])) rfl rfl (hb hby d10_167)
  have V12 : Arv Z h12 bf_ kf_ .double (64 : Int32) [(.double dc_), (.double (0 : UInt64)), (.double (0 : UInt64)), (.double (0 : UInt64))] (.double (0 : UInt64)) := Arv.set Ar12 q12 S12 M12 H12 G12 rfl W12 0 rfl (Nat.le_of_ble_eq_true rfl)
  have N12 := Fr.snoc X12 N9 g_bf_
  have Z12 : n0 ≤ h12.size := Nat.le_trans Z9 (Keep.of_wr W12).1
  have K12 : Keep h0 h12 [a, bf_, br_] := K9.wr W12 (Or.inl (List.mem_of_getElem? (i := 1) rfl))
  refine own_via st12 ?_
  show own_Go p e below s _ _ _ (T12.setTop (mkF m 168 #[lR a, lI n_, lD dc_, lS, lJ (own_rk u_ n_), lS, lI 0, lI 0] []))
  refine own_via (fun _ k => XS.aloadN X12.here hx rfl (hb hby d10_168) rfl rfl k) ?_
  show own_Go p e below s _ _ _ (T12.setTop (mkF m 169 #[lR a, lI n_, lD dc_, lS, lJ (own_rk u_ n_), lS, lI 0, lI 0] [(.ref a)]))
  have F14 := ((F_frontierRanks_a.other W9 (Or.inr (sn17 hw))).other W12 (Or.inl ne_a_bf_))
  obtain ⟨T15, X15, e15, st15⟩ := getF X12 hx hZ hown (host := "") (Or.inl (hwi hw 63 rfl)) Via.refl e12 F14 (g := (mkF m 169 #[lR a, lI n_, lD dc_, lS, lJ (own_rk u_ n_), lS, lI 0, lI 0] [(.ref a)])) rfl rfl (hb hby d10_169)
  refine own_via st15 ?_
  show own_Go p e below s _ _ _ (T15.setTop (mkF m 172 #[lR a, lI n_, lD dc_, lS, lJ (own_rk u_ n_), lS, lI 0, lI 0] [(.ref br_)]))
  refine own_via (fun _ k => XS.iload X15.here hx rfl (hb hby d10_172) rfl k) ?_
  show own_Go p e below s _ _ _ (T15.setTop (mkF m 174 #[lR a, lI n_, lD dc_, lS, lJ (own_rk u_ n_), lS, lI 0, lI 0] [(.int (0 : Int32)), (.ref br_)]))
  refine own_via (fun _ k => XS.lload X15.here hx rfl (hb hby d10_174) rfl k) ?_
  show own_Go p e below s _ _ _ (T15.setTop (mkF m 176 #[lR a, lI n_, lD dc_, lS, lJ (own_rk u_ n_), lS, lI 0, lI 0] [(.long (own_rk u_ n_)), (.int (0 : Int32)), (.ref br_)]))
  have F17 := ((V_br_.other W9 (Ne.symm ne_a_br_)).other W12 (Ne.symm ne_bf__br_))
  obtain ⟨cl16, Ar16, q16, S16, M16, H16, G16⟩ := (id F17)
  have hin16 : ¬ ((0 : Int32) < 0 ∨ cl16.slots.size ≤ ((0 : Int32)).toNatClampNeg) := inb_of S16 ⟨by decide, by decide⟩
  obtain ⟨T16, h16, X16, e16, W16, st16⟩ := stJ X15 hx hZ e15 Ar16 (j := (0 : Int32)) hin16 (g := (mkF m 176 #[lR a, lI n_, lD dc_, lS, lJ (own_rk u_ n_), lS, lI 0, lI 0] [(.long (own_rk u_ n_)), (.int (0 : Int32)), (.ref br_)])) rfl rfl (hb hby d10_176)
  have V16 : Arv Z h16 br_ kr_ .long (64 : Int32) [(.long (own_rk u_ n_)), (.long (0 : Int64)), (.long (0 : Int64)), (.long (0 : Int64))] (.long (0 : Int64)) := Arv.set Ar16 q16 S16 M16 H16 G16 rfl W16 0 rfl (Nat.le_of_ble_eq_true rfl)
  have N16 := Fr.snoc X16 N12 g_br_
  have Z16 : n0 ≤ h16.size := Nat.le_trans Z12 (Keep.of_wr W16).1
  have K16 : Keep h0 h16 [a, bf_, br_] := K12.wr W16 (Or.inl (List.mem_of_getElem? (i := 2) rfl))
  refine own_via st16 ?_
  show own_Go p e below s _ _ _ (T16.setTop (mkF m 177 #[lR a, lI n_, lD dc_, lS, lJ (own_rk u_ n_), lS, lI 0, lI 0] []))
  refine own_via (fun _ k => XS.aloadN X16.here hx rfl (hb hby d10_177) rfl rfl k) ?_
  show own_Go p e below s _ _ _ (T16.setTop (mkF m 178 #[lR a, lI n_, lD dc_, lS, lJ (own_rk u_ n_), lS, lI 0, lI 0] [(.ref a)]))
  refine own_via (fun _ k => XS.iloadN X16.here hx rfl (hb hby d10_178) rfl k) ?_
  show own_Go p e below s _ _ _ (T16.setTop (mkF m 179 #[lR a, lI n_, lD dc_, lS, lJ (own_rk u_ n_), lS, lI 0, lI 0] [(.int n_), (.ref a)]))
  have F19 := (((F_lengths_a.other W9 (Or.inr (sn18 hw))).other W12 (Or.inl ne_a_bf_)).other W16 (Or.inl ne_a_br_))
  have F20 := (((F_lengthLimit_a.other W9 (Or.inr (sn19 hw))).other W12 (Or.inl ne_a_bf_)).other W16 (Or.inl ne_a_br_))
  have F21 := (((V_bl_.other W9 (Ne.symm ne_a_bl_)).other W12 ne_bl__bf_).other W16 ne_bl__br_)
  have F22 := (((E_a.wr W9).wr W12).wr W16)
  obtain ⟨cq18, kq18, qa18, qb18, qc18⟩ := isOf hZ e16 F22
  obtain ⟨_, _, ⟨T18, L18, k18, n18⟩, -, X18, ⟨Lc18, hQ18, l18, y18, z18⟩, st18⟩ := X16.virtualBack hx (y := (⟨"com/example/trajectory/trajectory/search/Nodes", "isWithinLimit", "(I)Z"⟩ : MethodName)) (z := (⟨"com/example/trajectory/trajectory/search/Nodes", "isWithinLimit", "(I)Z"⟩ : MethodName)) hown (mvT hZ (hwi hw 90 rfl)) (mvT hZ (hwi hw 91 rfl)) (notFace_of_selects (args := #[]) (mvT hZ (hwi hw 93 rfl))) (mvT hZ (hwi hw 93 rfl)) (mvT hZ (hwi hw 92 rfl)) (by decide) (backOf (W := 0) (rm11 l Z a0 hw [] a n_ bl_ ll_ kl_ vbl_ u_ h16 n0 Z16 F19 F20 F21 hp26 hp28) hZ (hwi hw 94 rfl) (hwi hw 4 rfl) (by decide) (by decide)) qa18 qc18 (g := (mkF m 179 #[lR a, lI n_, lD dc_, lS, lJ (own_rk u_ n_), lS, lI 0, lI 0] [(.int n_), (.ref a)])) rfl (by rw [hml]; rfl) (Steps.refl _) (argsL := [(.int n_)]) (rest := []) (lenOf pd_3 rfl) rfl (by show 2 * 0 + _ ≤ _; exact Nat.le_of_eq rfl) (hb hby d10_179) (fun _ _ => ⟨rfl, e16, (by decide : 0 + 0 ≤ _), (by decide : 0 + 0 ≤ _)⟩)
  dsimp only [Pt.U, Pt.locs, Pt.cells, Pt.slots] at X18 l18 y18 z18 st18 hQ18
  subst l18 y18 z18
  obtain ⟨rfl, N18q, e18⟩ := hQ18
  have N18 := Fr.app N16 N18q
  refine own_viaT st18 ?_
  show own_Go p e below s _ _ _ (T18.setTop (mkF m 182 #[lR a, lI n_, lD dc_, lS, lJ (own_rk u_ n_), lS, lI 0, lI 0] [(.int (own_w u_ ll_))]))
  by_cases hc23 : (own_w u_ ll_) = (0 : Int32)
  · refine own_via (fun _ k => XS.ifYes X18.here hx rfl (pc0 := 182) (pc' := 195) rfl (hb hby d10_182) rfl (Jvm.Free.XT.i0_eq_t hc23) (by decide) (by decide) k) ?_
    show own_Go p e below s _ _ _ (T18.setTop (mkF m 195 #[lR a, lI n_, lD dc_, lS, lJ (own_rk u_ n_), lS, lI 0, lI 0] []))
    have F24 := (((F_width_a.other W9 (Or.inr (sn20 hw))).other W12 (Or.inl ne_a_bf_)).other W16 (Or.inl ne_a_br_))
    have F25 := (((F_costs_a.other W9 (Or.inr (sn21 hw))).other W12 (Or.inl ne_a_bf_)).other W16 (Or.inl ne_a_br_))
    have F26 := (((F_superseded_a.other W9 (Or.inr (sn22 hw))).other W12 (Or.inl ne_a_bf_)).other W16 (Or.inl ne_a_br_))
    have F27 := (((F_nextKept_a.other W9 (Or.inr (sn23 hw))).other W12 (Or.inl ne_a_bf_)).other W16 (Or.inl ne_a_br_))
    have F28 := (((F_table_a.other W9 (Or.inr (sn24 hw))).other W12 (Or.inl ne_a_bf_)).other W16 (Or.inl ne_a_br_))
    have F29 := ((F10.other W12 (Or.inl ne_a_bf_)).other W16 (Or.inl ne_a_br_))
    have F30 := (F14.other W16 (Or.inl ne_a_br_))
    have F31 := ((Fw9.other W12 (Or.inl ne_a_bf_)).other W16 (Or.inl ne_a_br_))
    have F32 := (((F_waitingWithin_a.other W9 (Or.inr (sn25 hw))).other W12 (Or.inl ne_a_bf_)).other W16 (Or.inl ne_a_br_))
    have F33 := (((F_held_a.other W9 (Or.inr (sn26 hw))).other W12 (Or.inl ne_a_bf_)).other W16 (Or.inl ne_a_br_))
    have F34 := (V12.other W16 ne_bf__br_)
    exact own_goV X18 hx Bd.returns (hb hby d10_195) Bd.notSynchronized (by decide) (by decide) (by rw [e18]; exact ⟨rfl, N18, K16, F22, F24, F20, F25, F19, F26, F27, F28, F29, F30, F31, (by rw [own_inc, if_pos hc23]; exact F32), F33, F34, V16⟩)
  · refine own_via (fun _ k => XS.ifNo X18.here hx rfl (hb hby d10_182) rfl (Jvm.Free.XT.i0_eq_f hc23) k) ?_
    show own_Go p e below s _ _ _ (T18.setTop (mkF m 185 #[lR a, lI n_, lD dc_, lS, lJ (own_rk u_ n_), lS, lI 0, lI 0] []))
    refine own_via (fun _ k => XS.aloadN X18.here hx rfl (hb hby d10_185) rfl rfl k) ?_
    show own_Go p e below s _ _ _ (T18.setTop (mkF m 186 #[lR a, lI n_, lD dc_, lS, lJ (own_rk u_ n_), lS, lI 0, lI 0] [(.ref a)]))
    refine own_via (fun _ k => XS.dup X18.here hx rfl (hb hby d10_186) rfl rfl k) ?_
    show own_Go p e below s _ _ _ (T18.setTop (mkF m 187 #[lR a, lI n_, lD dc_, lS, lJ (own_rk u_ n_), lS, lI 0, lI 0] [(.ref a), (.ref a)]))
    have F35 := (((F_waitingWithin_a.other W9 (Or.inr (sn25 hw))).other W12 (Or.inl ne_a_bf_)).other W16 (Or.inl ne_a_br_))
    obtain ⟨T36, X36, e36, st36⟩ := getF X18 hx hZ hown (host := "") (Or.inl (hwi hw 81 rfl)) Via.refl e18 F35 (g := (mkF m 187 #[lR a, lI n_, lD dc_, lS, lJ (own_rk u_ n_), lS, lI 0, lI 0] [(.ref a), (.ref a)])) rfl rfl (hb hby d10_187)
    refine own_via st36 ?_
    show own_Go p e below s _ _ _ (T36.setTop (mkF m 190 #[lR a, lI n_, lD dc_, lS, lJ (own_rk u_ n_), lS, lI 0, lI 0] [(.long ww_), (.ref a)]))
    refine own_via (fun _ k => XS.lconst X36.here hx rfl (hb hby d10_190) k) ?_
    show own_Go p e below s _ _ _ (T36.setTop (mkF m 191 #[lR a, lI n_, lD dc_, lS, lJ (own_rk u_ n_), lS, lI 0, lI 0] [(.long (1 : Int64)), (.long ww_), (.ref a)]))
    refine own_via (fun _ k => XS.ladd X36.here hx rfl (hb hby d10_191) rfl k) ?_
    show own_Go p e below s _ _ _ (T36.setTop (mkF m 192 #[lR a, lI n_, lD dc_, lS, lJ (own_rk u_ n_), lS, lI 0, lI 0] [(.long (ww_ + (1 : Int64))), (.ref a)]))
    obtain ⟨T37, h37, X37, e37, W37, st37⟩ := putF X36 hx hZ hown (host := "") (Or.inl (hwi hw 81 rfl)) Via.refl e36 F35 F22 (Or.inl (hwi hw 82 rfl)) (hwi hw 3 rfl) (ty := .long) (by decide) rfl rfl (g := (mkF m 192 #[lR a, lI n_, lD dc_, lS, lJ (own_rk u_ n_), lS, lI 0, lI 0] [(.long (ww_ + (1 : Int64))), (.ref a)])) rfl rfl (hb hby d10_192)
    have N37 := Fr.snoc X37 N18 g_a
    have Fw37 := F35.same W37
    have Z37 : n0 ≤ h37.size := Nat.le_trans Z16 (Keep.of_wr W37).1
    have K37 : Keep h0 h37 [a, bf_, br_] := K16.wr W37 (Or.inl (List.mem_of_getElem? (i := 0) rfl))
    refine own_via st37 ?_
    show own_Go p e below s _ _ _ (T37.setTop (mkF m 195 #[lR a, lI n_, lD dc_, lS, lJ (own_rk u_ n_), lS, lI 0, lI 0] []))
    have F38 := (F22.wr W37)
    have F39 := ((((F_width_a.other W9 (Or.inr (sn20 hw))).other W12 (Or.inl ne_a_bf_)).other W16 (Or.inl ne_a_br_)).other W37 (Or.inr (sn27 hw)))
    have F40 := (F20.other W37 (Or.inr (sn28 hw)))
    have F41 := ((((F_costs_a.other W9 (Or.inr (sn21 hw))).other W12 (Or.inl ne_a_bf_)).other W16 (Or.inl ne_a_br_)).other W37 (Or.inr (sn29 hw)))
    have F42 := (F19.other W37 (Or.inr (sn30 hw)))
    have F43 := ((((F_superseded_a.other W9 (Or.inr (sn22 hw))).other W12 (Or.inl ne_a_bf_)).other W16 (Or.inl ne_a_br_)).other W37 (Or.inr (sn31 hw)))
    have F44 := ((((F_nextKept_a.other W9 (Or.inr (sn23 hw))).other W12 (Or.inl ne_a_bf_)).other W16 (Or.inl ne_a_br_)).other W37 (Or.inr (sn32 hw)))
    have F45 := ((((F_table_a.other W9 (Or.inr (sn24 hw))).other W12 (Or.inl ne_a_bf_)).other W16 (Or.inl ne_a_br_)).other W37 (Or.inr (sn33 hw)))
    have F46 := (((F10.other W12 (Or.inl ne_a_bf_)).other W16 (Or.inl ne_a_br_)).other W37 (Or.inr (sn34 hw)))
    have F47 := ((F14.other W16 (Or.inl ne_a_br_)).other W37 (Or.inr (sn35 hw)))
    have F48 := (((Fw9.other W12 (Or.inl ne_a_bf_)).other W16 (Or.inl ne_a_br_)).other W37 (Or.inr (sn36 hw)))
    have F49 := ((((F_held_a.other W9 (Or.inr (sn26 hw))).other W12 (Or.inl ne_a_bf_)).other W16 (Or.inl ne_a_br_)).other W37 (Or.inr (sn37 hw)))
    have F50 := ((V12.other W16 ne_bf__br_).other W37 (Ne.symm ne_a_bf_))
    have F51 := (V16.other W37 (Ne.symm ne_a_br_))
    exact own_goV X37 hx Bd.returns (hb hby d10_195) Bd.notSynchronized (by decide) (by decide) (by rw [e37]; exact ⟨rfl, N37, K37, F38, F39, F40, F41, F42, F43, F44, F45, F46, F47, F48, (by rw [own_inc, if_neg hc23]; exact Fw37), F49, F50, F51⟩)
theorem d10_94 : decode prog_59_method_20_code 94 = .ok (.dload_n 2, 1) := by decide +kernel
theorem d10_95 : decode prog_59_method_20_code 95 = .ok (.lload 4, 2) := by decide +kernel
theorem d10_97 : decode prog_59_method_20_code 97 = .ok (.aload_n 0, 1) := by decide +kernel
theorem d10_98 : decode prog_59_method_20_code 98 = .ok (.getfield 76, 3) := by decide +kernel
theorem d10_101 : decode prog_59_method_20_code 101 = .ok (.iload 7, 2) := by decide +kernel
theorem d10_103 : decode prog_59_method_20_code 103 = .ok (.daload, 1) := by decide +kernel
theorem d10_104 : decode prog_59_method_20_code 104 = .ok (.aload_n 0, 1) := by decide +kernel
theorem d10_105 : decode prog_59_method_20_code 105 = .ok (.getfield 79, 3) := by decide +kernel
theorem d10_108 : decode prog_59_method_20_code 108 = .ok (.iload 7, 2) := by decide +kernel
theorem d10_110 : decode prog_59_method_20_code 110 = .ok (.laload, 1) := by decide +kernel
theorem pd_4 : parseMethodDescriptor "(DJDJ)Z" = some ⟨[.double, .long, .double, .long], some .boolean⟩ := by decide +kernel
theorem d10_111 : decode prog_59_method_20_code 111 = .ok (.invokestatic 146, 3) := by decide +kernel
theorem d10_114 : decode prog_59_method_20_code 114 = .ok (.ifCond .eq 46, 3) := by decide +kernel
theorem ef_q1a (m : MethodId) (x0 : Addr) (x1 : Int32) : entryFrame m #[(.ref x0), (.int x1)] 8 = mkF m 0 #[.val (.ref x0), .val (.int x1), .unset, .unset, .unset, .unset, .unset, .unset] [] := by first | (simp [entryFrame, mkF, argsToLocals, Value.category]; done) | rfl
def Qq1a (Z : State) (a : Addr) (n_ : Int32) (ll_ : Int64) (ww_ : Int64) (u_ : Int32) (bc_ : Addr) (bl_ : Addr) (bz_ : Addr) (bk_ : Addr) (bT_ : Addr) (bf_ : Addr) (br_ : Addr) (kc_ : ClassId) (kl_ : ClassId) (kf_ : ClassId) (kr_ : ClassId) (vbc_ : List Value) (vbl_ : List Value) (dx_ : UInt64) (dy_ : UInt64) (x_ : Int32) (y_ : Int32) (r0_ : Int64) (h0 : Heap) (n0 : Nat) (v : Option Value) (h : Heap) (L : List Loc) : Prop := v = none ∧ Fr n0 L ∧ Keep h0 h [a, bf_, br_] ∧ Exa Z h a "com/example/trajectory/trajectory/search/Nodes" ∧ Fld Z h a "com/example/trajectory/trajectory/search/Nodes" "width" "I" (.int (1 : Int32)) ∧ Fld Z h a "com/example/trajectory/trajectory/search/Nodes" "lengthLimit" "J" (.long ll_) ∧ Fld Z h a "com/example/trajectory/trajectory/search/Nodes" "costs" "[D" (.ref bc_) ∧ Fld Z h a "com/example/trajectory/trajectory/search/Nodes" "lengths" "[I" (.ref bl_) ∧ Fld Z h a "com/example/trajectory/trajectory/search/Nodes" "superseded" "[Z" (.ref bz_) ∧ Fld Z h a "com/example/trajectory/trajectory/search/Nodes" "nextKept" "[I" (.ref bk_) ∧ Fld Z h a "com/example/trajectory/trajectory/search/Nodes" "table" "[I" (.ref bT_) ∧ Fld Z h a "com/example/trajectory/trajectory/search/Nodes" "frontierCosts" "[D" (.ref bf_) ∧ Fld Z h a "com/example/trajectory/trajectory/search/Nodes" "frontierRanks" "[J" (.ref br_) ∧ Fld Z h a "com/example/trajectory/trajectory/search/Nodes" "waiting" "I" (.int (2 : Int32)) ∧ Fld Z h a "com/example/trajectory/trajectory/search/Nodes" "waitingWithin" "J" (.long (own_inc ww_ u_ ll_)) ∧ Fld Z h a "com/example/trajectory/trajectory/search/Nodes" "held" "I" (.int (0 : Int32)) ∧ Arv Z h bf_ kf_ .double (64 : Int32) [(.double dx_), (.double dy_), (.double (0 : UInt64)), (.double (0 : UInt64))] (.double (0 : UInt64)) ∧ Arv Z h br_ kr_ .long (64 : Int32) [(.long r0_), (.long (own_rk u_ n_)), (.long (0 : Int64)), (.long (0 : Int64))] (.long (0 : Int64))
set_option maxRecDepth 65536 in
set_option maxHeartbeats 40000000 in
theorem rmq1a (l : Launch) (Z : State) (a0 : Array Value) (hw : ∀ d ∈ tables_1, d.before a0 Z = true) (ws : List Jvm.Cond) (a : Addr) (n_ : Int32) (ll_ : Int64) (ww_ : Int64) (u_ : Int32) (bc_ : Addr) (bl_ : Addr) (bz_ : Addr) (bk_ : Addr) (bT_ : Addr) (bf_ : Addr) (br_ : Addr) (kc_ : ClassId) (kl_ : ClassId) (kf_ : ClassId) (kr_ : ClassId) (vbc_ : List Value) (vbl_ : List Value) (dx_ : UInt64) (dy_ : UInt64) (x_ : Int32) (y_ : Int32) (r0_ : Int64) (h0 : Heap) (n0 : Nat) (Z0 : n0 ≤ h0.size) (E_a : Exa Z h0 a "com/example/trajectory/trajectory/search/Nodes") (F_width_a : Fld Z h0 a "com/example/trajectory/trajectory/search/Nodes" "width" "I" (.int (1 : Int32))) (F_lengthLimit_a : Fld Z h0 a "com/example/trajectory/trajectory/search/Nodes" "lengthLimit" "J" (.long ll_)) (F_costs_a : Fld Z h0 a "com/example/trajectory/trajectory/search/Nodes" "costs" "[D" (.ref bc_)) (F_lengths_a : Fld Z h0 a "com/example/trajectory/trajectory/search/Nodes" "lengths" "[I" (.ref bl_)) (F_superseded_a : Fld Z h0 a "com/example/trajectory/trajectory/search/Nodes" "superseded" "[Z" (.ref bz_)) (F_nextKept_a : Fld Z h0 a "com/example/trajectory/trajectory/search/Nodes" "nextKept" "[I" (.ref bk_)) (F_table_a : Fld Z h0 a "com/example/trajectory/trajectory/search/Nodes" "table" "[I" (.ref bT_)) (F_frontierCosts_a : Fld Z h0 a "com/example/trajectory/trajectory/search/Nodes" "frontierCosts" "[D" (.ref bf_)) (F_frontierRanks_a : Fld Z h0 a "com/example/trajectory/trajectory/search/Nodes" "frontierRanks" "[J" (.ref br_)) (F_waiting_a : Fld Z h0 a "com/example/trajectory/trajectory/search/Nodes" "waiting" "I" (.int (1 : Int32))) (F_waitingWithin_a : Fld Z h0 a "com/example/trajectory/trajectory/search/Nodes" "waitingWithin" "J" (.long ww_)) (F_held_a : Fld Z h0 a "com/example/trajectory/trajectory/search/Nodes" "held" "I" (.int (0 : Int32))) (V_bc_ : Arv Z h0 bc_ kc_ .double (64 : Int32) vbc_ (.double (0 : UInt64))) (V_bl_ : Arv Z h0 bl_ kl_ .int (64 : Int32) vbl_ (.int (0 : Int32))) (V_bf_ : Arv Z h0 bf_ kf_ .double (64 : Int32) [(.double dx_), (.double (0 : UInt64)), (.double (0 : UInt64)), (.double (0 : UInt64))] (.double (0 : UInt64))) (V_br_ : Arv Z h0 br_ kr_ .long (64 : Int32) [(.long r0_), (.long (0 : Int64)), (.long (0 : Int64)), (.long (0 : Int64))] (.long (0 : Int64))) (g_a : n0 ≤ a) (g_bf_ : n0 ≤ bf_) (g_br_ : n0 ≤ br_) (ne_a_bf_ : a ≠ bf_) (ne_a_br_ : a ≠ br_) (ne_a_bl_ : a ≠ bl_) (ne_bf__br_ : bf_ ≠ br_) (ne_bl__bf_ : bl_ ≠ bf_) (ne_bl__br_ : bl_ ≠ br_) (hp26 : ¬ n_ < 0 ∧ n_ < (64 : Int32)) (hp27 : vbc_.getD (n_).toNatClampNeg (.double (0 : UInt64)) = (.double dy_)) (hp28 : vbl_.getD (n_).toNatClampNeg (.int (0 : Int32)) = (.int u_)) (hp29 : dy_ = FP.i2d y_) (hp30 : dx_ = FP.i2d x_) (hp31 : ¬ y_ < x_) (hp32 : ¬ (own_rk u_ n_) < r0_) :
    MetFree l (⟨"com/example/trajectory/trajectory/search/Nodes", "queue", "(I)V"⟩ : MethodName) (head1 (Jvm.Cond.code (⟨"com/example/trajectory/trajectory/search/Nodes", "queue", "(I)V"⟩ : MethodName) prog_59_method_20_code 8 none :: ws) ({ frames := 1, cells := 0, slots := 0, locals := 19 } : Room)) (fun q_ U => q_ = #[(.ref a), (.int n_)] ∧ Z.Warmed39 U.vm ∧ U.heap = h0) (fun _ _ _ _ _ => True) (fun _ U o U' => ∃ v L, o = .returned v ∧ Qq1a Z a n_ ll_ ww_ u_ bc_ bl_ bz_ bk_ bT_ bf_ br_ kc_ kl_ kf_ kr_ vbc_ vbl_ dx_ dy_ x_ y_ r0_ h0 n0 v U'.heap L ∧ FrameEnd U o U' L ({ frames := 1, cells := 0, slots := 0, locals := 19 } : Room).cells ({ frames := 1, cells := 0, slots := 0, locals := 19 } : Room).slots) := by
  refine MetFree.of_bodySF (plainFor_of_name pn_1) hisR ?_
  intro p e s m args below meth c s₁ Bd hml0 hP hK
  obtain ⟨rfl, hZ, hh⟩ := hP
  have hx := Bd.exec
  have hby := Bd.bytes
  have hml : c.maxLocals = 8 := hml0
  have hown : s.vm.findClass "com/example/trajectory/trajectory/search/Nodes" = some m.cls := findClass_of_methodNamed Bd.named
  have hnm := (name_of_methodNamed Bd.named Bd.method).1
  have X0 : Stand p l e ({ frames := 1, cells := 0, slots := 0, locals := 19 } : Room) s m #[(.ref a), (.int n_)] below meth c s₁ [] 0 0 := Stand.of_body Bd
  have e0 : s₁.heap = h0 := by rw [← hh, Bd.state]; rfl
  have N0 := Fr.nil n0
  show own_Go p e below s (Qq1a Z a n_ ll_ ww_ u_ bc_ bl_ bz_ bk_ bT_ bf_ br_ kc_ kl_ kf_ kr_ vbc_ vbl_ dx_ dy_ x_ y_ r0_ h0 n0) ({ frames := 1, cells := 0, slots := 0, locals := 19 } : Room).cells ({ frames := 1, cells := 0, slots := 0, locals := 19 } : Room).slots (s₁.setTop (entryFrame m #[(.ref a), (.int n_)] 8))
  refine own_via (fun t k => castTop (ef_q1a m a n_) k) ?_
  have K0 : Keep h0 h0 [a, bf_, br_] := Keep.refl _ _
  show own_Go p e below s _ _ _ (s₁.setTop (mkF m 0 #[lR a, lI n_, lU, lU, lU, lU, lU, lU] []))
  refine own_via (fun _ k => XS.aloadN X0.here hx rfl (hb hby d10_0) rfl rfl k) ?_
  show own_Go p e below s _ _ _ (s₁.setTop (mkF m 1 #[lR a, lI n_, lU, lU, lU, lU, lU, lU] [(.ref a)]))
  obtain ⟨T1, X1, e1, st1⟩ := getF X0 hx hZ hown (host := "") (Or.inl (hwi hw 88 rfl)) Via.refl e0 F_waiting_a (g := (mkF m 1 #[lR a, lI n_, lU, lU, lU, lU, lU, lU] [(.ref a)])) rfl rfl (hb hby d10_1)
  refine own_via st1 ?_
  show own_Go p e below s _ _ _ (T1.setTop (mkF m 4 #[lR a, lI n_, lU, lU, lU, lU, lU, lU] [(.int (1 : Int32))]))
  refine own_via (fun _ k => XS.aloadN X1.here hx rfl (hb hby d10_4) rfl rfl k) ?_
  show own_Go p e below s _ _ _ (T1.setTop (mkF m 5 #[lR a, lI n_, lU, lU, lU, lU, lU, lU] [(.ref a), (.int (1 : Int32))]))
  obtain ⟨T2, X2, e2, st2⟩ := getF X1 hx hZ hown (host := "") (Or.inl (hwi hw 61 rfl)) Via.refl e1 F_frontierCosts_a (g := (mkF m 5 #[lR a, lI n_, lU, lU, lU, lU, lU, lU] [(.ref a), (.int (1 : Int32))])) rfl rfl (hb hby d10_5)
  refine own_via st2 ?_
  show own_Go p e below s _ _ _ (T2.setTop (mkF m 8 #[lR a, lI n_, lU, lU, lU, lU, lU, lU] [(.ref bf_), (.int (1 : Int32))]))
  obtain ⟨cl3, Ar3, q3, S3, M3, H3, G3⟩ := (id V_bf_)
  refine own_via (fun _ k => X2.arraylength hx (by rw [e2]; exact Ar3.1) (State.isArrayOf_alike hZ.alike Ar3.2.1) (g := (mkF m 8 #[lR a, lI n_, lU, lU, lU, lU, lU, lU] [(.ref bf_), (.int (1 : Int32))])) rfl rfl (hb hby d10_8) _ (by rw [len_of S3 M3]; exact k)) ?_
  show own_Go p e below s _ _ _ (T2.setTop (mkF m 9 #[lR a, lI n_, lU, lU, lU, lU, lU, lU] [(.int (64 : Int32)), (.int (1 : Int32))]))
  refine own_via (fun _ k => XS.icmpYes X2.here hx rfl (pc0 := 9) (pc' := 46) rfl (hb hby d10_9) rfl (Jvm.Free.XT.ii_ne_t (by decide)) (by decide) (by decide) k) ?_
  show own_Go p e below s _ _ _ (T2.setTop (mkF m 46 #[lR a, lI n_, lU, lU, lU, lU, lU, lU] []))
  refine own_via (fun _ k => XS.aloadN X2.here hx rfl (hb hby d10_46) rfl rfl k) ?_
  show own_Go p e below s _ _ _ (T2.setTop (mkF m 47 #[lR a, lI n_, lU, lU, lU, lU, lU, lU] [(.ref a)]))
  obtain ⟨T4, X4, e4, st4⟩ := getF X2 hx hZ hown (host := "") (Or.inl (hwi hw 43 rfl)) Via.refl e2 F_costs_a (g := (mkF m 47 #[lR a, lI n_, lU, lU, lU, lU, lU, lU] [(.ref a)])) rfl rfl (hb hby d10_47)
  refine own_via st4 ?_
  show own_Go p e below s _ _ _ (T4.setTop (mkF m 50 #[lR a, lI n_, lU, lU, lU, lU, lU, lU] [(.ref bc_)]))
  refine own_via (fun _ k => XS.iloadN X4.here hx rfl (hb hby d10_50) rfl k) ?_
  show own_Go p e below s _ _ _ (T4.setTop (mkF m 51 #[lR a, lI n_, lU, lU, lU, lU, lU, lU] [(.int n_), (.ref bc_)]))
  obtain ⟨cl5, Ar5, q5, S5, M5, H5, G5⟩ := (id V_bc_)
  have hin5 : ¬ (n_ < 0 ∨ cl5.slots.size ≤ (n_).toNatClampNeg) := inb_of S5 hp26
  have hat5 : cl5.slots[(n_).toNatClampNeg]? = some (.double dy_) := Has.at H5 hin5 hp27
  refine own_via (fun _ k => X4.daload hx (j := n_) (v := (.double dy_)) (by rw [e4]; exact Ar5.1) (State.isArrayOf_alike hZ.alike Ar5.2.1) Ar5.2.2 hin5 hat5 (g := (mkF m 51 #[lR a, lI n_, lU, lU, lU, lU, lU, lU] [(.int n_), (.ref bc_)])) rfl rfl (hb hby d10_51) _ k) ?_
  show own_Go p e below s _ _ _ (T4.setTop (mkF m 52 #[lR a, lI n_, lU, lU, lU, lU, lU, lU] [(.double dy_)]))
  refine own_via (fun _ k => XS.dstoreN X4.here hx rfl (hb hby d10_52) rfl (l' := #[lR a, lI n_, lD dy_, lS, lU, lU, lU, lU]) rfl k) ?_
  show own_Go p e below s _ _ _ (T4.setTop (mkF m 53 #[lR a, lI n_, lD dy_, lS, lU, lU, lU, lU] []))
  refine own_via (fun _ k => XS.aloadN X4.here hx rfl (hb hby d10_53) rfl rfl k) ?_
  show own_Go p e below s _ _ _ (T4.setTop (mkF m 54 #[lR a, lI n_, lD dy_, lS, lU, lU, lU, lU] [(.ref a)]))
  obtain ⟨T6, X6, e6, st6⟩ := getF X4 hx hZ hown (host := "") (Or.inl (hwi hw 48 rfl)) Via.refl e4 F_lengths_a (g := (mkF m 54 #[lR a, lI n_, lD dy_, lS, lU, lU, lU, lU] [(.ref a)])) rfl rfl (hb hby d10_54)
  refine own_via st6 ?_
  show own_Go p e below s _ _ _ (T6.setTop (mkF m 57 #[lR a, lI n_, lD dy_, lS, lU, lU, lU, lU] [(.ref bl_)]))
  refine own_via (fun _ k => XS.iloadN X6.here hx rfl (hb hby d10_57) rfl k) ?_
  show own_Go p e below s _ _ _ (T6.setTop (mkF m 58 #[lR a, lI n_, lD dy_, lS, lU, lU, lU, lU] [(.int n_), (.ref bl_)]))
  obtain ⟨cl7, Ar7, q7, S7, M7, H7, G7⟩ := (id V_bl_)
  have hin7 : ¬ (n_ < 0 ∨ cl7.slots.size ≤ (n_).toNatClampNeg) := inb_of S7 hp26
  have hat7 : cl7.slots[(n_).toNatClampNeg]? = some (.int u_) := Has.at H7 hin7 hp28
  refine own_via (fun _ k => X6.iaload hx (j := n_) (v := (.int u_)) (by rw [e6]; exact Ar7.1) (State.isArrayOf_alike hZ.alike Ar7.2.1) Ar7.2.2 hin7 hat7 (g := (mkF m 58 #[lR a, lI n_, lD dy_, lS, lU, lU, lU, lU] [(.int n_), (.ref bl_)])) rfl rfl (hb hby d10_58) _ k) ?_
  show own_Go p e below s _ _ _ (T6.setTop (mkF m 59 #[lR a, lI n_, lD dy_, lS, lU, lU, lU, lU] [(.int u_)]))
  refine own_via (fun _ k => XS.i2l X6.here hx rfl (hb hby d10_59) rfl k) ?_
  show own_Go p e below s _ _ _ (T6.setTop (mkF m 60 #[lR a, lI n_, lD dy_, lS, lU, lU, lU, lU] [(.long (o_i2l u_))]))
  refine own_via (fun _ k => XS.bipush X6.here hx rfl (hb hby d10_60) k) ?_
  show own_Go p e below s _ _ _ (T6.setTop (mkF m 62 #[lR a, lI n_, lD dy_, lS, lU, lU, lU, lU] [(.int (32 : Int32)), (.long (o_i2l u_))]))
  refine own_via (fun _ k => XS.lshl X6.here hx rfl (hb hby d10_62) rfl k) ?_
  show own_Go p e below s _ _ _ (T6.setTop (mkF m 63 #[lR a, lI n_, lD dy_, lS, lU, lU, lU, lU] [(.long (o_lshl (o_i2l u_) (32 : Int32)))]))
  refine own_via (fun _ k => XS.iloadN X6.here hx rfl (hb hby d10_63) rfl k) ?_
  show own_Go p e below s _ _ _ (T6.setTop (mkF m 64 #[lR a, lI n_, lD dy_, lS, lU, lU, lU, lU] [(.int n_), (.long (o_lshl (o_i2l u_) (32 : Int32)))]))
  refine own_via (fun _ k => XS.i2l X6.here hx rfl (hb hby d10_64) rfl k) ?_
  show own_Go p e below s _ _ _ (T6.setTop (mkF m 65 #[lR a, lI n_, lD dy_, lS, lU, lU, lU, lU] [(.long (o_i2l n_)), (.long (o_lshl (o_i2l u_) (32 : Int32)))]))
  refine own_via (fun _ k => XS.lor X6.here hx rfl (hb hby d10_65) rfl k) ?_
  show own_Go p e below s _ _ _ (T6.setTop (mkF m 66 #[lR a, lI n_, lD dy_, lS, lU, lU, lU, lU] [(.long ((o_lshl (o_i2l u_) (32 : Int32)) ||| (o_i2l n_)))]))
  rw [show ((o_lshl (o_i2l u_) (32 : Int32)) ||| (o_i2l n_)) = (own_rk u_ n_) from rfl]
  show own_Go p e below s _ _ _ (T6.setTop (mkF m 66 #[lR a, lI n_, lD dy_, lS, lU, lU, lU, lU] [(.long (own_rk u_ n_))]))
  refine own_via (fun _ k => XS.lstore X6.here hx rfl (hb hby d10_66) rfl (l' := #[lR a, lI n_, lD dy_, lS, lJ (own_rk u_ n_), lS, lU, lU]) rfl k) ?_
  show own_Go p e below s _ _ _ (T6.setTop (mkF m 68 #[lR a, lI n_, lD dy_, lS, lJ (own_rk u_ n_), lS, lU, lU] []))
  refine own_via (fun _ k => XS.aloadN X6.here hx rfl (hb hby d10_68) rfl rfl k) ?_
  show own_Go p e below s _ _ _ (T6.setTop (mkF m 69 #[lR a, lI n_, lD dy_, lS, lJ (own_rk u_ n_), lS, lU, lU] [(.ref a)]))
  refine own_via (fun _ k => XS.dup X6.here hx rfl (hb hby d10_69) rfl rfl k) ?_
  show own_Go p e below s _ _ _ (T6.setTop (mkF m 70 #[lR a, lI n_, lD dy_, lS, lJ (own_rk u_ n_), lS, lU, lU] [(.ref a), (.ref a)]))
  obtain ⟨T8, X8, e8, st8⟩ := getF X6 hx hZ hown (host := "") (Or.inl (hwi hw 88 rfl)) Via.refl e6 F_waiting_a (g := (mkF m 70 #[lR a, lI n_, lD dy_, lS, lJ (own_rk u_ n_), lS, lU, lU] [(.ref a), (.ref a)])) rfl rfl (hb hby d10_70)
  refine own_via st8 ?_
  show own_Go p e below s _ _ _ (T8.setTop (mkF m 73 #[lR a, lI n_, lD dy_, lS, lJ (own_rk u_ n_), lS, lU, lU] [(.int (1 : Int32)), (.ref a)]))
  refine own_via (fun _ k => XS.dupX1 X8.here hx rfl (hb hby d10_73) rfl rfl rfl k) ?_
  show own_Go p e below s _ _ _ (T8.setTop (mkF m 74 #[lR a, lI n_, lD dy_, lS, lJ (own_rk u_ n_), lS, lU, lU] [(.int (1 : Int32)), (.ref a), (.int (1 : Int32))]))
  refine own_via (fun _ k => XS.iconst X8.here hx rfl (hb hby d10_74) k) ?_
  show own_Go p e below s _ _ _ (T8.setTop (mkF m 75 #[lR a, lI n_, lD dy_, lS, lJ (own_rk u_ n_), lS, lU, lU] [(.int (1 : Int32)), (.int (1 : Int32)), (.ref a), (.int (1 : Int32))]))
  refine own_via (fun _ k => XS.iadd X8.here hx rfl (hb hby d10_75) rfl k) ?_
  show own_Go p e below s _ _ _ (T8.setTop (mkF m 76 #[lR a, lI n_, lD dy_, lS, lJ (own_rk u_ n_), lS, lU, lU] [(.int (2 : Int32)), (.ref a), (.int (1 : Int32))]))
  obtain ⟨T9, h9, X9, e9, W9, st9⟩ := putF X8 hx hZ hown (host := "") (Or.inl (hwi hw 88 rfl)) Via.refl e8 F_waiting_a E_a (Or.inl (hwi hw 89 rfl)) (hwi hw 3 rfl) (ty := .int) (by decide) rfl rfl (g := (mkF m 76 #[lR a, lI n_, lD dy_, lS, lJ (own_rk u_ n_), lS, lU, lU] [(.int (2 : Int32)), (.ref a), (.int (1 : Int32))])) rfl rfl (hb hby d10_76)
  have N9 := Fr.snoc X9 N0 g_a
  have Fw9 := F_waiting_a.same W9
  have Z9 : n0 ≤ h9.size := Nat.le_trans Z0 (Keep.of_wr W9).1
  have K9 : Keep h0 h9 [a, bf_, br_] := K0.wr W9 (Or.inl (List.mem_of_getElem? (i := 0) rfl))
  refine own_via st9 ?_
  show own_Go p e below s _ _ _ (T9.setTop (mkF m 79 #[lR a, lI n_, lD dy_, lS, lJ (own_rk u_ n_), lS, lU, lU] [(.int (1 : Int32))]))
  refine own_via (fun _ k => XS.istore X9.here hx rfl (hb hby d10_79) rfl (l' := #[lR a, lI n_, lD dy_, lS, lJ (own_rk u_ n_), lS, lI 1, lU]) rfl k) ?_
  show own_Go p e below s _ _ _ (T9.setTop (mkF m 81 #[lR a, lI n_, lD dy_, lS, lJ (own_rk u_ n_), lS, lI 1, lU] []))
  refine own_via (fun _ k => XS.iload X9.here hx rfl (hb hby d10_81) rfl k) ?_
  show own_Go p e below s _ _ _ (T9.setTop (mkF m 83 #[lR a, lI n_, lD dy_, lS, lJ (own_rk u_ n_), lS, lI 1, lU] [(.int (1 : Int32))]))
  refine own_via (fun _ k => XS.iconst X9.here hx rfl (hb hby d10_83) k) ?_
  show own_Go p e below s _ _ _ (T9.setTop (mkF m 84 #[lR a, lI n_, lD dy_, lS, lJ (own_rk u_ n_), lS, lI 1, lU] [(.int (1 : Int32)), (.int (1 : Int32))]))
  refine own_via (fun _ k => XS.isub X9.here hx rfl (hb hby d10_84) rfl k) ?_
  show own_Go p e below s _ _ _ (T9.setTop (mkF m 85 #[lR a, lI n_, lD dy_, lS, lJ (own_rk u_ n_), lS, lI 1, lU] [(.int (0 : Int32))]))
  refine own_via (fun _ k => XS.iconst X9.here hx rfl (hb hby d10_85) k) ?_
  show own_Go p e below s _ _ _ (T9.setTop (mkF m 86 #[lR a, lI n_, lD dy_, lS, lJ (own_rk u_ n_), lS, lI 1, lU] [(.int (2 : Int32)), (.int (0 : Int32))]))
  refine own_via (fun _ k => XS.idiv X9.here hx rfl (hb hby d10_86) rfl (by decide) k) ?_
  show own_Go p e below s _ _ _ (T9.setTop (mkF m 87 #[lR a, lI n_, lD dy_, lS, lJ (own_rk u_ n_), lS, lI 1, lU] [(.int ((0 : Int32) / (2 : Int32)))]))
  rw [show ((0 : Int32) / (2 : Int32)) = (0 : Int32) from (by decide)]
  show own_Go p e below s _ _ _ (T9.setTop (mkF m 87 #[lR a, lI n_, lD dy_, lS, lJ (own_rk u_ n_), lS, lI 1, lU] [(.int (0 : Int32))]))
  refine own_via (fun _ k => XS.istore X9.here hx rfl (hb hby d10_87) rfl (l' := #[lR a, lI n_, lD dy_, lS, lJ (own_rk u_ n_), lS, lI 1, lI 0]) rfl k) ?_
  show own_Go p e below s _ _ _ (T9.setTop (mkF m 89 #[lR a, lI n_, lD dy_, lS, lJ (own_rk u_ n_), lS, lI 1, lI 0] []))
  refine own_via (fun _ k => XS.iload X9.here hx rfl (hb hby d10_89) rfl k) ?_
  show own_Go p e below s _ _ _ (T9.setTop (mkF m 91 #[lR a, lI n_, lD dy_, lS, lJ (own_rk u_ n_), lS, lI 1, lI 0] [(.int (1 : Int32))]))
  refine own_via (fun _ k => XS.ifNo X9.here hx rfl (hb hby d10_91) rfl (Jvm.Free.XT.i0_le_f (by decide)) k) ?_
  show own_Go p e below s _ _ _ (T9.setTop (mkF m 94 #[lR a, lI n_, lD dy_, lS, lJ (own_rk u_ n_), lS, lI 1, lI 0] []))
  refine own_via (fun _ k => XS.dloadN X9.here hx rfl (hb hby d10_94) rfl k) ?_
  show own_Go p e below s _ _ _ (T9.setTop (mkF m 95 #[lR a, lI n_, lD dy_, lS, lJ (own_rk u_ n_), lS, lI 1, lI 0] [(.double dy_)]))
  refine own_via (fun _ k => XS.lload X9.here hx rfl (hb hby d10_95) rfl k) ?_
  show own_Go p e below s _ _ _ (T9.setTop (mkF m 97 #[lR a, lI n_, lD dy_, lS, lJ (own_rk u_ n_), lS, lI 1, lI 0] [(.long (own_rk u_ n_)), (.double dy_)]))
  refine own_via (fun _ k => XS.aloadN X9.here hx rfl (hb hby d10_97) rfl rfl k) ?_
  show own_Go p e below s _ _ _ (T9.setTop (mkF m 98 #[lR a, lI n_, lD dy_, lS, lJ (own_rk u_ n_), lS, lI 1, lI 0] [(.ref a), (.long (own_rk u_ n_)), (.double dy_)]))
  have F10 := (F_frontierCosts_a.other W9 (Or.inr (sn16 hw)))
  obtain ⟨T11, X11, e11, st11⟩ := getF X9 hx hZ hown (host := "") (Or.inl (hwi hw 61 rfl)) Via.refl e9 F10 (g := (mkF m 98 #[lR a, lI n_, lD dy_, lS, lJ (own_rk u_ n_), lS, lI 1, lI 0] [(.ref a), (.long (own_rk u_ n_)), (.double dy_)])) rfl rfl (hb hby d10_98)
  refine own_via st11 ?_
  show own_Go p e below s _ _ _ (T11.setTop (mkF m 101 #[lR a, lI n_, lD dy_, lS, lJ (own_rk u_ n_), lS, lI 1, lI 0] [(.ref bf_), (.long (own_rk u_ n_)), (.double dy_)]))
  refine own_via (fun _ k => XS.iload X11.here hx rfl (hb hby d10_101) rfl k) ?_
  show own_Go p e below s _ _ _ (T11.setTop (mkF m 103 #[lR a, lI n_, lD dy_, lS, lJ (own_rk u_ n_), lS, lI 1, lI 0] [(.int (0 : Int32)), (.ref bf_), (.long (own_rk u_ n_)), (.double dy_)]))
  have F13 := (V_bf_.other W9 (Ne.symm ne_a_bf_))
  obtain ⟨cl12, Ar12, q12, S12, M12, H12, G12⟩ := (id F13)
  have hin12 : ¬ ((0 : Int32) < 0 ∨ cl12.slots.size ≤ ((0 : Int32)).toNatClampNeg) := inb_of S12 ⟨by decide, by decide⟩
  have hat12 : cl12.slots[((0 : Int32)).toNatClampNeg]? = some (.double dx_) := Has.at H12 hin12 rfl
  refine own_via (fun _ k => X11.daload hx (j := (0 : Int32)) (v := (.double dx_)) (by rw [e11]; exact Ar12.1) (State.isArrayOf_alike hZ.alike Ar12.2.1) Ar12.2.2 hin12 hat12 (g := (mkF m 103 #[lR a, lI n_, lD dy_, lS, lJ (own_rk u_ n_), lS, lI 1, lI 0] [(.int (0 : Int32)), (.ref bf_), (.long (own_rk u_ n_)), (.double dy_)])) rfl rfl (hb hby d10_103) _ k) ?_
  show own_Go p e below s _ _ _ (T11.setTop (mkF m 104 #[lR a, lI n_, lD dy_, lS, lJ (own_rk u_ n_), lS, lI 1, lI 0] [(.double dx_), (.long (own_rk u_ n_)), (.double dy_)]))
  refine own_via (fun _ k => XS.aloadN X11.here hx rfl (hb hby d10_104) rfl rfl k) ?_
  show own_Go p e below s _ _ _ (T11.setTop (mkF m 105 #[lR a, lI n_, lD dy_, lS, lJ (own_rk u_ n_), lS, lI 1, lI 0] [(.ref a), (.double dx_), (.long (own_rk u_ n_)), (.double dy_)]))
  have F14 := (F_frontierRanks_a.other W9 (Or.inr (sn17 hw)))
  obtain ⟨T15, X15, e15, st15⟩ := getF X11 hx hZ hown (host := "") (Or.inl (hwi hw 63 rfl)) Via.refl e11 F14 (g := (mkF m 105 #[lR a, lI n_, lD dy_, lS, lJ (own_rk u_ n_), lS, lI 1, lI 0] [(.ref a), (.double dx_), (.long (own_rk u_ n_)), (.double dy_)])) rfl rfl (hb hby d10_105)
  refine own_via st15 ?_
  show own_Go p e below s _ _ _ (T15.setTop (mkF m 108 #[lR a, lI n_, lD dy_, lS, lJ (own_rk u_ n_), lS, lI 1, lI 0] [(.ref br_), (.double dx_), (.long (own_rk u_ n_)), (.double dy_)]))
  refine own_via (fun _ k => XS.iload X15.here hx rfl (hb hby d10_108) rfl k) ?_
  show own_Go p e below s _ _ _ (T15.setTop (mkF m 110 #[lR a, lI n_, lD dy_, lS, lJ (own_rk u_ n_), lS, lI 1, lI 0] [(.int (0 : Int32)), (.ref br_), (.double dx_), (.long (own_rk u_ n_)), (.double dy_)]))
  have F17 := (V_br_.other W9 (Ne.symm ne_a_br_))
  obtain ⟨cl16, Ar16, q16, S16, M16, H16, G16⟩ := (id F17)
  have hin16 : ¬ ((0 : Int32) < 0 ∨ cl16.slots.size ≤ ((0 : Int32)).toNatClampNeg) := inb_of S16 ⟨by decide, by decide⟩
  have hat16 : cl16.slots[((0 : Int32)).toNatClampNeg]? = some (.long r0_) := Has.at H16 hin16 rfl
  refine own_via (fun _ k => X15.laload hx (j := (0 : Int32)) (v := (.long r0_)) (by rw [e15]; exact Ar16.1) (State.isArrayOf_alike hZ.alike Ar16.2.1) Ar16.2.2 hin16 hat16 (g := (mkF m 110 #[lR a, lI n_, lD dy_, lS, lJ (own_rk u_ n_), lS, lI 1, lI 0] [(.int (0 : Int32)), (.ref br_), (.double dx_), (.long (own_rk u_ n_)), (.double dy_)])) rfl rfl (hb hby d10_110) _ k) ?_
  show own_Go p e below s _ _ _ (T15.setTop (mkF m 111 #[lR a, lI n_, lD dy_, lS, lJ (own_rk u_ n_), lS, lI 1, lI 0] [(.long r0_), (.double dx_), (.long (own_rk u_ n_)), (.double dy_)]))
  obtain ⟨_, _, ⟨T18, L18, k18, n18⟩, -, X18, ⟨Lc18, hQ18, l18, y18, z18⟩, st18⟩ := Jvm.LawKit.callS X15 hx (y := (⟨"com/example/trajectory/trajectory/search/Nodes", "before", "(DJDJ)Z"⟩ : MethodName)) hown (mvT hZ (hwi hw 95 rfl)) (mvT hZ (hwi hw 96 rfl)) (mvT hZ (hwi hw 4 rfl)) (mvT hZ (hwi hw 97 rfl)) (by decide) (backOf (W := 0) (rm12 l Z a0 hw [] dy_ (own_rk u_ n_) dx_ r0_ y_ x_ h9 n0 Z9 hp29 hp30) hZ (hwi hw 97 rfl) (hwi hw 4 rfl) (by decide) (by decide)) (g := (mkF m 111 #[lR a, lI n_, lD dy_, lS, lJ (own_rk u_ n_), lS, lI 1, lI 0] [(.long r0_), (.double dx_), (.long (own_rk u_ n_)), (.double dy_)])) rfl (by rw [hml]; rfl) (argsL := [(.double dy_), (.long (own_rk u_ n_)), (.double dx_), (.long r0_)]) (rest := []) (lenOf pd_4 rfl) rfl (by show 2 * 0 + _ ≤ _; exact Nat.le_of_eq rfl) (hb hby d10_111) (fun _ _ => ⟨rfl, e15, (by decide : 0 + 0 ≤ _), (by decide : 0 + 0 ≤ _)⟩)
  dsimp only [Pt.U, Pt.locs, Pt.cells, Pt.slots] at X18 l18 y18 z18 st18 hQ18
  subst l18 y18 z18
  obtain ⟨rfl, N18q, e18⟩ := hQ18
  have N18 := Fr.app N9 N18q
  refine own_via st18 ?_
  show own_Go p e below s _ _ _ (T18.setTop (mkF m 114 #[lR a, lI n_, lD dy_, lS, lJ (own_rk u_ n_), lS, lI 1, lI 0] [(.int (own_bf y_ x_ (own_rk u_ n_) r0_))]))
  have hc19 : (own_bf y_ x_ (own_rk u_ n_) r0_) = (0 : Int32) := own_bf_f hp31 hp32
  refine own_via (fun _ k => XS.ifYes X18.here hx rfl (pc0 := 114) (pc' := 160) rfl (hb hby d10_114) rfl (Jvm.Free.XT.i0_eq_t hc19) (by decide) (by decide) k) ?_
  show own_Go p e below s _ _ _ (T18.setTop (mkF m 160 #[lR a, lI n_, lD dy_, lS, lJ (own_rk u_ n_), lS, lI 1, lI 0] []))
  refine own_via (fun _ k => XS.aloadN X18.here hx rfl (hb hby d10_160) rfl rfl k) ?_
  show own_Go p e below s _ _ _ (T18.setTop (mkF m 161 #[lR a, lI n_, lD dy_, lS, lJ (own_rk u_ n_), lS, lI 1, lI 0] [(.ref a)]))
  obtain ⟨T20, X20, e20, st20⟩ := getF X18 hx hZ hown (host := "") (Or.inl (hwi hw 61 rfl)) Via.refl e18 F10 (g := (mkF m 161 #[lR a, lI n_, lD dy_, lS, lJ (own_rk u_ n_), lS, lI 1, lI 0] [(.ref a)])) rfl rfl (hb hby d10_161)
  refine own_via st20 ?_
  show own_Go p e below s _ _ _ (T20.setTop (mkF m 164 #[lR a, lI n_, lD dy_, lS, lJ (own_rk u_ n_), lS, lI 1, lI 0] [(.ref bf_)]))
  refine own_via (fun _ k => XS.iload X20.here hx rfl (hb hby d10_164) rfl k) ?_
  show own_Go p e below s _ _ _ (T20.setTop (mkF m 166 #[lR a, lI n_, lD dy_, lS, lJ (own_rk u_ n_), lS, lI 1, lI 0] [(.int (1 : Int32)), (.ref bf_)]))
  refine own_via (fun _ k => XS.dloadN X20.here hx rfl (hb hby d10_166) rfl k) ?_
  show own_Go p e below s _ _ _ (T20.setTop (mkF m 167 #[lR a, lI n_, lD dy_, lS, lJ (own_rk u_ n_), lS, lI 1, lI 0] [(.double dy_), (.int (1 : Int32)), (.ref bf_)]))
  obtain ⟨cl21, Ar21, q21, S21, M21, H21, G21⟩ := (id F13)
  have hin21 : ¬ ((1 : Int32) < 0 ∨ cl21.slots.size ≤ ((1 : Int32)).toNatClampNeg) := inb_of S21 ⟨by decide, by decide⟩
  obtain ⟨T21, h21, X21, e21, W21, st21⟩ := stD X20 hx hZ e20 Ar21 (j := (1 : Int32)) hin21 (g := (mkF m 167 #[lR a, lI n_, lD dy_, lS, lJ (own_rk u_ n_), lS, lI 1, lI 0] [(.double dy_), (.int (1 : Int32)), (.ref bf_)])) rfl rfl (hb hby d10_167)
  have V21 : Arv Z h21 bf_ kf_ .double (64 : Int32) [(.double dx_), (.double dy_), (.double (0 : UInt64)), (.double (0 : UInt64))] (.double (0 : UInt64)) := Arv.set Ar21 q21 S21 M21 H21 G21 rfl W21 1 rfl (Nat.le_of_ble_eq_true rfl)
  have N21 := Fr.snoc X21 N18 g_bf_
  have Z21 : n0 ≤ h21.size := Nat.le_trans Z9 (Keep.of_wr W21).1
  have K21 : Keep h0 h21 [a, bf_, br_] := K9.wr W21 (Or.inl (List.mem_of_getElem? (i := 1) rfl))
  refine own_via st21 ?_
  show own_Go p e below s _ _ _ (T21.setTop (mkF m 168 #[lR a, lI n_, lD dy_, lS, lJ (own_rk u_ n_), lS, lI 1, lI 0] []))
  refine own_via (fun _ k => XS.aloadN X21.here hx rfl (hb hby d10_168) rfl rfl k) ?_
  show own_Go p e below s _ _ _ (T21.setTop (mkF m 169 #[lR a, lI n_, lD dy_, lS, lJ (own_rk u_ n_), lS, lI 1, lI 0] [(.ref a)]))
  have F22 := (F14.other W21 (Or.inl ne_a_bf_))
  obtain ⟨T23, X23, e23, st23⟩ := getF X21 hx hZ hown (host := "") (Or.inl (hwi hw 63 rfl)) Via.refl e21 F22 (g := (mkF m 169 #[lR a, lI n_, lD dy_, lS, lJ (own_rk u_ n_), lS, lI 1, lI 0] [(.ref a)])) rfl rfl (hb hby d10_169)
  refine own_via st23 ?_
  show own_Go p e below s _ _ _ (T23.setTop (mkF m 172 #[lR a, lI n_, lD dy_, lS, lJ (own_rk u_ n_), lS, lI 1, lI 0] [(.ref br_)]))
  refine own_via (fun _ k => XS.iload X23.here hx rfl (hb hby d10_172) rfl k) ?_
  show own_Go p e below s _ _ _ (T23.setTop (mkF m 174 #[lR a, lI n_, lD dy_, lS, lJ (own_rk u_ n_), lS, lI 1, lI 0] [(.int (1 : Int32)), (.ref br_)]))
  refine own_via (fun _ k => XS.lload X23.here hx rfl (hb hby d10_174) rfl k) ?_
  show own_Go p e below s _ _ _ (T23.setTop (mkF m 176 #[lR a, lI n_, lD dy_, lS, lJ (own_rk u_ n_), lS, lI 1, lI 0] [(.long (own_rk u_ n_)), (.int (1 : Int32)), (.ref br_)]))
  have F25 := (F17.other W21 (Ne.symm ne_bf__br_))
  obtain ⟨cl24, Ar24, q24, S24, M24, H24, G24⟩ := (id F25)
  have hin24 : ¬ ((1 : Int32) < 0 ∨ cl24.slots.size ≤ ((1 : Int32)).toNatClampNeg) := inb_of S24 ⟨by decide, by decide⟩
  obtain ⟨T24, h24, X24, e24, W24, st24⟩ := stJ X23 hx hZ e23 Ar24 (j := (1 : Int32)) hin24 (g := (mkF m 176 #[lR a, lI n_, lD dy_, lS, lJ (own_rk u_ n_), lS, lI 1, lI 0] [(.long (own_rk u_ n_)), (.int (1 : Int32)), (.ref br_)])) rfl rfl (hb hby d10_176)
  have V24 : Arv Z h24 br_ kr_ .long (64 : Int32) [(.long r0_), (.long (own_rk u_ n_)), (.long (0 : Int64)), (.long (0 : Int64))] (.long (0 : Int64)) := Arv.set Ar24 q24 S24 M24 H24 G24 rfl W24 1 rfl (Nat.le_of_ble_eq_true rfl)
  have N24 := Fr.snoc X24 N21 g_br_
  have Z24 : n0 ≤ h24.size := Nat.le_trans Z21 (Keep.of_wr W24).1
  have K24 : Keep h0 h24 [a, bf_, br_] := K21.wr W24 (Or.inl (List.mem_of_getElem? (i := 2) rfl))
  refine own_via st24 ?_
  show own_Go p e below s _ _ _ (T24.setTop (mkF m 177 #[lR a, lI n_, lD dy_, lS, lJ (own_rk u_ n_), lS, lI 1, lI 0] []))
  refine own_via (fun _ k => XS.aloadN X24.here hx rfl (hb hby d10_177) rfl rfl k) ?_
  show own_Go p e below s _ _ _ (T24.setTop (mkF m 178 #[lR a, lI n_, lD dy_, lS, lJ (own_rk u_ n_), lS, lI 1, lI 0] [(.ref a)]))
  refine own_via (fun _ k => XS.iloadN X24.here hx rfl (hb hby d10_178) rfl k) ?_
  show own_Go p e below s _ _ _ (T24.setTop (mkF m 179 #[lR a, lI n_, lD dy_, lS, lJ (own_rk u_ n_), lS, lI 1, lI 0] [(.int n_), (.ref a)]))
  have F27 := (((F_lengths_a.other W9 (Or.inr (sn18 hw))).other W21 (Or.inl ne_a_bf_)).other W24 (Or.inl ne_a_br_))
  have F28 := (((F_lengthLimit_a.other W9 (Or.inr (sn19 hw))).other W21 (Or.inl ne_a_bf_)).other W24 (Or.inl ne_a_br_))
  have F29 := (((V_bl_.other W9 (Ne.symm ne_a_bl_)).other W21 ne_bl__bf_).other W24 ne_bl__br_)
  have F30 := (((E_a.wr W9).wr W21).wr W24)
  obtain ⟨cq26, kq26, qa26, qb26, qc26⟩ := isOf hZ e24 F30
  obtain ⟨_, _, ⟨T26, L26, k26, n26⟩, -, X26, ⟨Lc26, hQ26, l26, y26, z26⟩, st26⟩ := X24.virtualBack hx (y := (⟨"com/example/trajectory/trajectory/search/Nodes", "isWithinLimit", "(I)Z"⟩ : MethodName)) (z := (⟨"com/example/trajectory/trajectory/search/Nodes", "isWithinLimit", "(I)Z"⟩ : MethodName)) hown (mvT hZ (hwi hw 90 rfl)) (mvT hZ (hwi hw 91 rfl)) (notFace_of_selects (args := #[]) (mvT hZ (hwi hw 93 rfl))) (mvT hZ (hwi hw 93 rfl)) (mvT hZ (hwi hw 92 rfl)) (by decide) (backOf (W := 0) (rm11 l Z a0 hw [] a n_ bl_ ll_ kl_ vbl_ u_ h24 n0 Z24 F27 F28 F29 hp26 hp28) hZ (hwi hw 94 rfl) (hwi hw 4 rfl) (by decide) (by decide)) qa26 qc26 (g := (mkF m 179 #[lR a, lI n_, lD dy_, lS, lJ (own_rk u_ n_), lS, lI 1, lI 0] [(.int n_), (.ref a)])) rfl (by rw [hml]; rfl) (Steps.refl _) (argsL := [(.int n_)]) (rest := []) (lenOf pd_3 rfl) rfl (by show 2 * 0 + _ ≤ _; exact Nat.le_of_eq rfl) (hb hby d10_179) (fun _ _ => ⟨rfl, e24, (by decide : 0 + 0 ≤ _), (by decide : 0 + 0 ≤ _)⟩)
  dsimp only [Pt.U, Pt.locs, Pt.cells, Pt.slots] at X26 l26 y26 z26 st26 hQ26
  subst l26 y26 z26
  obtain ⟨rfl, N26q, e26⟩ := hQ26
  have N26 := Fr.app N24 N26q
  refine own_viaT st26 ?_
  show own_Go p e below s _ _ _ (T26.setTop (mkF m 182 #[lR a, lI n_, lD dy_, lS, lJ (own_rk u_ n_), lS, lI 1, lI 0] [(.int (own_w u_ ll_))]))
  by_cases hc31 : (own_w u_ ll_) = (0 : Int32)
  · refine own_via (fun _ k => XS.ifYes X26.here hx rfl (pc0 := 182) (pc' := 195) rfl (hb hby d10_182) rfl (Jvm.Free.XT.i0_eq_t hc31) (by decide) (by decide) k) ?_
    show own_Go p e below s _ _ _ (T26.setTop (mkF m 195 #[lR a, lI n_, lD dy_, lS, lJ (own_rk u_ n_), lS, lI 1, lI 0] []))
    have F32 := (((F_width_a.other W9 (Or.inr (sn20 hw))).other W21 (Or.inl ne_a_bf_)).other W24 (Or.inl ne_a_br_))
    have F33 := (((F_costs_a.other W9 (Or.inr (sn21 hw))).other W21 (Or.inl ne_a_bf_)).other W24 (Or.inl ne_a_br_))
    have F34 := (((F_superseded_a.other W9 (Or.inr (sn22 hw))).other W21 (Or.inl ne_a_bf_)).other W24 (Or.inl ne_a_br_))
    have F35 := (((F_nextKept_a.other W9 (Or.inr (sn23 hw))).other W21 (Or.inl ne_a_bf_)).other W24 (Or.inl ne_a_br_))
    have F36 := (((F_table_a.other W9 (Or.inr (sn24 hw))).other W21 (Or.inl ne_a_bf_)).other W24 (Or.inl ne_a_br_))
    have F37 := ((F10.other W21 (Or.inl ne_a_bf_)).other W24 (Or.inl ne_a_br_))
    have F38 := (F22.other W24 (Or.inl ne_a_br_))
    have F39 := ((Fw9.other W21 (Or.inl ne_a_bf_)).other W24 (Or.inl ne_a_br_))
    have F40 := (((F_waitingWithin_a.other W9 (Or.inr (sn25 hw))).other W21 (Or.inl ne_a_bf_)).other W24 (Or.inl ne_a_br_))
    have F41 := (((F_held_a.other W9 (Or.inr (sn26 hw))).other W21 (Or.inl ne_a_bf_)).other W24 (Or.inl ne_a_br_))
    have F42 := (V21.other W24 ne_bf__br_)
    exact own_goV X26 hx Bd.returns (hb hby d10_195) Bd.notSynchronized (by decide) (by decide) (by rw [e26]; exact ⟨rfl, N26, K24, F30, F32, F28, F33, F27, F34, F35, F36, F37, F38, F39, (by rw [own_inc, if_pos hc31]; exact F40), F41, F42, V24⟩)
  · refine own_via (fun _ k => XS.ifNo X26.here hx rfl (hb hby d10_182) rfl (Jvm.Free.XT.i0_eq_f hc31) k) ?_
    show own_Go p e below s _ _ _ (T26.setTop (mkF m 185 #[lR a, lI n_, lD dy_, lS, lJ (own_rk u_ n_), lS, lI 1, lI 0] []))
    refine own_via (fun _ k => XS.aloadN X26.here hx rfl (hb hby d10_185) rfl rfl k) ?_
    show own_Go p e below s _ _ _ (T26.setTop (mkF m 186 #[lR a, lI n_, lD dy_, lS, lJ (own_rk u_ n_), lS, lI 1, lI 0] [(.ref a)]))
    refine own_via (fun _ k => XS.dup X26.here hx rfl (hb hby d10_186) rfl rfl k) ?_
    show own_Go p e below s _ _ _ (T26.setTop (mkF m 187 #[lR a, lI n_, lD dy_, lS, lJ (own_rk u_ n_), lS, lI 1, lI 0] [(.ref a), (.ref a)]))
    have F43 := (((F_waitingWithin_a.other W9 (Or.inr (sn25 hw))).other W21 (Or.inl ne_a_bf_)).other W24 (Or.inl ne_a_br_))
    obtain ⟨T44, X44, e44, st44⟩ := getF X26 hx hZ hown (host := "") (Or.inl (hwi hw 81 rfl)) Via.refl e26 F43 (g := (mkF m 187 #[lR a, lI n_, lD dy_, lS, lJ (own_rk u_ n_), lS, lI 1, lI 0] [(.ref a), (.ref a)])) rfl rfl (hb hby d10_187)
    refine own_via st44 ?_
    show own_Go p e below s _ _ _ (T44.setTop (mkF m 190 #[lR a, lI n_, lD dy_, lS, lJ (own_rk u_ n_), lS, lI 1, lI 0] [(.long ww_), (.ref a)]))
    refine own_via (fun _ k => XS.lconst X44.here hx rfl (hb hby d10_190) k) ?_
    show own_Go p e below s _ _ _ (T44.setTop (mkF m 191 #[lR a, lI n_, lD dy_, lS, lJ (own_rk u_ n_), lS, lI 1, lI 0] [(.long (1 : Int64)), (.long ww_), (.ref a)]))
    refine own_via (fun _ k => XS.ladd X44.here hx rfl (hb hby d10_191) rfl k) ?_
    show own_Go p e below s _ _ _ (T44.setTop (mkF m 192 #[lR a, lI n_, lD dy_, lS, lJ (own_rk u_ n_), lS, lI 1, lI 0] [(.long (ww_ + (1 : Int64))), (.ref a)]))
    obtain ⟨T45, h45, X45, e45, W45, st45⟩ := putF X44 hx hZ hown (host := "") (Or.inl (hwi hw 81 rfl)) Via.refl e44 F43 F30 (Or.inl (hwi hw 82 rfl)) (hwi hw 3 rfl) (ty := .long) (by decide) rfl rfl (g := (mkF m 192 #[lR a, lI n_, lD dy_, lS, lJ (own_rk u_ n_), lS, lI 1, lI 0] [(.long (ww_ + (1 : Int64))), (.ref a)])) rfl rfl (hb hby d10_192)
    have N45 := Fr.snoc X45 N26 g_a
    have Fw45 := F43.same W45
    have Z45 : n0 ≤ h45.size := Nat.le_trans Z24 (Keep.of_wr W45).1
    have K45 : Keep h0 h45 [a, bf_, br_] := K24.wr W45 (Or.inl (List.mem_of_getElem? (i := 0) rfl))
    refine own_via st45 ?_
    show own_Go p e below s _ _ _ (T45.setTop (mkF m 195 #[lR a, lI n_, lD dy_, lS, lJ (own_rk u_ n_), lS, lI 1, lI 0] []))
    have F46 := (F30.wr W45)
    have F47 := ((((F_width_a.other W9 (Or.inr (sn20 hw))).other W21 (Or.inl ne_a_bf_)).other W24 (Or.inl ne_a_br_)).other W45 (Or.inr (sn27 hw)))
    have F48 := (F28.other W45 (Or.inr (sn28 hw)))
    have F49 := ((((F_costs_a.other W9 (Or.inr (sn21 hw))).other W21 (Or.inl ne_a_bf_)).other W24 (Or.inl ne_a_br_)).other W45 (Or.inr (sn29 hw)))
    have F50 := (F27.other W45 (Or.inr (sn30 hw)))
    have F51 := ((((F_superseded_a.other W9 (Or.inr (sn22 hw))).other W21 (Or.inl ne_a_bf_)).other W24 (Or.inl ne_a_br_)).other W45 (Or.inr (sn31 hw)))
    have F52 := ((((F_nextKept_a.other W9 (Or.inr (sn23 hw))).other W21 (Or.inl ne_a_bf_)).other W24 (Or.inl ne_a_br_)).other W45 (Or.inr (sn32 hw)))
    have F53 := ((((F_table_a.other W9 (Or.inr (sn24 hw))).other W21 (Or.inl ne_a_bf_)).other W24 (Or.inl ne_a_br_)).other W45 (Or.inr (sn33 hw)))
    have F54 := (((F10.other W21 (Or.inl ne_a_bf_)).other W24 (Or.inl ne_a_br_)).other W45 (Or.inr (sn34 hw)))
    have F55 := ((F22.other W24 (Or.inl ne_a_br_)).other W45 (Or.inr (sn35 hw)))
    have F56 := (((Fw9.other W21 (Or.inl ne_a_bf_)).other W24 (Or.inl ne_a_br_)).other W45 (Or.inr (sn36 hw)))
    have F57 := ((((F_held_a.other W9 (Or.inr (sn26 hw))).other W21 (Or.inl ne_a_bf_)).other W24 (Or.inl ne_a_br_)).other W45 (Or.inr (sn37 hw)))
    have F58 := ((V21.other W24 ne_bf__br_).other W45 (Ne.symm ne_a_bf_))
    have F59 := (V24.other W45 (Ne.symm ne_a_br_))
    exact own_goV X45 hx Bd.returns (hb hby d10_195) Bd.notSynchronized (by decide) (by decide) (by rw [e45]; exact ⟨rfl, N45, K45, F46, F47, F48, F49, F50, F51, F52, F53, F54, F55, F56, (by rw [own_inc, if_neg hc31]; exact Fw45), F57, F58, F59⟩)
theorem d10_117 : decode prog_59_method_20_code 117 = .ok (.aload_n 0, 1) := by decide +kernel
theorem d10_118 : decode prog_59_method_20_code 118 = .ok (.getfield 76, 3) := by decide +kernel
theorem d10_121 : decode prog_59_method_20_code 121 = .ok (.iload 6, 2) := by decide +kernel
theorem d10_123 : decode prog_59_method_20_code 123 = .ok (.aload_n 0, 1) := by decide +kernel
theorem d10_124 : decode prog_59_method_20_code 124 = .ok (.getfield 76, 3) := by decide +kernel
theorem d10_127 : decode prog_59_method_20_code 127 = .ok (.iload 7, 2) := by decide +kernel
theorem d10_129 : decode prog_59_method_20_code 129 = .ok (.daload, 1) := by decide +kernel
theorem d10_130 : decode prog_59_method_20_code 130 = .ok (.dastore, 1) := by decide +kernel
theorem d10_131 : decode prog_59_method_20_code 131 = .ok (.aload_n 0, 1) := by decide +kernel
theorem d10_132 : decode prog_59_method_20_code 132 = .ok (.getfield 79, 3) := by decide +kernel
theorem d10_135 : decode prog_59_method_20_code 135 = .ok (.iload 6, 2) := by decide +kernel
theorem d10_137 : decode prog_59_method_20_code 137 = .ok (.aload_n 0, 1) := by decide +kernel
theorem d10_138 : decode prog_59_method_20_code 138 = .ok (.getfield 79, 3) := by decide +kernel
theorem d10_141 : decode prog_59_method_20_code 141 = .ok (.iload 7, 2) := by decide +kernel
theorem d10_143 : decode prog_59_method_20_code 143 = .ok (.laload, 1) := by decide +kernel
theorem d10_144 : decode prog_59_method_20_code 144 = .ok (.lastore, 1) := by decide +kernel
theorem d10_145 : decode prog_59_method_20_code 145 = .ok (.iload 7, 2) := by decide +kernel
theorem d10_147 : decode prog_59_method_20_code 147 = .ok (.istore 6, 2) := by decide +kernel
theorem d10_149 : decode prog_59_method_20_code 149 = .ok (.iload 6, 2) := by decide +kernel
theorem d10_151 : decode prog_59_method_20_code 151 = .ok (.iconst 1, 1) := by decide +kernel
theorem d10_152 : decode prog_59_method_20_code 152 = .ok (.isub, 1) := by decide +kernel
theorem d10_153 : decode prog_59_method_20_code 153 = .ok (.iconst 2, 1) := by decide +kernel
theorem d10_154 : decode prog_59_method_20_code 154 = .ok (.idiv, 1) := by decide +kernel
theorem d10_155 : decode prog_59_method_20_code 155 = .ok (.istore 7, 2) := by decide +kernel
theorem d10_157 : decode prog_59_method_20_code 157 = .ok (.goto (-68), 3) := by decide +kernel
theorem ef_q1b (m : MethodId) (x0 : Addr) (x1 : Int32) : entryFrame m #[(.ref x0), (.int x1)] 8 = mkF m 0 #[.val (.ref x0), .val (.int x1), .unset, .unset, .unset, .unset, .unset, .unset] [] := by first | (simp [entryFrame, mkF, argsToLocals, Value.category]; done) | rfl
def Qq1b (Z : State) (a : Addr) (n_ : Int32) (ll_ : Int64) (ww_ : Int64) (u_ : Int32) (bc_ : Addr) (bl_ : Addr) (bz_ : Addr) (bk_ : Addr) (bT_ : Addr) (bf_ : Addr) (br_ : Addr) (kc_ : ClassId) (kl_ : ClassId) (kf_ : ClassId) (kr_ : ClassId) (vbc_ : List Value) (vbl_ : List Value) (dx_ : UInt64) (dy_ : UInt64) (x_ : Int32) (y_ : Int32) (r0_ : Int64) (h0 : Heap) (n0 : Nat) (v : Option Value) (h : Heap) (L : List Loc) : Prop := v = none ∧ Fr n0 L ∧ Keep h0 h [a, bf_, br_] ∧ Exa Z h a "com/example/trajectory/trajectory/search/Nodes" ∧ Fld Z h a "com/example/trajectory/trajectory/search/Nodes" "width" "I" (.int (1 : Int32)) ∧ Fld Z h a "com/example/trajectory/trajectory/search/Nodes" "lengthLimit" "J" (.long ll_) ∧ Fld Z h a "com/example/trajectory/trajectory/search/Nodes" "costs" "[D" (.ref bc_) ∧ Fld Z h a "com/example/trajectory/trajectory/search/Nodes" "lengths" "[I" (.ref bl_) ∧ Fld Z h a "com/example/trajectory/trajectory/search/Nodes" "superseded" "[Z" (.ref bz_) ∧ Fld Z h a "com/example/trajectory/trajectory/search/Nodes" "nextKept" "[I" (.ref bk_) ∧ Fld Z h a "com/example/trajectory/trajectory/search/Nodes" "table" "[I" (.ref bT_) ∧ Fld Z h a "com/example/trajectory/trajectory/search/Nodes" "frontierCosts" "[D" (.ref bf_) ∧ Fld Z h a "com/example/trajectory/trajectory/search/Nodes" "frontierRanks" "[J" (.ref br_) ∧ Fld Z h a "com/example/trajectory/trajectory/search/Nodes" "waiting" "I" (.int (2 : Int32)) ∧ Fld Z h a "com/example/trajectory/trajectory/search/Nodes" "waitingWithin" "J" (.long (own_inc ww_ u_ ll_)) ∧ Fld Z h a "com/example/trajectory/trajectory/search/Nodes" "held" "I" (.int (0 : Int32)) ∧ Arv Z h bf_ kf_ .double (64 : Int32) [(.double dy_), (.double dx_), (.double (0 : UInt64)), (.double (0 : UInt64))] (.double (0 : UInt64)) ∧ Arv Z h br_ kr_ .long (64 : Int32) [(.long (own_rk u_ n_)), (.long r0_), (.long (0 : Int64)), (.long (0 : Int64))] (.long (0 : Int64))
set_option maxRecDepth 65536 in
set_option maxHeartbeats 40000000 in
theorem rmq1b (l : Launch) (Z : State) (a0 : Array Value) (hw : ∀ d ∈ tables_1, d.before a0 Z = true) (ws : List Jvm.Cond) (a : Addr) (n_ : Int32) (ll_ : Int64) (ww_ : Int64) (u_ : Int32) (bc_ : Addr) (bl_ : Addr) (bz_ : Addr) (bk_ : Addr) (bT_ : Addr) (bf_ : Addr) (br_ : Addr) (kc_ : ClassId) (kl_ : ClassId) (kf_ : ClassId) (kr_ : ClassId) (vbc_ : List Value) (vbl_ : List Value) (dx_ : UInt64) (dy_ : UInt64) (x_ : Int32) (y_ : Int32) (r0_ : Int64) (h0 : Heap) (n0 : Nat) (Z0 : n0 ≤ h0.size) (E_a : Exa Z h0 a "com/example/trajectory/trajectory/search/Nodes") (F_width_a : Fld Z h0 a "com/example/trajectory/trajectory/search/Nodes" "width" "I" (.int (1 : Int32))) (F_lengthLimit_a : Fld Z h0 a "com/example/trajectory/trajectory/search/Nodes" "lengthLimit" "J" (.long ll_)) (F_costs_a : Fld Z h0 a "com/example/trajectory/trajectory/search/Nodes" "costs" "[D" (.ref bc_)) (F_lengths_a : Fld Z h0 a "com/example/trajectory/trajectory/search/Nodes" "lengths" "[I" (.ref bl_)) (F_superseded_a : Fld Z h0 a "com/example/trajectory/trajectory/search/Nodes" "superseded" "[Z" (.ref bz_)) (F_nextKept_a : Fld Z h0 a "com/example/trajectory/trajectory/search/Nodes" "nextKept" "[I" (.ref bk_)) (F_table_a : Fld Z h0 a "com/example/trajectory/trajectory/search/Nodes" "table" "[I" (.ref bT_)) (F_frontierCosts_a : Fld Z h0 a "com/example/trajectory/trajectory/search/Nodes" "frontierCosts" "[D" (.ref bf_)) (F_frontierRanks_a : Fld Z h0 a "com/example/trajectory/trajectory/search/Nodes" "frontierRanks" "[J" (.ref br_)) (F_waiting_a : Fld Z h0 a "com/example/trajectory/trajectory/search/Nodes" "waiting" "I" (.int (1 : Int32))) (F_waitingWithin_a : Fld Z h0 a "com/example/trajectory/trajectory/search/Nodes" "waitingWithin" "J" (.long ww_)) (F_held_a : Fld Z h0 a "com/example/trajectory/trajectory/search/Nodes" "held" "I" (.int (0 : Int32))) (V_bc_ : Arv Z h0 bc_ kc_ .double (64 : Int32) vbc_ (.double (0 : UInt64))) (V_bl_ : Arv Z h0 bl_ kl_ .int (64 : Int32) vbl_ (.int (0 : Int32))) (V_bf_ : Arv Z h0 bf_ kf_ .double (64 : Int32) [(.double dx_), (.double (0 : UInt64)), (.double (0 : UInt64)), (.double (0 : UInt64))] (.double (0 : UInt64))) (V_br_ : Arv Z h0 br_ kr_ .long (64 : Int32) [(.long r0_), (.long (0 : Int64)), (.long (0 : Int64)), (.long (0 : Int64))] (.long (0 : Int64))) (g_a : n0 ≤ a) (g_bf_ : n0 ≤ bf_) (g_br_ : n0 ≤ br_) (ne_a_bf_ : a ≠ bf_) (ne_a_br_ : a ≠ br_) (ne_a_bl_ : a ≠ bl_) (ne_bf__br_ : bf_ ≠ br_) (ne_bl__bf_ : bl_ ≠ bf_) (ne_bl__br_ : bl_ ≠ br_) (hp26 : ¬ n_ < 0 ∧ n_ < (64 : Int32)) (hp27 : vbc_.getD (n_).toNatClampNeg (.double (0 : UInt64)) = (.double dy_)) (hp28 : vbl_.getD (n_).toNatClampNeg (.int (0 : Int32)) = (.int u_)) (hp29 : dy_ = FP.i2d y_) (hp30 : dx_ = FP.i2d x_) (hp31 : y_ < x_) :
    MetFree l (⟨"com/example/trajectory/trajectory/search/Nodes", "queue", "(I)V"⟩ : MethodName) (head1 (Jvm.Cond.code (⟨"com/example/trajectory/trajectory/search/Nodes", "queue", "(I)V"⟩ : MethodName) prog_59_method_20_code 8 none :: ws) ({ frames := 1, cells := 0, slots := 0, locals := 19 } : Room)) (fun q_ U => q_ = #[(.ref a), (.int n_)] ∧ Z.Warmed39 U.vm ∧ U.heap = h0) (fun _ _ _ _ _ => True) (fun _ U o U' => ∃ v L, o = .returned v ∧ Qq1b Z a n_ ll_ ww_ u_ bc_ bl_ bz_ bk_ bT_ bf_ br_ kc_ kl_ kf_ kr_ vbc_ vbl_ dx_ dy_ x_ y_ r0_ h0 n0 v U'.heap L ∧ FrameEnd U o U' L ({ frames := 1, cells := 0, slots := 0, locals := 19 } : Room).cells ({ frames := 1, cells := 0, slots := 0, locals := 19 } : Room).slots) := by
  refine MetFree.of_bodySF (plainFor_of_name pn_1) hisR ?_
  intro p e s m args below meth c s₁ Bd hml0 hP hK
  obtain ⟨rfl, hZ, hh⟩ := hP
  have hx := Bd.exec
  have hby := Bd.bytes
  have hml : c.maxLocals = 8 := hml0
  have hown : s.vm.findClass "com/example/trajectory/trajectory/search/Nodes" = some m.cls := findClass_of_methodNamed Bd.named
  have hnm := (name_of_methodNamed Bd.named Bd.method).1
  have X0 : Stand p l e ({ frames := 1, cells := 0, slots := 0, locals := 19 } : Room) s m #[(.ref a), (.int n_)] below meth c s₁ [] 0 0 := Stand.of_body Bd
  have e0 : s₁.heap = h0 := by rw [← hh, Bd.state]; rfl
  have N0 := Fr.nil n0
  show own_Go p e below s (Qq1b Z a n_ ll_ ww_ u_ bc_ bl_ bz_ bk_ bT_ bf_ br_ kc_ kl_ kf_ kr_ vbc_ vbl_ dx_ dy_ x_ y_ r0_ h0 n0) ({ frames := 1, cells := 0, slots := 0, locals := 19 } : Room).cells ({ frames := 1, cells := 0, slots := 0, locals := 19 } : Room).slots (s₁.setTop (entryFrame m #[(.ref a), (.int n_)] 8))
  refine own_via (fun t k => castTop (ef_q1b m a n_) k) ?_
  have K0 : Keep h0 h0 [a, bf_, br_] := Keep.refl _ _
  show own_Go p e below s _ _ _ (s₁.setTop (mkF m 0 #[lR a, lI n_, lU, lU, lU, lU, lU, lU] []))
  refine own_via (fun _ k => XS.aloadN X0.here hx rfl (hb hby d10_0) rfl rfl k) ?_
  show own_Go p e below s _ _ _ (s₁.setTop (mkF m 1 #[lR a, lI n_, lU, lU, lU, lU, lU, lU] [(.ref a)]))
  obtain ⟨T1, X1, e1, st1⟩ := getF X0 hx hZ hown (host := "") (Or.inl (hwi hw 88 rfl)) Via.refl e0 F_waiting_a (g := (mkF m 1 #[lR a, lI n_, lU, lU, lU, lU, lU, lU] [(.ref a)])) rfl rfl (hb hby d10_1)
  refine own_via st1 ?_
  show own_Go p e below s _ _ _ (T1.setTop (mkF m 4 #[lR a, lI n_, lU, lU, lU, lU, lU, lU] [(.int (1 : Int32))]))
  refine own_via (fun _ k => XS.aloadN X1.here hx rfl (hb hby d10_4) rfl rfl k) ?_
  show own_Go p e below s _ _ _ (T1.setTop (mkF m 5 #[lR a, lI n_, lU, lU, lU, lU, lU, lU] [(.ref a), (.int (1 : Int32))]))
  obtain ⟨T2, X2, e2, st2⟩ := getF X1 hx hZ hown (host := "") (Or.inl (hwi hw 61 rfl)) Via.refl e1 F_frontierCosts_a (g := (mkF m 5 #[lR a, lI n_, lU, lU, lU, lU, lU, lU] [(.ref a), (.int (1 : Int32))])) rfl rfl (hb hby d10_5)
  refine own_via st2 ?_
  show own_Go p e below s _ _ _ (T2.setTop (mkF m 8 #[lR a, lI n_, lU, lU, lU, lU, lU, lU] [(.ref bf_), (.int (1 : Int32))]))
  obtain ⟨cl3, Ar3, q3, S3, M3, H3, G3⟩ := (id V_bf_)
  refine own_via (fun _ k => X2.arraylength hx (by rw [e2]; exact Ar3.1) (State.isArrayOf_alike hZ.alike Ar3.2.1) (g := (mkF m 8 #[lR a, lI n_, lU, lU, lU, lU, lU, lU] [(.ref bf_), (.int (1 : Int32))])) rfl rfl (hb hby d10_8) _ (by rw [len_of S3 M3]; exact k)) ?_
  show own_Go p e below s _ _ _ (T2.setTop (mkF m 9 #[lR a, lI n_, lU, lU, lU, lU, lU, lU] [(.int (64 : Int32)), (.int (1 : Int32))]))
  refine own_via (fun _ k => XS.icmpYes X2.here hx rfl (pc0 := 9) (pc' := 46) rfl (hb hby d10_9) rfl (Jvm.Free.XT.ii_ne_t (by decide)) (by decide) (by decide) k) ?_
  show own_Go p e below s _ _ _ (T2.setTop (mkF m 46 #[lR a, lI n_, lU, lU, lU, lU, lU, lU] []))
  refine own_via (fun _ k => XS.aloadN X2.here hx rfl (hb hby d10_46) rfl rfl k) ?_
  show own_Go p e below s _ _ _ (T2.setTop (mkF m 47 #[lR a, lI n_, lU, lU, lU, lU, lU, lU] [(.ref a)]))
  obtain ⟨T4, X4, e4, st4⟩ := getF X2 hx hZ hown (host := "") (Or.inl (hwi hw 43 rfl)) Via.refl e2 F_costs_a (g := (mkF m 47 #[lR a, lI n_, lU, lU, lU, lU, lU, lU] [(.ref a)])) rfl rfl (hb hby d10_47)
  refine own_via st4 ?_
  show own_Go p e below s _ _ _ (T4.setTop (mkF m 50 #[lR a, lI n_, lU, lU, lU, lU, lU, lU] [(.ref bc_)]))
  refine own_via (fun _ k => XS.iloadN X4.here hx rfl (hb hby d10_50) rfl k) ?_
  show own_Go p e below s _ _ _ (T4.setTop (mkF m 51 #[lR a, lI n_, lU, lU, lU, lU, lU, lU] [(.int n_), (.ref bc_)]))
  obtain ⟨cl5, Ar5, q5, S5, M5, H5, G5⟩ := (id V_bc_)
  have hin5 : ¬ (n_ < 0 ∨ cl5.slots.size ≤ (n_).toNatClampNeg) := inb_of S5 hp26
  have hat5 : cl5.slots[(n_).toNatClampNeg]? = some (.double dy_) := Has.at H5 hin5 hp27
  refine own_via (fun _ k => X4.daload hx (j := n_) (v := (.double dy_)) (by rw [e4]; exact Ar5.1) (State.isArrayOf_alike hZ.alike Ar5.2.1) Ar5.2.2 hin5 hat5 (g := (mkF m 51 #[lR a, lI n_, lU, lU, lU, lU, lU, lU] [(.int n_), (.ref bc_)])) rfl rfl (hb hby d10_51) _ k) ?_
  show own_Go p e below s _ _ _ (T4.setTop (mkF m 52 #[lR a, lI n_, lU, lU, lU, lU, lU, lU] [(.double dy_)]))
  refine own_via (fun _ k => XS.dstoreN X4.here hx rfl (hb hby d10_52) rfl (l' := #[lR a, lI n_, lD dy_, lS, lU, lU, lU, lU]) rfl k) ?_
  show own_Go p e below s _ _ _ (T4.setTop (mkF m 53 #[lR a, lI n_, lD dy_, lS, lU, lU, lU, lU] []))
  refine own_via (fun _ k => XS.aloadN X4.here hx rfl (hb hby d10_53) rfl rfl k) ?_
  show own_Go p e below s _ _ _ (T4.setTop (mkF m 54 #[lR a, lI n_, lD dy_, lS, lU, lU, lU, lU] [(.ref a)]))
  obtain ⟨T6, X6, e6, st6⟩ := getF X4 hx hZ hown (host := "") (Or.inl (hwi hw 48 rfl)) Via.refl e4 F_lengths_a (g := (mkF m 54 #[lR a, lI n_, lD dy_, lS, lU, lU, lU, lU] [(.ref a)])) rfl rfl (hb hby d10_54)
  refine own_via st6 ?_
  show own_Go p e below s _ _ _ (T6.setTop (mkF m 57 #[lR a, lI n_, lD dy_, lS, lU, lU, lU, lU] [(.ref bl_)]))
  refine own_via (fun _ k => XS.iloadN X6.here hx rfl (hb hby d10_57) rfl k) ?_
  show own_Go p e below s _ _ _ (T6.setTop (mkF m 58 #[lR a, lI n_, lD dy_, lS, lU, lU, lU, lU] [(.int n_), (.ref bl_)]))
  obtain ⟨cl7, Ar7, q7, S7, M7, H7, G7⟩ := (id V_bl_)
  have hin7 : ¬ (n_ < 0 ∨ cl7.slots.size ≤ (n_).toNatClampNeg) := inb_of S7 hp26
  have hat7 : cl7.slots[(n_).toNatClampNeg]? = some (.int u_) := Has.at H7 hin7 hp28
  refine own_via (fun _ k => X6.iaload hx (j := n_) (v := (.int u_)) (by rw [e6]; exact Ar7.1) (State.isArrayOf_alike hZ.alike Ar7.2.1) Ar7.2.2 hin7 hat7 (g := (mkF m 58 #[lR a, lI n_, lD dy_, lS, lU, lU, lU, lU] [(.int n_), (.ref bl_)])) rfl rfl (hb hby d10_58) _ k) ?_
  show own_Go p e below s _ _ _ (T6.setTop (mkF m 59 #[lR a, lI n_, lD dy_, lS, lU, lU, lU, lU] [(.int u_)]))
  refine own_via (fun _ k => XS.i2l X6.here hx rfl (hb hby d10_59) rfl k) ?_
  show own_Go p e below s _ _ _ (T6.setTop (mkF m 60 #[lR a, lI n_, lD dy_, lS, lU, lU, lU, lU] [(.long (o_i2l u_))]))
  refine own_via (fun _ k => XS.bipush X6.here hx rfl (hb hby d10_60) k) ?_
  show own_Go p e below s _ _ _ (T6.setTop (mkF m 62 #[lR a, lI n_, lD dy_, lS, lU, lU, lU, lU] [(.int (32 : Int32)), (.long (o_i2l u_))]))
  refine own_via (fun _ k => XS.lshl X6.here hx rfl (hb hby d10_62) rfl k) ?_
  show own_Go p e below s _ _ _ (T6.setTop (mkF m 63 #[lR a, lI n_, lD dy_, lS, lU, lU, lU, lU] [(.long (o_lshl (o_i2l u_) (32 : Int32)))]))
  refine own_via (fun _ k => XS.iloadN X6.here hx rfl (hb hby d10_63) rfl k) ?_
  show own_Go p e below s _ _ _ (T6.setTop (mkF m 64 #[lR a, lI n_, lD dy_, lS, lU, lU, lU, lU] [(.int n_), (.long (o_lshl (o_i2l u_) (32 : Int32)))]))
  refine own_via (fun _ k => XS.i2l X6.here hx rfl (hb hby d10_64) rfl k) ?_
  show own_Go p e below s _ _ _ (T6.setTop (mkF m 65 #[lR a, lI n_, lD dy_, lS, lU, lU, lU, lU] [(.long (o_i2l n_)), (.long (o_lshl (o_i2l u_) (32 : Int32)))]))
  refine own_via (fun _ k => XS.lor X6.here hx rfl (hb hby d10_65) rfl k) ?_
  show own_Go p e below s _ _ _ (T6.setTop (mkF m 66 #[lR a, lI n_, lD dy_, lS, lU, lU, lU, lU] [(.long ((o_lshl (o_i2l u_) (32 : Int32)) ||| (o_i2l n_)))]))
  rw [show ((o_lshl (o_i2l u_) (32 : Int32)) ||| (o_i2l n_)) = (own_rk u_ n_) from rfl]
  show own_Go p e below s _ _ _ (T6.setTop (mkF m 66 #[lR a, lI n_, lD dy_, lS, lU, lU, lU, lU] [(.long (own_rk u_ n_))]))
  refine own_via (fun _ k => XS.lstore X6.here hx rfl (hb hby d10_66) rfl (l' := #[lR a, lI n_, lD dy_, lS, lJ (own_rk u_ n_), lS, lU, lU]) rfl k) ?_
  show own_Go p e below s _ _ _ (T6.setTop (mkF m 68 #[lR a, lI n_, lD dy_, lS, lJ (own_rk u_ n_), lS, lU, lU] []))
  refine own_via (fun _ k => XS.aloadN X6.here hx rfl (hb hby d10_68) rfl rfl k) ?_
  show own_Go p e below s _ _ _ (T6.setTop (mkF m 69 #[lR a, lI n_, lD dy_, lS, lJ (own_rk u_ n_), lS, lU, lU] [(.ref a)]))
  refine own_via (fun _ k => XS.dup X6.here hx rfl (hb hby d10_69) rfl rfl k) ?_
  show own_Go p e below s _ _ _ (T6.setTop (mkF m 70 #[lR a, lI n_, lD dy_, lS, lJ (own_rk u_ n_), lS, lU, lU] [(.ref a), (.ref a)]))
  obtain ⟨T8, X8, e8, st8⟩ := getF X6 hx hZ hown (host := "") (Or.inl (hwi hw 88 rfl)) Via.refl e6 F_waiting_a (g := (mkF m 70 #[lR a, lI n_, lD dy_, lS, lJ (own_rk u_ n_), lS, lU, lU] [(.ref a), (.ref a)])) rfl rfl (hb hby d10_70)
  refine own_via st8 ?_
  show own_Go p e below s _ _ _ (T8.setTop (mkF m 73 #[lR a, lI n_, lD dy_, lS, lJ (own_rk u_ n_), lS, lU, lU] [(.int (1 : Int32)), (.ref a)]))
  refine own_via (fun _ k => XS.dupX1 X8.here hx rfl (hb hby d10_73) rfl rfl rfl k) ?_
  show own_Go p e below s _ _ _ (T8.setTop (mkF m 74 #[lR a, lI n_, lD dy_, lS, lJ (own_rk u_ n_), lS, lU, lU] [(.int (1 : Int32)), (.ref a), (.int (1 : Int32))]))
  refine own_via (fun _ k => XS.iconst X8.here hx rfl (hb hby d10_74) k) ?_
  show own_Go p e below s _ _ _ (T8.setTop (mkF m 75 #[lR a, lI n_, lD dy_, lS, lJ (own_rk u_ n_), lS, lU, lU] [(.int (1 : Int32)), (.int (1 : Int32)), (.ref a), (.int (1 : Int32))]))
  refine own_via (fun _ k => XS.iadd X8.here hx rfl (hb hby d10_75) rfl k) ?_
  show own_Go p e below s _ _ _ (T8.setTop (mkF m 76 #[lR a, lI n_, lD dy_, lS, lJ (own_rk u_ n_), lS, lU, lU] [(.int (2 : Int32)), (.ref a), (.int (1 : Int32))]))
  obtain ⟨T9, h9, X9, e9, W9, st9⟩ := putF X8 hx hZ hown (host := "") (Or.inl (hwi hw 88 rfl)) Via.refl e8 F_waiting_a E_a (Or.inl (hwi hw 89 rfl)) (hwi hw 3 rfl) (ty := .int) (by decide) rfl rfl (g := (mkF m 76 #[lR a, lI n_, lD dy_, lS, lJ (own_rk u_ n_), lS, lU, lU] [(.int (2 : Int32)), (.ref a), (.int (1 : Int32))])) rfl rfl (hb hby d10_76)
  have N9 := Fr.snoc X9 N0 g_a
  have Fw9 := F_waiting_a.same W9
  have Z9 : n0 ≤ h9.size := Nat.le_trans Z0 (Keep.of_wr W9).1
  have K9 : Keep h0 h9 [a, bf_, br_] := K0.wr W9 (Or.inl (List.mem_of_getElem? (i := 0) rfl))
  refine own_via st9 ?_
  show own_Go p e below s _ _ _ (T9.setTop (mkF m 79 #[lR a, lI n_, lD dy_, lS, lJ (own_rk u_ n_), lS, lU, lU] [(.int (1 : Int32))]))
  refine own_via (fun _ k => XS.istore X9.here hx rfl (hb hby d10_79) rfl (l' := #[lR a, lI n_, lD dy_, lS, lJ (own_rk u_ n_), lS, lI 1, lU]) rfl k) ?_
  show own_Go p e below s _ _ _ (T9.setTop (mkF m 81 #[lR a, lI n_, lD dy_, lS, lJ (own_rk u_ n_), lS, lI 1, lU] []))
  refine own_via (fun _ k => XS.iload X9.here hx rfl (hb hby d10_81) rfl k) ?_
  show own_Go p e below s _ _ _ (T9.setTop (mkF m 83 #[lR a, lI n_, lD dy_, lS, lJ (own_rk u_ n_), lS, lI 1, lU] [(.int (1 : Int32))]))
  refine own_via (fun _ k => XS.iconst X9.here hx rfl (hb hby d10_83) k) ?_
  show own_Go p e below s _ _ _ (T9.setTop (mkF m 84 #[lR a, lI n_, lD dy_, lS, lJ (own_rk u_ n_), lS, lI 1, lU] [(.int (1 : Int32)), (.int (1 : Int32))]))
  refine own_via (fun _ k => XS.isub X9.here hx rfl (hb hby d10_84) rfl k) ?_
  show own_Go p e below s _ _ _ (T9.setTop (mkF m 85 #[lR a, lI n_, lD dy_, lS, lJ (own_rk u_ n_), lS, lI 1, lU] [(.int (0 : Int32))]))
  refine own_via (fun _ k => XS.iconst X9.here hx rfl (hb hby d10_85) k) ?_
  show own_Go p e below s _ _ _ (T9.setTop (mkF m 86 #[lR a, lI n_, lD dy_, lS, lJ (own_rk u_ n_), lS, lI 1, lU] [(.int (2 : Int32)), (.int (0 : Int32))]))
  refine own_via (fun _ k => XS.idiv X9.here hx rfl (hb hby d10_86) rfl (by decide) k) ?_
  show own_Go p e below s _ _ _ (T9.setTop (mkF m 87 #[lR a, lI n_, lD dy_, lS, lJ (own_rk u_ n_), lS, lI 1, lU] [(.int ((0 : Int32) / (2 : Int32)))]))
  rw [show ((0 : Int32) / (2 : Int32)) = (0 : Int32) from (by decide)]
  show own_Go p e below s _ _ _ (T9.setTop (mkF m 87 #[lR a, lI n_, lD dy_, lS, lJ (own_rk u_ n_), lS, lI 1, lU] [(.int (0 : Int32))]))
  refine own_via (fun _ k => XS.istore X9.here hx rfl (hb hby d10_87) rfl (l' := #[lR a, lI n_, lD dy_, lS, lJ (own_rk u_ n_), lS, lI 1, lI 0]) rfl k) ?_
  show own_Go p e below s _ _ _ (T9.setTop (mkF m 89 #[lR a, lI n_, lD dy_, lS, lJ (own_rk u_ n_), lS, lI 1, lI 0] []))
  refine own_via (fun _ k => XS.iload X9.here hx rfl (hb hby d10_89) rfl k) ?_
  show own_Go p e below s _ _ _ (T9.setTop (mkF m 91 #[lR a, lI n_, lD dy_, lS, lJ (own_rk u_ n_), lS, lI 1, lI 0] [(.int (1 : Int32))]))
  refine own_via (fun _ k => XS.ifNo X9.here hx rfl (hb hby d10_91) rfl (Jvm.Free.XT.i0_le_f (by decide)) k) ?_
  show own_Go p e below s _ _ _ (T9.setTop (mkF m 94 #[lR a, lI n_, lD dy_, lS, lJ (own_rk u_ n_), lS, lI 1, lI 0] []))
  refine own_via (fun _ k => XS.dloadN X9.here hx rfl (hb hby d10_94) rfl k) ?_
  show own_Go p e below s _ _ _ (T9.setTop (mkF m 95 #[lR a, lI n_, lD dy_, lS, lJ (own_rk u_ n_), lS, lI 1, lI 0] [(.double dy_)]))
  refine own_via (fun _ k => XS.lload X9.here hx rfl (hb hby d10_95) rfl k) ?_
  show own_Go p e below s _ _ _ (T9.setTop (mkF m 97 #[lR a, lI n_, lD dy_, lS, lJ (own_rk u_ n_), lS, lI 1, lI 0] [(.long (own_rk u_ n_)), (.double dy_)]))
  refine own_via (fun _ k => XS.aloadN X9.here hx rfl (hb hby d10_97) rfl rfl k) ?_
  show own_Go p e below s _ _ _ (T9.setTop (mkF m 98 #[lR a, lI n_, lD dy_, lS, lJ (own_rk u_ n_), lS, lI 1, lI 0] [(.ref a), (.long (own_rk u_ n_)), (.double dy_)]))
  have F10 := (F_frontierCosts_a.other W9 (Or.inr (sn16 hw)))
  obtain ⟨T11, X11, e11, st11⟩ := getF X9 hx hZ hown (host := "") (Or.inl (hwi hw 61 rfl)) Via.refl e9 F10 (g := (mkF m 98 #[lR a, lI n_, lD dy_, lS, lJ (own_rk u_ n_), lS, lI 1, lI 0] [(.ref a), (.long (own_rk u_ n_)), (.double dy_)])) rfl rfl (hb hby d10_98)
  refine own_via st11 ?_
  show own_Go p e below s _ _ _ (T11.setTop (mkF m 101 #[lR a, lI n_, lD dy_, lS, lJ (own_rk u_ n_), lS, lI 1, lI 0] [(.ref bf_), (.long (own_rk u_ n_)), (.double dy_)]))
  refine own_via (fun _ k => XS.iload X11.here hx rfl (hb hby d10_101) rfl k) ?_
  show own_Go p e below s _ _ _ (T11.setTop (mkF m 103 #[lR a, lI n_, lD dy_, lS, lJ (own_rk u_ n_), lS, lI 1, lI 0] [(.int (0 : Int32)), (.ref bf_), (.long (own_rk u_ n_)), (.double dy_)]))
  have F13 := (V_bf_.other W9 (Ne.symm ne_a_bf_))
  obtain ⟨cl12, Ar12, q12, S12, M12, H12, G12⟩ := (id F13)
  have hin12 : ¬ ((0 : Int32) < 0 ∨ cl12.slots.size ≤ ((0 : Int32)).toNatClampNeg) := inb_of S12 ⟨by decide, by decide⟩
  have hat12 : cl12.slots[((0 : Int32)).toNatClampNeg]? = some (.double dx_) := Has.at H12 hin12 rfl
  refine own_via (fun _ k => X11.daload hx (j := (0 : Int32)) (v := (.double dx_)) (by rw [e11]; exact Ar12.1) (State.isArrayOf_alike hZ.alike Ar12.2.1) Ar12.2.2 hin12 hat12 (g := (mkF m 103 #[lR a, lI n_, lD dy_, lS, lJ (own_rk u_ n_), lS, lI 1, lI 0] [(.int (0 : Int32)), (.ref bf_), (.long (own_rk u_ n_)), (.double dy_)])) rfl rfl (hb hby d10_103) _ k) ?_
  show own_Go p e below s _ _ _ (T11.setTop (mkF m 104 #[lR a, lI n_, lD dy_, lS, lJ (own_rk u_ n_), lS, lI 1, lI 0] [(.double dx_), (.long (own_rk u_ n_)), (.double dy_)]))
  refine own_via (fun _ k => XS.aloadN X11.here hx rfl (hb hby d10_104) rfl rfl k) ?_
  show own_Go p e below s _ _ _ (T11.setTop (mkF m 105 #[lR a, lI n_, lD dy_, lS, lJ (own_rk u_ n_), lS, lI 1, lI 0] [(.ref a), (.double dx_), (.long (own_rk u_ n_)), (.double dy_)]))
  have F14 := (F_frontierRanks_a.other W9 (Or.inr (sn17 hw)))
  obtain ⟨T15, X15, e15, st15⟩ := getF X11 hx hZ hown (host := "") (Or.inl (hwi hw 63 rfl)) Via.refl e11 F14 (g := (mkF m 105 #[lR a, lI n_, lD dy_, lS, lJ (own_rk u_ n_), lS, lI 1, lI 0] [(.ref a), (.double dx_), (.long (own_rk u_ n_)), (.double dy_)])) rfl rfl (hb hby d10_105)
  refine own_via st15 ?_
  show own_Go p e below s _ _ _ (T15.setTop (mkF m 108 #[lR a, lI n_, lD dy_, lS, lJ (own_rk u_ n_), lS, lI 1, lI 0] [(.ref br_), (.double dx_), (.long (own_rk u_ n_)), (.double dy_)]))
  refine own_via (fun _ k => XS.iload X15.here hx rfl (hb hby d10_108) rfl k) ?_
  show own_Go p e below s _ _ _ (T15.setTop (mkF m 110 #[lR a, lI n_, lD dy_, lS, lJ (own_rk u_ n_), lS, lI 1, lI 0] [(.int (0 : Int32)), (.ref br_), (.double dx_), (.long (own_rk u_ n_)), (.double dy_)]))
  have F17 := (V_br_.other W9 (Ne.symm ne_a_br_))
  obtain ⟨cl16, Ar16, q16, S16, M16, H16, G16⟩ := (id F17)
  have hin16 : ¬ ((0 : Int32) < 0 ∨ cl16.slots.size ≤ ((0 : Int32)).toNatClampNeg) := inb_of S16 ⟨by decide, by decide⟩
  have hat16 : cl16.slots[((0 : Int32)).toNatClampNeg]? = some (.long r0_) := Has.at H16 hin16 rfl
  refine own_via (fun _ k => X15.laload hx (j := (0 : Int32)) (v := (.long r0_)) (by rw [e15]; exact Ar16.1) (State.isArrayOf_alike hZ.alike Ar16.2.1) Ar16.2.2 hin16 hat16 (g := (mkF m 110 #[lR a, lI n_, lD dy_, lS, lJ (own_rk u_ n_), lS, lI 1, lI 0] [(.int (0 : Int32)), (.ref br_), (.double dx_), (.long (own_rk u_ n_)), (.double dy_)])) rfl rfl (hb hby d10_110) _ k) ?_
  show own_Go p e below s _ _ _ (T15.setTop (mkF m 111 #[lR a, lI n_, lD dy_, lS, lJ (own_rk u_ n_), lS, lI 1, lI 0] [(.long r0_), (.double dx_), (.long (own_rk u_ n_)), (.double dy_)]))
  obtain ⟨_, _, ⟨T18, L18, k18, n18⟩, -, X18, ⟨Lc18, hQ18, l18, y18, z18⟩, st18⟩ := Jvm.LawKit.callS X15 hx (y := (⟨"com/example/trajectory/trajectory/search/Nodes", "before", "(DJDJ)Z"⟩ : MethodName)) hown (mvT hZ (hwi hw 95 rfl)) (mvT hZ (hwi hw 96 rfl)) (mvT hZ (hwi hw 4 rfl)) (mvT hZ (hwi hw 97 rfl)) (by decide) (backOf (W := 0) (rm12 l Z a0 hw [] dy_ (own_rk u_ n_) dx_ r0_ y_ x_ h9 n0 Z9 hp29 hp30) hZ (hwi hw 97 rfl) (hwi hw 4 rfl) (by decide) (by decide)) (g := (mkF m 111 #[lR a, lI n_, lD dy_, lS, lJ (own_rk u_ n_), lS, lI 1, lI 0] [(.long r0_), (.double dx_), (.long (own_rk u_ n_)), (.double dy_)])) rfl (by rw [hml]; rfl) (argsL := [(.double dy_), (.long (own_rk u_ n_)), (.double dx_), (.long r0_)]) (rest := []) (lenOf pd_4 rfl) rfl (by show 2 * 0 + _ ≤ _; exact Nat.le_of_eq rfl) (hb hby d10_111) (fun _ _ => ⟨rfl, e15, (by decide : 0 + 0 ≤ _), (by decide : 0 + 0 ≤ _)⟩)
  dsimp only [Pt.U, Pt.locs, Pt.cells, Pt.slots] at X18 l18 y18 z18 st18 hQ18
  subst l18 y18 z18
  obtain ⟨rfl, N18q, e18⟩ := hQ18
  have N18 := Fr.app N9 N18q
  refine own_via st18 ?_
  show own_Go p e below s _ _ _ (T18.setTop (mkF m 114 #[lR a, lI n_, lD dy_, lS, lJ (own_rk u_ n_), lS, lI 1, lI 0] [(.int (own_bf y_ x_ (own_rk u_ n_) r0_))]))
  have hc19 : ¬ ((own_bf y_ x_ (own_rk u_ n_) r0_) = (0 : Int32)) := own_bf_t hp31
  refine own_via (fun _ k => XS.ifNo X18.here hx rfl (hb hby d10_114) rfl (Jvm.Free.XT.i0_eq_f hc19) k) ?_
  show own_Go p e below s _ _ _ (T18.setTop (mkF m 117 #[lR a, lI n_, lD dy_, lS, lJ (own_rk u_ n_), lS, lI 1, lI 0] []))
  refine own_via (fun _ k => XS.aloadN X18.here hx rfl (hb hby d10_117) rfl rfl k) ?_
  show own_Go p e below s _ _ _ (T18.setTop (mkF m 118 #[lR a, lI n_, lD dy_, lS, lJ (own_rk u_ n_), lS, lI 1, lI 0] [(.ref a)]))
  obtain ⟨T20, X20, e20, st20⟩ := getF X18 hx hZ hown (host := "") (Or.inl (hwi hw 61 rfl)) Via.refl e18 F10 (g := (mkF m 118 #[lR a, lI n_, lD dy_, lS, lJ (own_rk u_ n_), lS, lI 1, lI 0] [(.ref a)])) rfl rfl (hb hby d10_118)
  refine own_via st20 ?_
  show own_Go p e below s _ _ _ (T20.setTop (mkF m 121 #[lR a, lI n_, lD dy_, lS, lJ (own_rk u_ n_), lS, lI 1, lI 0] [(.ref bf_)]))
  refine own_via (fun _ k => XS.iload X20.here hx rfl (hb hby d10_121) rfl k) ?_
  show own_Go p e below s _ _ _ (T20.setTop (mkF m 123 #[lR a, lI n_, lD dy_, lS, lJ (own_rk u_ n_), lS, lI 1, lI 0] [(.int (1 : Int32)), (.ref bf_)]))
  refine own_via (fun _ k => XS.aloadN X20.here hx rfl (hb hby d10_123) rfl rfl k) ?_
  show own_Go p e below s _ _ _ (T20.setTop (mkF m 124 #[lR a, lI n_, lD dy_, lS, lJ (own_rk u_ n_), lS, lI 1, lI 0] [(.ref a), (.int (1 : Int32)), (.ref bf_)]))
  obtain ⟨T21, X21, e21, st21⟩ := getF X20 hx hZ hown (host := "") (Or.inl (hwi hw 61 rfl)) Via.refl e20 F10 (g := (mkF m 124 #[lR a, lI n_, lD dy_, lS, lJ (own_rk u_ n_), lS, lI 1, lI 0] [(.ref a), (.int (1 : Int32)), (.ref bf_)])) rfl rfl (hb hby d10_124)
  refine own_via st21 ?_
  show own_Go p e below s _ _ _ (T21.setTop (mkF m 127 #[lR a, lI n_, lD dy_, lS, lJ (own_rk u_ n_), lS, lI 1, lI 0] [(.ref bf_), (.int (1 : Int32)), (.ref bf_)]))
  refine own_via (fun _ k => XS.iload X21.here hx rfl (hb hby d10_127) rfl k) ?_
  show own_Go p e below s _ _ _ (T21.setTop (mkF m 129 #[lR a, lI n_, lD dy_, lS, lJ (own_rk u_ n_), lS, lI 1, lI 0] [(.int (0 : Int32)), (.ref bf_), (.int (1 : Int32)), (.ref bf_)]))
  obtain ⟨cl22, Ar22, q22, S22, M22, H22, G22⟩ := (id F13)
  have hin22 : ¬ ((0 : Int32) < 0 ∨ cl22.slots.size ≤ ((0 : Int32)).toNatClampNeg) := inb_of S22 ⟨by decide, by decide⟩
  have hat22 : cl22.slots[((0 : Int32)).toNatClampNeg]? = some (.double dx_) := Has.at H22 hin22 rfl
  refine own_via (fun _ k => X21.daload hx (j := (0 : Int32)) (v := (.double dx_)) (by rw [e21]; exact Ar22.1) (State.isArrayOf_alike hZ.alike Ar22.2.1) Ar22.2.2 hin22 hat22 (g := (mkF m 129 #[lR a, lI n_, lD dy_, lS, lJ (own_rk u_ n_), lS, lI 1, lI 0] [(.int (0 : Int32)), (.ref bf_), (.int (1 : Int32)), (.ref bf_)])) rfl rfl (hb hby d10_129) _ k) ?_
  show own_Go p e below s _ _ _ (T21.setTop (mkF m 130 #[lR a, lI n_, lD dy_, lS, lJ (own_rk u_ n_), lS, lI 1, lI 0] [(.double dx_), (.int (1 : Int32)), (.ref bf_)]))
  obtain ⟨cl23, Ar23, q23, S23, M23, H23, G23⟩ := (id F13)
  have hin23 : ¬ ((1 : Int32) < 0 ∨ cl23.slots.size ≤ ((1 : Int32)).toNatClampNeg) := inb_of S23 ⟨by decide, by decide⟩
  obtain ⟨T23, h23, X23, e23, W23, st23⟩ := stD X21 hx hZ e21 Ar23 (j := (1 : Int32)) hin23 (g := (mkF m 130 #[lR a, lI n_, lD dy_, lS, lJ (own_rk u_ n_), lS, lI 1, lI 0] [(.double dx_), (.int (1 : Int32)), (.ref bf_)])) rfl rfl (hb hby d10_130)
  have V23 : Arv Z h23 bf_ kf_ .double (64 : Int32) [(.double dx_), (.double dx_), (.double (0 : UInt64)), (.double (0 : UInt64))] (.double (0 : UInt64)) := Arv.set Ar23 q23 S23 M23 H23 G23 rfl W23 1 rfl (Nat.le_of_ble_eq_true rfl)
  have N23 := Fr.snoc X23 N18 g_bf_
  have Z23 : n0 ≤ h23.size := Nat.le_trans Z9 (Keep.of_wr W23).1
  have K23 : Keep h0 h23 [a, bf_, br_] := K9.wr W23 (Or.inl (List.mem_of_getElem? (i := 1) rfl))
  refine own_via st23 ?_
  show own_Go p e below s _ _ _ (T23.setTop (mkF m 131 #[lR a, lI n_, lD dy_, lS, lJ (own_rk u_ n_), lS, lI 1, lI 0] []))
  refine own_via (fun _ k => XS.aloadN X23.here hx rfl (hb hby d10_131) rfl rfl k) ?_
  show own_Go p e below s _ _ _ (T23.setTop (mkF m 132 #[lR a, lI n_, lD dy_, lS, lJ (own_rk u_ n_), lS, lI 1, lI 0] [(.ref a)]))
  have F24 := (F14.other W23 (Or.inl ne_a_bf_))
  obtain ⟨T25, X25, e25, st25⟩ := getF X23 hx hZ hown (host := "") (Or.inl (hwi hw 63 rfl)) Via.refl e23 F24 (g := (mkF m 132 #[lR a, lI n_, lD dy_, lS, lJ (own_rk u_ n_), lS, lI 1, lI 0] [(.ref a)])) rfl rfl (hb hby d10_132)
  refine own_via st25 ?_
  show own_Go p e below s _ _ _ (T25.setTop (mkF m 135 #[lR a, lI n_, lD dy_, lS, lJ (own_rk u_ n_), lS, lI 1, lI 0] [(.ref br_)]))
  refine own_via (fun _ k => XS.iload X25.here hx rfl (hb hby d10_135) rfl k) ?_
  show own_Go p e below s _ _ _ (T25.setTop (mkF m 137 #[lR a, lI n_, lD dy_, lS, lJ (own_rk u_ n_), lS, lI 1, lI 0] [(.int (1 : Int32)), (.ref br_)]))
  refine own_via (fun _ k => XS.aloadN X25.here hx rfl (hb hby d10_137) rfl rfl k) ?_
  show own_Go p e below s _ _ _ (T25.setTop (mkF m 138 #[lR a, lI n_, lD dy_, lS, lJ (own_rk u_ n_), lS, lI 1, lI 0] [(.ref a), (.int (1 : Int32)), (.ref br_)]))
  obtain ⟨T26, X26, e26, st26⟩ := getF X25 hx hZ hown (host := "") (Or.inl (hwi hw 63 rfl)) Via.refl e25 F24 (g := (mkF m 138 #[lR a, lI n_, lD dy_, lS, lJ (own_rk u_ n_), lS, lI 1, lI 0] [(.ref a), (.int (1 : Int32)), (.ref br_)])) rfl rfl (hb hby d10_138)
  refine own_via st26 ?_
  show own_Go p e below s _ _ _ (T26.setTop (mkF m 141 #[lR a, lI n_, lD dy_, lS, lJ (own_rk u_ n_), lS, lI 1, lI 0] [(.ref br_), (.int (1 : Int32)), (.ref br_)]))
  refine own_via (fun _ k => XS.iload X26.here hx rfl (hb hby d10_141) rfl k) ?_
  show own_Go p e below s _ _ _ (T26.setTop (mkF m 143 #[lR a, lI n_, lD dy_, lS, lJ (own_rk u_ n_), lS, lI 1, lI 0] [(.int (0 : Int32)), (.ref br_), (.int (1 : Int32)), (.ref br_)]))
  have F28 := (F17.other W23 (Ne.symm ne_bf__br_))
  obtain ⟨cl27, Ar27, q27, S27, M27, H27, G27⟩ := (id F28)
  have hin27 : ¬ ((0 : Int32) < 0 ∨ cl27.slots.size ≤ ((0 : Int32)).toNatClampNeg) := inb_of S27 ⟨by decide, by decide⟩
  have hat27 : cl27.slots[((0 : Int32)).toNatClampNeg]? = some (.long r0_) := Has.at H27 hin27 rfl
  refine own_via (fun _ k => X26.laload hx (j := (0 : Int32)) (v := (.long r0_)) (by rw [e26]; exact Ar27.1) (State.isArrayOf_alike hZ.alike Ar27.2.1) Ar27.2.2 hin27 hat27 (g := (mkF m 143 #[lR a, lI n_, lD dy_, lS, lJ (own_rk u_ n_), lS, lI 1, lI 0] [(.int (0 : Int32)), (.ref br_), (.int (1 : Int32)), (.ref br_)])) rfl rfl (hb hby d10_143) _ k) ?_
  show own_Go p e below s _ _ _ (T26.setTop (mkF m 144 #[lR a, lI n_, lD dy_, lS, lJ (own_rk u_ n_), lS, lI 1, lI 0] [(.long r0_), (.int (1 : Int32)), (.ref br_)]))
  obtain ⟨cl29, Ar29, q29, S29, M29, H29, G29⟩ := (id F28)
  have hin29 : ¬ ((1 : Int32) < 0 ∨ cl29.slots.size ≤ ((1 : Int32)).toNatClampNeg) := inb_of S29 ⟨by decide, by decide⟩
  obtain ⟨T29, h29, X29, e29, W29, st29⟩ := stJ X26 hx hZ e26 Ar29 (j := (1 : Int32)) hin29 (g := (mkF m 144 #[lR a, lI n_, lD dy_, lS, lJ (own_rk u_ n_), lS, lI 1, lI 0] [(.long r0_), (.int (1 : Int32)), (.ref br_)])) rfl rfl (hb hby d10_144)
  have V29 : Arv Z h29 br_ kr_ .long (64 : Int32) [(.long r0_), (.long r0_), (.long (0 : Int64)), (.long (0 : Int64))] (.long (0 : Int64)) := Arv.set Ar29 q29 S29 M29 H29 G29 rfl W29 1 rfl (Nat.le_of_ble_eq_true rfl)
  have N29 := Fr.snoc X29 N23 g_br_
  have Z29 : n0 ≤ h29.size := Nat.le_trans Z23 (Keep.of_wr W29).1
  have K29 : Keep h0 h29 [a, bf_, br_] := K23.wr W29 (Or.inl (List.mem_of_getElem? (i := 2) rfl))
  refine own_via st29 ?_
  show own_Go p e below s _ _ _ (T29.setTop (mkF m 145 #[lR a, lI n_, lD dy_, lS, lJ (own_rk u_ n_), lS, lI 1, lI 0] []))
  refine own_via (fun _ k => XS.iload X29.here hx rfl (hb hby d10_145) rfl k) ?_
  show own_Go p e below s _ _ _ (T29.setTop (mkF m 147 #[lR a, lI n_, lD dy_, lS, lJ (own_rk u_ n_), lS, lI 1, lI 0] [(.int (0 : Int32))]))
  refine own_via (fun _ k => XS.istore X29.here hx rfl (hb hby d10_147) rfl (l' := #[lR a, lI n_, lD dy_, lS, lJ (own_rk u_ n_), lS, lI 0, lI 0]) rfl k) ?_
  show own_Go p e below s _ _ _ (T29.setTop (mkF m 149 #[lR a, lI n_, lD dy_, lS, lJ (own_rk u_ n_), lS, lI 0, lI 0] []))
  refine own_via (fun _ k => XS.iload X29.here hx rfl (hb hby d10_149) rfl k) ?_
  show own_Go p e below s _ _ _ (T29.setTop (mkF m 151 #[lR a, lI n_, lD dy_, lS, lJ (own_rk u_ n_), lS, lI 0, lI 0] [(.int (0 : Int32))]))
  refine own_via (fun _ k => XS.iconst X29.here hx rfl (hb hby d10_151) k) ?_
  show own_Go p e below s _ _ _ (T29.setTop (mkF m 152 #[lR a, lI n_, lD dy_, lS, lJ (own_rk u_ n_), lS, lI 0, lI 0] [(.int (1 : Int32)), (.int (0 : Int32))]))
  refine own_via (fun _ k => XS.isub X29.here hx rfl (hb hby d10_152) rfl k) ?_
  show own_Go p e below s _ _ _ (T29.setTop (mkF m 153 #[lR a, lI n_, lD dy_, lS, lJ (own_rk u_ n_), lS, lI 0, lI 0] [(.int (-1 : Int32))]))
  refine own_via (fun _ k => XS.iconst X29.here hx rfl (hb hby d10_153) k) ?_
  show own_Go p e below s _ _ _ (T29.setTop (mkF m 154 #[lR a, lI n_, lD dy_, lS, lJ (own_rk u_ n_), lS, lI 0, lI 0] [(.int (2 : Int32)), (.int (-1 : Int32))]))
  refine own_via (fun _ k => XS.idiv X29.here hx rfl (hb hby d10_154) rfl (by decide) k) ?_
  show own_Go p e below s _ _ _ (T29.setTop (mkF m 155 #[lR a, lI n_, lD dy_, lS, lJ (own_rk u_ n_), lS, lI 0, lI 0] [(.int ((-1 : Int32) / (2 : Int32)))]))
  rw [show ((-1 : Int32) / (2 : Int32)) = (0 : Int32) from (by decide)]
  show own_Go p e below s _ _ _ (T29.setTop (mkF m 155 #[lR a, lI n_, lD dy_, lS, lJ (own_rk u_ n_), lS, lI 0, lI 0] [(.int (0 : Int32))]))
  refine own_via (fun _ k => XS.istore X29.here hx rfl (hb hby d10_155) rfl (l' := #[lR a, lI n_, lD dy_, lS, lJ (own_rk u_ n_), lS, lI 0, lI 0]) rfl k) ?_
  show own_Go p e below s _ _ _ (T29.setTop (mkF m 157 #[lR a, lI n_, lD dy_, lS, lJ (own_rk u_ n_), lS, lI 0, lI 0] []))
  refine own_via (fun _ k => XS.goto X29.here hx rfl (pc0 := 157) (pc' := 89) rfl (hb hby d10_157) (by decide) (by decide) k) ?_
  show own_Go p e below s _ _ _ (T29.setTop (mkF m 89 #[lR a, lI n_, lD dy_, lS, lJ (own_rk u_ n_), lS, lI 0, lI 0] []))
  refine own_via (fun _ k => XS.iload X29.here hx rfl (hb hby d10_89) rfl k) ?_
  show own_Go p e below s _ _ _ (T29.setTop (mkF m 91 #[lR a, lI n_, lD dy_, lS, lJ (own_rk u_ n_), lS, lI 0, lI 0] [(.int (0 : Int32))]))
  refine own_via (fun _ k => XS.ifYes X29.here hx rfl (pc0 := 91) (pc' := 160) rfl (hb hby d10_91) rfl (Jvm.Free.XT.i0_le_t (by decide)) (by decide) (by decide) k) ?_
  show own_Go p e below s _ _ _ (T29.setTop (mkF m 160 #[lR a, lI n_, lD dy_, lS, lJ (own_rk u_ n_), lS, lI 0, lI 0] []))
  refine own_via (fun _ k => XS.aloadN X29.here hx rfl (hb hby d10_160) rfl rfl k) ?_
  show own_Go p e below s _ _ _ (T29.setTop (mkF m 161 #[lR a, lI n_, lD dy_, lS, lJ (own_rk u_ n_), lS, lI 0, lI 0] [(.ref a)]))
  have F30 := ((F10.other W23 (Or.inl ne_a_bf_)).other W29 (Or.inl ne_a_br_))
  obtain ⟨T31, X31, e31, st31⟩ := getF X29 hx hZ hown (host := "") (Or.inl (hwi hw 61 rfl)) Via.refl e29 F30 (g := (mkF m 161 #[lR a, lI n_, lD dy_, lS, lJ (own_rk u_ n_), lS, lI 0, lI 0] [(.ref a)])) rfl rfl (hb hby d10_161)
  refine own_via st31 ?_
  show own_Go p e below s _ _ _ (T31.setTop (mkF m 164 #[lR a, lI n_, lD dy_, lS, lJ (own_rk u_ n_), lS, lI 0, lI 0] [(.ref bf_)]))
  refine own_via (fun _ k => XS.iload X31.here hx rfl (hb hby d10_164) rfl k) ?_
  show own_Go p e below s _ _ _ (T31.setTop (mkF m 166 #[lR a, lI n_, lD dy_, lS, lJ (own_rk u_ n_), lS, lI 0, lI 0] [(.int (0 : Int32)), (.ref bf_)]))
  refine own_via (fun _ k => XS.dloadN X31.here hx rfl (hb hby d10_166) rfl k) ?_
  show own_Go p e below s _ _ _ (T31.setTop (mkF m 167 #[lR a, lI n_, lD dy_, lS, lJ (own_rk u_ n_), lS, lI 0, lI 0] [(.double dy_), (.int (0 : Int32)), (.ref bf_)]))
  have F33 := (V23.other W29 ne_bf__br_)
  obtain ⟨cl32, Ar32, q32, S32, M32, H32, G32⟩ := (id F33)
  have hin32 : ¬ ((0 : Int32) < 0 ∨ cl32.slots.size ≤ ((0 : Int32)).toNatClampNeg) := inb_of S32 ⟨by decide, by decide⟩
  obtain ⟨T32, h32, X32, e32, W32, st32⟩ := stD X31 hx hZ e31 Ar32 (j := (0 : Int32)) hin32 (g := (mkF m 167 #[lR a, lI n_, lD dy_, lS, lJ (own_rk u_ n_), lS, lI 0, lI 0] [(.double dy_), (.int (0 : Int32)), (.ref bf_)])) rfl rfl (hb hby d10_167)
  have V32 : Arv Z h32 bf_ kf_ .double (64 : Int32) [(.double dy_), (.double dx_), (.double (0 : UInt64)), (.double (0 : UInt64))] (.double (0 : UInt64)) := Arv.set Ar32 q32 S32 M32 H32 G32 rfl W32 0 rfl (Nat.le_of_ble_eq_true rfl)
  have N32 := Fr.snoc X32 N29 g_bf_
  have Z32 : n0 ≤ h32.size := Nat.le_trans Z29 (Keep.of_wr W32).1
  have K32 : Keep h0 h32 [a, bf_, br_] := K29.wr W32 (Or.inl (List.mem_of_getElem? (i := 1) rfl))
  refine own_via st32 ?_
  show own_Go p e below s _ _ _ (T32.setTop (mkF m 168 #[lR a, lI n_, lD dy_, lS, lJ (own_rk u_ n_), lS, lI 0, lI 0] []))
  refine own_via (fun _ k => XS.aloadN X32.here hx rfl (hb hby d10_168) rfl rfl k) ?_
  show own_Go p e below s _ _ _ (T32.setTop (mkF m 169 #[lR a, lI n_, lD dy_, lS, lJ (own_rk u_ n_), lS, lI 0, lI 0] [(.ref a)]))
  have F34 := ((F24.other W29 (Or.inl ne_a_br_)).other W32 (Or.inl ne_a_bf_))
  obtain ⟨T35, X35, e35, st35⟩ := getF X32 hx hZ hown (host := "") (Or.inl (hwi hw 63 rfl)) Via.refl e32 F34 (g := (mkF m 169 #[lR a, lI n_, lD dy_, lS, lJ (own_rk u_ n_), lS, lI 0, lI 0] [(.ref a)])) rfl rfl (hb hby d10_169)
  refine own_via st35 ?_
  show own_Go p e below s _ _ _ (T35.setTop (mkF m 172 #[lR a, lI n_, lD dy_, lS, lJ (own_rk u_ n_), lS, lI 0, lI 0] [(.ref br_)]))
  refine own_via (fun _ k => XS.iload X35.here hx rfl (hb hby d10_172) rfl k) ?_
  show own_Go p e below s _ _ _ (T35.setTop (mkF m 174 #[lR a, lI n_, lD dy_, lS, lJ (own_rk u_ n_), lS, lI 0, lI 0] [(.int (0 : Int32)), (.ref br_)]))
  refine own_via (fun _ k => XS.lload X35.here hx rfl (hb hby d10_174) rfl k) ?_
  show own_Go p e below s _ _ _ (T35.setTop (mkF m 176 #[lR a, lI n_, lD dy_, lS, lJ (own_rk u_ n_), lS, lI 0, lI 0] [(.long (own_rk u_ n_)), (.int (0 : Int32)), (.ref br_)]))
  have F37 := (V29.other W32 (Ne.symm ne_bf__br_))
  obtain ⟨cl36, Ar36, q36, S36, M36, H36, G36⟩ := (id F37)
  have hin36 : ¬ ((0 : Int32) < 0 ∨ cl36.slots.size ≤ ((0 : Int32)).toNatClampNeg) := inb_of S36 ⟨by decide, by decide⟩
  obtain ⟨T36, h36, X36, e36, W36, st36⟩ := stJ X35 hx hZ e35 Ar36 (j := (0 : Int32)) hin36 (g := (mkF m 176 #[lR a, lI n_, lD dy_, lS, lJ (own_rk u_ n_), lS, lI 0, lI 0] [(.long (own_rk u_ n_)), (.int (0 : Int32)), (.ref br_)])) rfl rfl (hb hby d10_176)
  have V36 : Arv Z h36 br_ kr_ .long (64 : Int32) [(.long (own_rk u_ n_)), (.long r0_), (.long (0 : Int64)), (.long (0 : Int64))] (.long (0 : Int64)) := Arv.set Ar36 q36 S36 M36 H36 G36 rfl W36 0 rfl (Nat.le_of_ble_eq_true rfl)
  have N36 := Fr.snoc X36 N32 g_br_
  have Z36 : n0 ≤ h36.size := Nat.le_trans Z32 (Keep.of_wr W36).1
  have K36 : Keep h0 h36 [a, bf_, br_] := K32.wr W36 (Or.inl (List.mem_of_getElem? (i := 2) rfl))
  refine own_via st36 ?_
  show own_Go p e below s _ _ _ (T36.setTop (mkF m 177 #[lR a, lI n_, lD dy_, lS, lJ (own_rk u_ n_), lS, lI 0, lI 0] []))
  refine own_via (fun _ k => XS.aloadN X36.here hx rfl (hb hby d10_177) rfl rfl k) ?_
  show own_Go p e below s _ _ _ (T36.setTop (mkF m 178 #[lR a, lI n_, lD dy_, lS, lJ (own_rk u_ n_), lS, lI 0, lI 0] [(.ref a)]))
  refine own_via (fun _ k => XS.iloadN X36.here hx rfl (hb hby d10_178) rfl k) ?_
  show own_Go p e below s _ _ _ (T36.setTop (mkF m 179 #[lR a, lI n_, lD dy_, lS, lJ (own_rk u_ n_), lS, lI 0, lI 0] [(.int n_), (.ref a)]))
  have F39 := (((((F_lengths_a.other W9 (Or.inr (sn18 hw))).other W23 (Or.inl ne_a_bf_)).other W29 (Or.inl ne_a_br_)).other W32 (Or.inl ne_a_bf_)).other W36 (Or.inl ne_a_br_))
  have F40 := (((((F_lengthLimit_a.other W9 (Or.inr (sn19 hw))).other W23 (Or.inl ne_a_bf_)).other W29 (Or.inl ne_a_br_)).other W32 (Or.inl ne_a_bf_)).other W36 (Or.inl ne_a_br_))
  have F41 := (((((V_bl_.other W9 (Ne.symm ne_a_bl_)).other W23 ne_bl__bf_).other W29 ne_bl__br_).other W32 ne_bl__bf_).other W36 ne_bl__br_)
  have F42 := (((((E_a.wr W9).wr W23).wr W29).wr W32).wr W36)
  obtain ⟨cq38, kq38, qa38, qb38, qc38⟩ := isOf hZ e36 F42
  obtain ⟨_, _, ⟨T38, L38, k38, n38⟩, -, X38, ⟨Lc38, hQ38, l38, y38, z38⟩, st38⟩ := X36.virtualBack hx (y := (⟨"com/example/trajectory/trajectory/search/Nodes", "isWithinLimit", "(I)Z"⟩ : MethodName)) (z := (⟨"com/example/trajectory/trajectory/search/Nodes", "isWithinLimit", "(I)Z"⟩ : MethodName)) hown (mvT hZ (hwi hw 90 rfl)) (mvT hZ (hwi hw 91 rfl)) (notFace_of_selects (args := #[]) (mvT hZ (hwi hw 93 rfl))) (mvT hZ (hwi hw 93 rfl)) (mvT hZ (hwi hw 92 rfl)) (by decide) (backOf (W := 0) (rm11 l Z a0 hw [] a n_ bl_ ll_ kl_ vbl_ u_ h36 n0 Z36 F39 F40 F41 hp26 hp28) hZ (hwi hw 94 rfl) (hwi hw 4 rfl) (by decide) (by decide)) qa38 qc38 (g := (mkF m 179 #[lR a, lI n_, lD dy_, lS, lJ (own_rk u_ n_), lS, lI 0, lI 0] [(.int n_), (.ref a)])) rfl (by rw [hml]; rfl) (Steps.refl _) (argsL := [(.int n_)]) (rest := []) (lenOf pd_3 rfl) rfl (by show 2 * 0 + _ ≤ _; exact Nat.le_of_eq rfl) (hb hby d10_179) (fun _ _ => ⟨rfl, e36, (by decide : 0 + 0 ≤ _), (by decide : 0 + 0 ≤ _)⟩)
  dsimp only [Pt.U, Pt.locs, Pt.cells, Pt.slots] at X38 l38 y38 z38 st38 hQ38
  subst l38 y38 z38
  obtain ⟨rfl, N38q, e38⟩ := hQ38
  have N38 := Fr.app N36 N38q
  refine own_viaT st38 ?_
  show own_Go p e below s _ _ _ (T38.setTop (mkF m 182 #[lR a, lI n_, lD dy_, lS, lJ (own_rk u_ n_), lS, lI 0, lI 0] [(.int (own_w u_ ll_))]))
  by_cases hc43 : (own_w u_ ll_) = (0 : Int32)
  · refine own_via (fun _ k => XS.ifYes X38.here hx rfl (pc0 := 182) (pc' := 195) rfl (hb hby d10_182) rfl (Jvm.Free.XT.i0_eq_t hc43) (by decide) (by decide) k) ?_
    show own_Go p e below s _ _ _ (T38.setTop (mkF m 195 #[lR a, lI n_, lD dy_, lS, lJ (own_rk u_ n_), lS, lI 0, lI 0] []))
    have F44 := (((((F_width_a.other W9 (Or.inr (sn20 hw))).other W23 (Or.inl ne_a_bf_)).other W29 (Or.inl ne_a_br_)).other W32 (Or.inl ne_a_bf_)).other W36 (Or.inl ne_a_br_))
    have F45 := (((((F_costs_a.other W9 (Or.inr (sn21 hw))).other W23 (Or.inl ne_a_bf_)).other W29 (Or.inl ne_a_br_)).other W32 (Or.inl ne_a_bf_)).other W36 (Or.inl ne_a_br_))
    have F46 := (((((F_superseded_a.other W9 (Or.inr (sn22 hw))).other W23 (Or.inl ne_a_bf_)).other W29 (Or.inl ne_a_br_)).other W32 (Or.inl ne_a_bf_)).other W36 (Or.inl ne_a_br_))
    have F47 := (((((F_nextKept_a.other W9 (Or.inr (sn23 hw))).other W23 (Or.inl ne_a_bf_)).other W29 (Or.inl ne_a_br_)).other W32 (Or.inl ne_a_bf_)).other W36 (Or.inl ne_a_br_))
    have F48 := (((((F_table_a.other W9 (Or.inr (sn24 hw))).other W23 (Or.inl ne_a_bf_)).other W29 (Or.inl ne_a_br_)).other W32 (Or.inl ne_a_bf_)).other W36 (Or.inl ne_a_br_))
    have F49 := ((F30.other W32 (Or.inl ne_a_bf_)).other W36 (Or.inl ne_a_br_))
    have F50 := (F34.other W36 (Or.inl ne_a_br_))
    have F51 := ((((Fw9.other W23 (Or.inl ne_a_bf_)).other W29 (Or.inl ne_a_br_)).other W32 (Or.inl ne_a_bf_)).other W36 (Or.inl ne_a_br_))
    have F52 := (((((F_waitingWithin_a.other W9 (Or.inr (sn25 hw))).other W23 (Or.inl ne_a_bf_)).other W29 (Or.inl ne_a_br_)).other W32 (Or.inl ne_a_bf_)).other W36 (Or.inl ne_a_br_))
    have F53 := (((((F_held_a.other W9 (Or.inr (sn26 hw))).other W23 (Or.inl ne_a_bf_)).other W29 (Or.inl ne_a_br_)).other W32 (Or.inl ne_a_bf_)).other W36 (Or.inl ne_a_br_))
    have F54 := (V32.other W36 ne_bf__br_)
    exact own_goV X38 hx Bd.returns (hb hby d10_195) Bd.notSynchronized (by decide) (by decide) (by rw [e38]; exact ⟨rfl, N38, K36, F42, F44, F40, F45, F39, F46, F47, F48, F49, F50, F51, (by rw [own_inc, if_pos hc43]; exact F52), F53, F54, V36⟩)
  · refine own_via (fun _ k => XS.ifNo X38.here hx rfl (hb hby d10_182) rfl (Jvm.Free.XT.i0_eq_f hc43) k) ?_
    show own_Go p e below s _ _ _ (T38.setTop (mkF m 185 #[lR a, lI n_, lD dy_, lS, lJ (own_rk u_ n_), lS, lI 0, lI 0] []))
    refine own_via (fun _ k => XS.aloadN X38.here hx rfl (hb hby d10_185) rfl rfl k) ?_
    show own_Go p e below s _ _ _ (T38.setTop (mkF m 186 #[lR a, lI n_, lD dy_, lS, lJ (own_rk u_ n_), lS, lI 0, lI 0] [(.ref a)]))
    refine own_via (fun _ k => XS.dup X38.here hx rfl (hb hby d10_186) rfl rfl k) ?_
    show own_Go p e below s _ _ _ (T38.setTop (mkF m 187 #[lR a, lI n_, lD dy_, lS, lJ (own_rk u_ n_), lS, lI 0, lI 0] [(.ref a), (.ref a)]))
    have F55 := (((((F_waitingWithin_a.other W9 (Or.inr (sn25 hw))).other W23 (Or.inl ne_a_bf_)).other W29 (Or.inl ne_a_br_)).other W32 (Or.inl ne_a_bf_)).other W36 (Or.inl ne_a_br_))
    obtain ⟨T56, X56, e56, st56⟩ := getF X38 hx hZ hown (host := "") (Or.inl (hwi hw 81 rfl)) Via.refl e38 F55 (g := (mkF m 187 #[lR a, lI n_, lD dy_, lS, lJ (own_rk u_ n_), lS, lI 0, lI 0] [(.ref a), (.ref a)])) rfl rfl (hb hby d10_187)
    refine own_via st56 ?_
    show own_Go p e below s _ _ _ (T56.setTop (mkF m 190 #[lR a, lI n_, lD dy_, lS, lJ (own_rk u_ n_), lS, lI 0, lI 0] [(.long ww_), (.ref a)]))
    refine own_via (fun _ k => XS.lconst X56.here hx rfl (hb hby d10_190) k) ?_
    show own_Go p e below s _ _ _ (T56.setTop (mkF m 191 #[lR a, lI n_, lD dy_, lS, lJ (own_rk u_ n_), lS, lI 0, lI 0] [(.long (1 : Int64)), (.long ww_), (.ref a)]))
    refine own_via (fun _ k => XS.ladd X56.here hx rfl (hb hby d10_191) rfl k) ?_
    show own_Go p e below s _ _ _ (T56.setTop (mkF m 192 #[lR a, lI n_, lD dy_, lS, lJ (own_rk u_ n_), lS, lI 0, lI 0] [(.long (ww_ + (1 : Int64))), (.ref a)]))
    obtain ⟨T57, h57, X57, e57, W57, st57⟩ := putF X56 hx hZ hown (host := "") (Or.inl (hwi hw 81 rfl)) Via.refl e56 F55 F42 (Or.inl (hwi hw 82 rfl)) (hwi hw 3 rfl) (ty := .long) (by decide) rfl rfl (g := (mkF m 192 #[lR a, lI n_, lD dy_, lS, lJ (own_rk u_ n_), lS, lI 0, lI 0] [(.long (ww_ + (1 : Int64))), (.ref a)])) rfl rfl (hb hby d10_192)
    have N57 := Fr.snoc X57 N38 g_a
    have Fw57 := F55.same W57
    have Z57 : n0 ≤ h57.size := Nat.le_trans Z36 (Keep.of_wr W57).1
    have K57 : Keep h0 h57 [a, bf_, br_] := K36.wr W57 (Or.inl (List.mem_of_getElem? (i := 0) rfl))
    refine own_via st57 ?_
    show own_Go p e below s _ _ _ (T57.setTop (mkF m 195 #[lR a, lI n_, lD dy_, lS, lJ (own_rk u_ n_), lS, lI 0, lI 0] []))
    have F58 := (F42.wr W57)
    have F59 := ((((((F_width_a.other W9 (Or.inr (sn20 hw))).other W23 (Or.inl ne_a_bf_)).other W29 (Or.inl ne_a_br_)).other W32 (Or.inl ne_a_bf_)).other W36 (Or.inl ne_a_br_)).other W57 (Or.inr (sn27 hw)))
    have F60 := (F40.other W57 (Or.inr (sn28 hw)))
    have F61 := ((((((F_costs_a.other W9 (Or.inr (sn21 hw))).other W23 (Or.inl ne_a_bf_)).other W29 (Or.inl ne_a_br_)).other W32 (Or.inl ne_a_bf_)).other W36 (Or.inl ne_a_br_)).other W57 (Or.inr (sn29 hw)))
    have F62 := (F39.other W57 (Or.inr (sn30 hw)))
    have F63 := ((((((F_superseded_a.other W9 (Or.inr (sn22 hw))).other W23 (Or.inl ne_a_bf_)).other W29 (Or.inl ne_a_br_)).other W32 (Or.inl ne_a_bf_)).other W36 (Or.inl ne_a_br_)).other W57 (Or.inr (sn31 hw)))
    have F64 := ((((((F_nextKept_a.other W9 (Or.inr (sn23 hw))).other W23 (Or.inl ne_a_bf_)).other W29 (Or.inl ne_a_br_)).other W32 (Or.inl ne_a_bf_)).other W36 (Or.inl ne_a_br_)).other W57 (Or.inr (sn32 hw)))
    have F65 := ((((((F_table_a.other W9 (Or.inr (sn24 hw))).other W23 (Or.inl ne_a_bf_)).other W29 (Or.inl ne_a_br_)).other W32 (Or.inl ne_a_bf_)).other W36 (Or.inl ne_a_br_)).other W57 (Or.inr (sn33 hw)))
    have F66 := (((F30.other W32 (Or.inl ne_a_bf_)).other W36 (Or.inl ne_a_br_)).other W57 (Or.inr (sn34 hw)))
    have F67 := ((F34.other W36 (Or.inl ne_a_br_)).other W57 (Or.inr (sn35 hw)))
    have F68 := (((((Fw9.other W23 (Or.inl ne_a_bf_)).other W29 (Or.inl ne_a_br_)).other W32 (Or.inl ne_a_bf_)).other W36 (Or.inl ne_a_br_)).other W57 (Or.inr (sn36 hw)))
    have F69 := ((((((F_held_a.other W9 (Or.inr (sn26 hw))).other W23 (Or.inl ne_a_bf_)).other W29 (Or.inl ne_a_br_)).other W32 (Or.inl ne_a_bf_)).other W36 (Or.inl ne_a_br_)).other W57 (Or.inr (sn37 hw)))
    have F70 := ((V32.other W36 ne_bf__br_).other W57 (Ne.symm ne_a_bf_))
    have F71 := (V36.other W57 (Ne.symm ne_a_br_))
    exact own_goV X57 hx Bd.returns (hb hby d10_195) Bd.notSynchronized (by decide) (by decide) (by rw [e57]; exact ⟨rfl, N57, K57, F58, F59, F60, F61, F62, F63, F64, F65, F66, F67, F68, (by rw [own_inc, if_neg hc43]; exact Fw57), F69, F70, F71⟩)
theorem d15_0 : decode prog_59_method_18_code 0 = .ok (.lconst 0, 1) := by decide +kernel
theorem d15_1 : decode prog_59_method_18_code 1 = .ok (.lstore_n 3, 1) := by decide +kernel
theorem d15_2 : decode prog_59_method_18_code 2 = .ok (.iconst 0, 1) := by decide +kernel
theorem d15_3 : decode prog_59_method_18_code 3 = .ok (.istore 5, 2) := by decide +kernel
theorem d15_5 : decode prog_59_method_18_code 5 = .ok (.iload 5, 2) := by decide +kernel
theorem d15_7 : decode prog_59_method_18_code 7 = .ok (.aload_n 0, 1) := by decide +kernel
theorem d15_8 : decode prog_59_method_18_code 8 = .ok (.getfield 7, 3) := by decide +kernel
theorem d15_11 : decode prog_59_method_18_code 11 = .ok (.if_icmp .ge 22, 3) := by decide +kernel
theorem d15_14 : decode prog_59_method_18_code 14 = .ok (.lload_n 3, 1) := by decide +kernel
theorem d15_15 : decode prog_59_method_18_code 15 = .ok (.aload_n 1, 1) := by decide +kernel
theorem d15_16 : decode prog_59_method_18_code 16 = .ok (.iload_n 2, 1) := by decide +kernel
theorem d15_17 : decode prog_59_method_18_code 17 = .ok (.iload 5, 2) := by decide +kernel
theorem d15_19 : decode prog_59_method_18_code 19 = .ok (.iadd, 1) := by decide +kernel
theorem d15_20 : decode prog_59_method_18_code 20 = .ok (.laload, 1) := by decide +kernel
theorem d15_21 : decode prog_59_method_18_code 21 = .ok (.lxor, 1) := by decide +kernel
theorem d15_22 : decode prog_59_method_18_code 22 = .ok (.ldc2_w 137, 3) := by decide +kernel
theorem d15_25 : decode prog_59_method_18_code 25 = .ok (.lmul, 1) := by decide +kernel
theorem d15_26 : decode prog_59_method_18_code 26 = .ok (.lstore_n 3, 1) := by decide +kernel
theorem d15_27 : decode prog_59_method_18_code 27 = .ok (.iinc 5 1, 3) := by decide +kernel
theorem d15_30 : decode prog_59_method_18_code 30 = .ok (.goto (-25), 3) := by decide +kernel
theorem d15_33 : decode prog_59_method_18_code 33 = .ok (.aload_n 0, 1) := by decide +kernel
theorem d15_34 : decode prog_59_method_18_code 34 = .ok (.getfield 73, 3) := by decide +kernel
theorem d15_37 : decode prog_59_method_18_code 37 = .ok (.arraylength, 1) := by decide +kernel
theorem d15_38 : decode prog_59_method_18_code 38 = .ok (.iconst 1, 1) := by decide +kernel
theorem d15_39 : decode prog_59_method_18_code 39 = .ok (.isub, 1) := by decide +kernel
theorem d15_40 : decode prog_59_method_18_code 40 = .ok (.istore 5, 2) := by decide +kernel
theorem d15_42 : decode prog_59_method_18_code 42 = .ok (.lload_n 3, 1) := by decide +kernel
theorem d15_43 : decode prog_59_method_18_code 43 = .ok (.lload_n 3, 1) := by decide +kernel
theorem d15_44 : decode prog_59_method_18_code 44 = .ok (.bipush 32, 2) := by decide +kernel
theorem d15_46 : decode prog_59_method_18_code 46 = .ok (.lushr, 1) := by decide +kernel
theorem d15_47 : decode prog_59_method_18_code 47 = .ok (.lxor, 1) := by decide +kernel
theorem d15_48 : decode prog_59_method_18_code 48 = .ok (.l2i, 1) := by decide +kernel
theorem d15_49 : decode prog_59_method_18_code 49 = .ok (.iload 5, 2) := by decide +kernel
theorem d15_51 : decode prog_59_method_18_code 51 = .ok (.iand, 1) := by decide +kernel
theorem d15_52 : decode prog_59_method_18_code 52 = .ok (.istore 6, 2) := by decide +kernel
theorem d15_54 : decode prog_59_method_18_code 54 = .ok (.aload_n 0, 1) := by decide +kernel
theorem d15_55 : decode prog_59_method_18_code 55 = .ok (.getfield 73, 3) := by decide +kernel
theorem d15_58 : decode prog_59_method_18_code 58 = .ok (.iload 6, 2) := by decide +kernel
theorem d15_60 : decode prog_59_method_18_code 60 = .ok (.iaload, 1) := by decide +kernel
theorem d15_61 : decode prog_59_method_18_code 61 = .ok (.ifCond .eq 21, 3) := by decide +kernel
theorem d15_82 : decode prog_59_method_18_code 82 = .ok (.iload 6, 2) := by decide +kernel
theorem d15_84 : decode prog_59_method_18_code 84 = .ok (.ireturn, 1) := by decide +kernel
theorem ef_15 (m : MethodId) (x0 : Addr) (x1 : Addr) (x2 : Int32) : entryFrame m #[(.ref x0), (.ref x1), (.int x2)] 7 = mkF m 0 #[.val (.ref x0), .val (.ref x1), .val (.int x2), .unset, .unset, .unset, .unset] [] := by first | (simp [entryFrame, mkF, argsToLocals, Value.category]; done) | rfl
def Q15 (Z : State) (a : Addr) (st_ : Addr) (po_ : Int32) (bT_ : Addr) (kT_ : ClassId) (vT_ : List Value) (q_ : ClassId) (h0 : Heap) (n0 : Nat) (v : Option Value) (h : Heap) (L : List Loc) : Prop := v = some (.int (44 : Int32)) ∧ Fr n0 L ∧ h = h0
set_option maxRecDepth 65536 in
set_option maxHeartbeats 40000000 in
theorem rm15 (l : Launch) (Z : State) (a0 : Array Value) (hw : ∀ d ∈ tables_1, d.before a0 Z = true) (ws : List Jvm.Cond) (a : Addr) (st_ : Addr) (po_ : Int32) (bT_ : Addr) (kT_ : ClassId) (vT_ : List Value) (q_ : ClassId) (h0 : Heap) (n0 : Nat) (Z0 : n0 ≤ h0.size) (E_a : Exa Z h0 a "com/example/trajectory/trajectory/search/Nodes") (F_width_a : Fld Z h0 a "com/example/trajectory/trajectory/search/Nodes" "width" "I" (.int (1 : Int32))) (F_table_a : Fld Z h0 a "com/example/trajectory/trajectory/search/Nodes" "table" "[I" (.ref bT_)) (V_bT_ : Arv Z h0 bT_ kT_ .int (128 : Int32) vT_ (.int (0 : Int32))) (V_st_ : Arv Z h0 st_ q_ .long (1 : Int32) [(.long (1 : Int64))] (.long (0 : Int64))) (hp5 : po_ = (0 : Int32)) (hp6 : vT_.getD ((44 : Int32)).toNatClampNeg (.int (0 : Int32)) = (.int (0 : Int32))) :
    MetFree l (⟨"com/example/trajectory/trajectory/search/Nodes", "probe", "([JI)I"⟩ : MethodName) (head1 (Jvm.Cond.code (⟨"com/example/trajectory/trajectory/search/Nodes", "probe", "([JI)I"⟩ : MethodName) prog_59_method_18_code 7 (some .int) :: ws) ({ frames := 0, cells := 0, slots := 0, locals := 0 } : Room)) (fun q_ U => q_ = #[(.ref a), (.ref st_), (.int po_)] ∧ Z.Warmed39 U.vm ∧ U.heap = h0) (fun _ _ _ _ _ => True) (fun _ U o U' => ∃ v L, o = .returned v ∧ Q15 Z a st_ po_ bT_ kT_ vT_ q_ h0 n0 v U'.heap L ∧ FrameEnd U o U' L ({ frames := 0, cells := 0, slots := 0, locals := 0 } : Room).cells ({ frames := 0, cells := 0, slots := 0, locals := 0 } : Room).slots) := by
  refine MetFree.of_bodySF (plainFor_of_name pn_1) hisR ?_
  intro p e s m args below meth c s₁ Bd hml0 hP hK
  obtain ⟨rfl, hZ, hh⟩ := hP
  have hx := Bd.exec
  have hby := Bd.bytes
  have hml : c.maxLocals = 7 := hml0
  have hown : s.vm.findClass "com/example/trajectory/trajectory/search/Nodes" = some m.cls := findClass_of_methodNamed Bd.named
  have hnm := (name_of_methodNamed Bd.named Bd.method).1
  have X0 : Stand p l e ({ frames := 0, cells := 0, slots := 0, locals := 0 } : Room) s m #[(.ref a), (.ref st_), (.int po_)] below meth c s₁ [] 0 0 := Stand.of_body Bd
  have e0 : s₁.heap = h0 := by rw [← hh, Bd.state]; rfl
  have N0 := Fr.nil n0
  show own_Go p e below s (Q15 Z a st_ po_ bT_ kT_ vT_ q_ h0 n0) ({ frames := 0, cells := 0, slots := 0, locals := 0 } : Room).cells ({ frames := 0, cells := 0, slots := 0, locals := 0 } : Room).slots (s₁.setTop (entryFrame m #[(.ref a), (.ref st_), (.int po_)] 7))
  refine own_via (fun t k => castTop (ef_15 m a st_ po_) k) ?_
  show own_Go p e below s _ _ _ (s₁.setTop (mkF m 0 #[lR a, lR st_, lI po_, lU, lU, lU, lU] []))
  subst hp5
  show own_Go p e below s _ _ _ (s₁.setTop (mkF m 0 #[lR a, lR st_, lI 0, lU, lU, lU, lU] []))
  refine own_via (fun _ k => XS.lconst X0.here hx rfl (hb hby d15_0) k) ?_
  show own_Go p e below s _ _ _ (s₁.setTop (mkF m 1 #[lR a, lR st_, lI 0, lU, lU, lU, lU] [(.long (0 : Int64))]))
  refine own_via (fun _ k => XS.lstoreN X0.here hx rfl (hb hby d15_1) rfl (l' := #[lR a, lR st_, lI 0, lJ 0, lS, lU, lU]) rfl k) ?_
  show own_Go p e below s _ _ _ (s₁.setTop (mkF m 2 #[lR a, lR st_, lI 0, lJ 0, lS, lU, lU] []))
  refine own_via (fun _ k => XS.iconst X0.here hx rfl (hb hby d15_2) k) ?_
  show own_Go p e below s _ _ _ (s₁.setTop (mkF m 3 #[lR a, lR st_, lI 0, lJ 0, lS, lU, lU] [(.int (0 : Int32))]))
  refine own_via (fun _ k => XS.istore X0.here hx rfl (hb hby d15_3) rfl (l' := #[lR a, lR st_, lI 0, lJ 0, lS, lI 0, lU]) rfl k) ?_
  show own_Go p e below s _ _ _ (s₁.setTop (mkF m 5 #[lR a, lR st_, lI 0, lJ 0, lS, lI 0, lU] []))
  refine own_via (fun _ k => XS.iload X0.here hx rfl (hb hby d15_5) rfl k) ?_
  show own_Go p e below s _ _ _ (s₁.setTop (mkF m 7 #[lR a, lR st_, lI 0, lJ 0, lS, lI 0, lU] [(.int (0 : Int32))]))
  refine own_via (fun _ k => XS.aloadN X0.here hx rfl (hb hby d15_7) rfl rfl k) ?_
  show own_Go p e below s _ _ _ (s₁.setTop (mkF m 8 #[lR a, lR st_, lI 0, lJ 0, lS, lI 0, lU] [(.ref a), (.int (0 : Int32))]))
  obtain ⟨T1, X1, e1, st1⟩ := getF X0 hx hZ hown (host := "") (Or.inl (hwi hw 11 rfl)) Via.refl e0 F_width_a (g := (mkF m 8 #[lR a, lR st_, lI 0, lJ 0, lS, lI 0, lU] [(.ref a), (.int (0 : Int32))])) rfl rfl (hb hby d15_8)
  refine own_via st1 ?_
  show own_Go p e below s _ _ _ (T1.setTop (mkF m 11 #[lR a, lR st_, lI 0, lJ 0, lS, lI 0, lU] [(.int (1 : Int32)), (.int (0 : Int32))]))
  refine own_via (fun _ k => XS.icmpNo X1.here hx rfl (hb hby d15_11) rfl (Jvm.Free.XT.ii_ge_f (by decide)) k) ?_
  show own_Go p e below s _ _ _ (T1.setTop (mkF m 14 #[lR a, lR st_, lI 0, lJ 0, lS, lI 0, lU] []))
  refine own_via (fun _ k => XS.lloadN X1.here hx rfl (hb hby d15_14) rfl k) ?_
  show own_Go p e below s _ _ _ (T1.setTop (mkF m 15 #[lR a, lR st_, lI 0, lJ 0, lS, lI 0, lU] [(.long (0 : Int64))]))
  refine own_via (fun _ k => XS.aloadN X1.here hx rfl (hb hby d15_15) rfl rfl k) ?_
  show own_Go p e below s _ _ _ (T1.setTop (mkF m 16 #[lR a, lR st_, lI 0, lJ 0, lS, lI 0, lU] [(.ref st_), (.long (0 : Int64))]))
  refine own_via (fun _ k => XS.iloadN X1.here hx rfl (hb hby d15_16) rfl k) ?_
  show own_Go p e below s _ _ _ (T1.setTop (mkF m 17 #[lR a, lR st_, lI 0, lJ 0, lS, lI 0, lU] [(.int (0 : Int32)), (.ref st_), (.long (0 : Int64))]))
  refine own_via (fun _ k => XS.iload X1.here hx rfl (hb hby d15_17) rfl k) ?_
  show own_Go p e below s _ _ _ (T1.setTop (mkF m 19 #[lR a, lR st_, lI 0, lJ 0, lS, lI 0, lU] [(.int (0 : Int32)), (.int (0 : Int32)), (.ref st_), (.long (0 : Int64))]))
  refine own_via (fun _ k => XS.iadd X1.here hx rfl (hb hby d15_19) rfl k) ?_
  show own_Go p e below s _ _ _ (T1.setTop (mkF m 20 #[lR a, lR st_, lI 0, lJ 0, lS, lI 0, lU] [(.int (0 : Int32)), (.ref st_), (.long (0 : Int64))]))
  obtain ⟨cl2, Ar2, q2, S2, M2, H2, G2⟩ := (id V_st_)
  have hin2 : ¬ ((0 : Int32) < 0 ∨ cl2.slots.size ≤ ((0 : Int32)).toNatClampNeg) := inb_of S2 ⟨by decide, by decide⟩
  have hat2 : cl2.slots[((0 : Int32)).toNatClampNeg]? = some (.long (1 : Int64)) := Has.at H2 hin2 rfl
  refine own_via (fun _ k => X1.laload hx (j := (0 : Int32)) (v := (.long (1 : Int64))) (by rw [e1]; exact Ar2.1) (State.isArrayOf_alike hZ.alike Ar2.2.1) Ar2.2.2 hin2 hat2 (g := (mkF m 20 #[lR a, lR st_, lI 0, lJ 0, lS, lI 0, lU] [(.int (0 : Int32)), (.ref st_), (.long (0 : Int64))])) rfl rfl (hb hby d15_20) _ k) ?_
  show own_Go p e below s _ _ _ (T1.setTop (mkF m 21 #[lR a, lR st_, lI 0, lJ 0, lS, lI 0, lU] [(.long (1 : Int64)), (.long (0 : Int64))]))
  refine own_via (fun _ k => XS.lxor X1.here hx rfl (hb hby d15_21) rfl k) ?_
  show own_Go p e below s _ _ _ (T1.setTop (mkF m 22 #[lR a, lR st_, lI 0, lJ 0, lS, lI 0, lU] [(.long (1 : Int64))]))
  refine own_via (fun _ k => X1.ldc2Long hx hown (mvT hZ (hwi hw 112 rfl)) (g := (mkF m 22 #[lR a, lR st_, lI 0, lJ 0, lS, lI 0, lU] [(.long (1 : Int64))])) rfl (hb hby d15_22) _ k) ?_
  show own_Go p e below s _ _ _ (T1.setTop (mkF m 25 #[lR a, lR st_, lI 0, lJ 0, lS, lI 0, lU] [(.long (-7046029254386353131 : Int64)), (.long (1 : Int64))]))
  refine own_via (fun _ k => XS.lmul X1.here hx rfl (hb hby d15_25) rfl k) ?_
  show own_Go p e below s _ _ _ (T1.setTop (mkF m 26 #[lR a, lR st_, lI 0, lJ 0, lS, lI 0, lU] [(.long (-7046029254386353131 : Int64))]))
  refine own_via (fun _ k => XS.lstoreN X1.here hx rfl (hb hby d15_26) rfl (l' := #[lR a, lR st_, lI 0, lJ (-7046029254386353131), lS, lI 0, lU]) rfl k) ?_
  show own_Go p e below s _ _ _ (T1.setTop (mkF m 27 #[lR a, lR st_, lI 0, lJ (-7046029254386353131), lS, lI 0, lU] []))
  refine own_via (fun _ k => XS.iinc X1.here hx rfl (hb hby d15_27) rfl (l' := #[lR a, lR st_, lI 0, lJ (-7046029254386353131), lS, lI 1, lU]) rfl k) ?_
  show own_Go p e below s _ _ _ (T1.setTop (mkF m 30 #[lR a, lR st_, lI 0, lJ (-7046029254386353131), lS, lI 1, lU] []))
  refine own_via (fun _ k => XS.goto X1.here hx rfl (pc0 := 30) (pc' := 5) rfl (hb hby d15_30) (by decide) (by decide) k) ?_
  show own_Go p e below s _ _ _ (T1.setTop (mkF m 5 #[lR a, lR st_, lI 0, lJ (-7046029254386353131), lS, lI 1, lU] []))
  refine own_via (fun _ k => XS.iload X1.here hx rfl (hb hby d15_5) rfl k) ?_
  show own_Go p e below s _ _ _ (T1.setTop (mkF m 7 #[lR a, lR st_, lI 0, lJ (-7046029254386353131), lS, lI 1, lU] [(.int (1 : Int32))]))
  refine own_via (fun _ k => XS.aloadN X1.here hx rfl (hb hby d15_7) rfl rfl k) ?_
  show own_Go p e below s _ _ _ (T1.setTop (mkF m 8 #[lR a, lR st_, lI 0, lJ (-7046029254386353131), lS, lI 1, lU] [(.ref a), (.int (1 : Int32))]))
  obtain ⟨T3, X3, e3, st3⟩ := getF X1 hx hZ hown (host := "") (Or.inl (hwi hw 11 rfl)) Via.refl e1 F_width_a (g := (mkF m 8 #[lR a, lR st_, lI 0, lJ (-7046029254386353131), lS, lI 1, lU] [(.ref a), (.int (1 : Int32))])) rfl rfl (hb hby d15_8)
  refine own_via st3 ?_
  show own_Go p e below s _ _ _ (T3.setTop (mkF m 11 #[lR a, lR st_, lI 0, lJ (-7046029254386353131), lS, lI 1, lU] [(.int (1 : Int32)), (.int (1 : Int32))]))
  refine own_via (fun _ k => XS.icmpYes X3.here hx rfl (pc0 := 11) (pc' := 33) rfl (hb hby d15_11) rfl (Jvm.Free.XT.ii_ge_t (by decide)) (by decide) (by decide) k) ?_
  show own_Go p e below s _ _ _ (T3.setTop (mkF m 33 #[lR a, lR st_, lI 0, lJ (-7046029254386353131), lS, lI 1, lU] []))
  refine own_via (fun _ k => XS.aloadN X3.here hx rfl (hb hby d15_33) rfl rfl k) ?_
  show own_Go p e below s _ _ _ (T3.setTop (mkF m 34 #[lR a, lR st_, lI 0, lJ (-7046029254386353131), lS, lI 1, lU] [(.ref a)]))
  obtain ⟨T4, X4, e4, st4⟩ := getF X3 hx hZ hown (host := "") (Or.inl (hwi hw 59 rfl)) Via.refl e3 F_table_a (g := (mkF m 34 #[lR a, lR st_, lI 0, lJ (-7046029254386353131), lS, lI 1, lU] [(.ref a)])) rfl rfl (hb hby d15_34)
  refine own_via st4 ?_
  show own_Go p e below s _ _ _ (T4.setTop (mkF m 37 #[lR a, lR st_, lI 0, lJ (-7046029254386353131), lS, lI 1, lU] [(.ref bT_)]))
  obtain ⟨cl5, Ar5, q5, S5, M5, H5, G5⟩ := (id V_bT_)
  refine own_via (fun _ k => X4.arraylength hx (by rw [e4]; exact Ar5.1) (State.isArrayOf_alike hZ.alike Ar5.2.1) (g := (mkF m 37 #[lR a, lR st_, lI 0, lJ (-7046029254386353131), lS, lI 1, lU] [(.ref bT_)])) rfl rfl (hb hby d15_37) _ (by rw [len_of S5 M5]; exact k)) ?_
  show own_Go p e below s _ _ _ (T4.setTop (mkF m 38 #[lR a, lR st_, lI 0, lJ (-7046029254386353131), lS, lI 1, lU] [(.int (128 : Int32))]))
  refine own_via (fun _ k => XS.iconst X4.here hx rfl (hb hby d15_38) k) ?_
  show own_Go p e below s _ _ _ (T4.setTop (mkF m 39 #[lR a, lR st_, lI 0, lJ (-7046029254386353131), lS, lI 1, lU] [(.int (1 : Int32)), (.int (128 : Int32))]))
  refine own_via (fun _ k => XS.isub X4.here hx rfl (hb hby d15_39) rfl k) ?_
  show own_Go p e below s _ _ _ (T4.setTop (mkF m 40 #[lR a, lR st_, lI 0, lJ (-7046029254386353131), lS, lI 1, lU] [(.int (127 : Int32))]))
  refine own_via (fun _ k => XS.istore X4.here hx rfl (hb hby d15_40) rfl (l' := #[lR a, lR st_, lI 0, lJ (-7046029254386353131), lS, lI 127, lU]) rfl k) ?_
  show own_Go p e below s _ _ _ (T4.setTop (mkF m 42 #[lR a, lR st_, lI 0, lJ (-7046029254386353131), lS, lI 127, lU] []))
  refine own_via (fun _ k => XS.lloadN X4.here hx rfl (hb hby d15_42) rfl k) ?_
  show own_Go p e below s _ _ _ (T4.setTop (mkF m 43 #[lR a, lR st_, lI 0, lJ (-7046029254386353131), lS, lI 127, lU] [(.long (-7046029254386353131 : Int64))]))
  refine own_via (fun _ k => XS.lloadN X4.here hx rfl (hb hby d15_43) rfl k) ?_
  show own_Go p e below s _ _ _ (T4.setTop (mkF m 44 #[lR a, lR st_, lI 0, lJ (-7046029254386353131), lS, lI 127, lU] [(.long (-7046029254386353131 : Int64)), (.long (-7046029254386353131 : Int64))]))
  refine own_via (fun _ k => XS.bipush X4.here hx rfl (hb hby d15_44) k) ?_
  show own_Go p e below s _ _ _ (T4.setTop (mkF m 46 #[lR a, lR st_, lI 0, lJ (-7046029254386353131), lS, lI 127, lU] [(.int (32 : Int32)), (.long (-7046029254386353131 : Int64)), (.long (-7046029254386353131 : Int64))]))
  refine own_via (fun _ k => XS.lushr X4.here hx rfl (hb hby d15_46) rfl k) ?_
  show own_Go p e below s _ _ _ (T4.setTop (mkF m 47 #[lR a, lR st_, lI 0, lJ (-7046029254386353131), lS, lI 127, lU] [(.long (o_lushr (-7046029254386353131 : Int64) (32 : Int32))), (.long (-7046029254386353131 : Int64))]))
  rw [show (o_lushr (-7046029254386353131 : Int64) (32 : Int32)) = (2654435769 : Int64) from (by decide)]
  show own_Go p e below s _ _ _ (T4.setTop (mkF m 47 #[lR a, lR st_, lI 0, lJ (-7046029254386353131), lS, lI 127, lU] [(.long (2654435769 : Int64)), (.long (-7046029254386353131 : Int64))]))
  refine own_via (fun _ k => XS.lxor X4.here hx rfl (hb hby d15_47) rfl k) ?_
  show own_Go p e below s _ _ _ (T4.setTop (mkF m 48 #[lR a, lR st_, lI 0, lJ (-7046029254386353131), lS, lI 127, lU] [(.long (-7046029252738873940 : Int64))]))
  refine own_via (fun _ k => XS.l2i X4.here hx rfl (hb hby d15_48) rfl k) ?_
  show own_Go p e below s _ _ _ (T4.setTop (mkF m 49 #[lR a, lR st_, lI 0, lJ (-7046029254386353131), lS, lI 127, lU] [(.int (o_l2i (-7046029252738873940 : Int64)))]))
  rw [show (o_l2i (-7046029252738873940 : Int64)) = (-511900244 : Int32) from (by decide)]
  show own_Go p e below s _ _ _ (T4.setTop (mkF m 49 #[lR a, lR st_, lI 0, lJ (-7046029254386353131), lS, lI 127, lU] [(.int (-511900244 : Int32))]))
  refine own_via (fun _ k => XS.iload X4.here hx rfl (hb hby d15_49) rfl k) ?_
  show own_Go p e below s _ _ _ (T4.setTop (mkF m 51 #[lR a, lR st_, lI 0, lJ (-7046029254386353131), lS, lI 127, lU] [(.int (127 : Int32)), (.int (-511900244 : Int32))]))
  refine own_via (fun _ k => XS.iand X4.here hx rfl (hb hby d15_51) rfl k) ?_
  show own_Go p e below s _ _ _ (T4.setTop (mkF m 52 #[lR a, lR st_, lI 0, lJ (-7046029254386353131), lS, lI 127, lU] [(.int (44 : Int32))]))
  refine own_via (fun _ k => XS.istore X4.here hx rfl (hb hby d15_52) rfl (l' := #[lR a, lR st_, lI 0, lJ (-7046029254386353131), lS, lI 127, lI 44]) rfl k) ?_
  show own_Go p e below s _ _ _ (T4.setTop (mkF m 54 #[lR a, lR st_, lI 0, lJ (-7046029254386353131), lS, lI 127, lI 44] []))
  refine own_via (fun _ k => XS.aloadN X4.here hx rfl (hb hby d15_54) rfl rfl k) ?_
  show own_Go p e below s _ _ _ (T4.setTop (mkF m 55 #[lR a, lR st_, lI 0, lJ (-7046029254386353131), lS, lI 127, lI 44] [(.ref a)]))
  obtain ⟨T6, X6, e6, st6⟩ := getF X4 hx hZ hown (host := "") (Or.inl (hwi hw 59 rfl)) Via.refl e4 F_table_a (g := (mkF m 55 #[lR a, lR st_, lI 0, lJ (-7046029254386353131), lS, lI 127, lI 44] [(.ref a)])) rfl rfl (hb hby d15_55)
  refine own_via st6 ?_
  show own_Go p e below s _ _ _ (T6.setTop (mkF m 58 #[lR a, lR st_, lI 0, lJ (-7046029254386353131), lS, lI 127, lI 44] [(.ref bT_)]))
  refine own_via (fun _ k => XS.iload X6.here hx rfl (hb hby d15_58) rfl k) ?_
  show own_Go p e below s _ _ _ (T6.setTop (mkF m 60 #[lR a, lR st_, lI 0, lJ (-7046029254386353131), lS, lI 127, lI 44] [(.int (44 : Int32)), (.ref bT_)]))
  obtain ⟨cl7, Ar7, q7, S7, M7, H7, G7⟩ := (id V_bT_)
  have hin7 : ¬ ((44 : Int32) < 0 ∨ cl7.slots.size ≤ ((44 : Int32)).toNatClampNeg) := inb_of S7 ⟨by decide, by decide⟩
  have hat7 : cl7.slots[((44 : Int32)).toNatClampNeg]? = some (.int (0 : Int32)) := Has.at H7 hin7 hp6
  refine own_via (fun _ k => X6.iaload hx (j := (44 : Int32)) (v := (.int (0 : Int32))) (by rw [e6]; exact Ar7.1) (State.isArrayOf_alike hZ.alike Ar7.2.1) Ar7.2.2 hin7 hat7 (g := (mkF m 60 #[lR a, lR st_, lI 0, lJ (-7046029254386353131), lS, lI 127, lI 44] [(.int (44 : Int32)), (.ref bT_)])) rfl rfl (hb hby d15_60) _ k) ?_
  show own_Go p e below s _ _ _ (T6.setTop (mkF m 61 #[lR a, lR st_, lI 0, lJ (-7046029254386353131), lS, lI 127, lI 44] [(.int (0 : Int32))]))
  refine own_via (fun _ k => XS.ifYes X6.here hx rfl (pc0 := 61) (pc' := 82) rfl (hb hby d15_61) rfl (Jvm.Free.XT.i0_eq_t (by decide)) (by decide) (by decide) k) ?_
  show own_Go p e below s _ _ _ (T6.setTop (mkF m 82 #[lR a, lR st_, lI 0, lJ (-7046029254386353131), lS, lI 127, lI 44] []))
  refine own_via (fun _ k => XS.iload X6.here hx rfl (hb hby d15_82) rfl k) ?_
  show own_Go p e below s _ _ _ (T6.setTop (mkF m 84 #[lR a, lR st_, lI 0, lJ (-7046029254386353131), lS, lI 127, lI 44] [(.int (44 : Int32))]))
  exact own_goI X6 hx Bd.returns (hb hby d15_84) Bd.notSynchronized (by decide) (by decide) (by rw [e6]; exact ⟨rfl, N0, rfl⟩)
theorem d14_0 : decode prog_59_method_13_code 0 = .ok (.aload_n 0, 1) := by decide +kernel
theorem d14_1 : decode prog_59_method_13_code 1 = .ok (.aload_n 1, 1) := by decide +kernel
theorem d14_2 : decode prog_59_method_13_code 2 = .ok (.iconst 0, 1) := by decide +kernel
theorem pd_5 : parseMethodDescriptor "([JI)I" = some ⟨[(.array .long), .int], some .int⟩ := by decide +kernel
theorem d14_3 : decode prog_59_method_13_code 3 = .ok (.invokevirtual 106, 3) := by decide +kernel
theorem d14_6 : decode prog_59_method_13_code 6 = .ok (.ireturn, 1) := by decide +kernel
theorem ef_14 (m : MethodId) (x0 : Addr) (x1 : Addr) : entryFrame m #[(.ref x0), (.ref x1)] 2 = mkF m 0 #[.val (.ref x0), .val (.ref x1)] [] := by first | (simp [entryFrame, mkF, argsToLocals, Value.category]; done) | rfl
def Q14 (Z : State) (a : Addr) (st_ : Addr) (bT_ : Addr) (kT_ : ClassId) (vT_ : List Value) (q_ : ClassId) (h0 : Heap) (n0 : Nat) (v : Option Value) (h : Heap) (L : List Loc) : Prop := v = some (.int (44 : Int32)) ∧ Fr n0 L ∧ h = h0
set_option maxRecDepth 65536 in
set_option maxHeartbeats 40000000 in
theorem rm14 (l : Launch) (Z : State) (a0 : Array Value) (hw : ∀ d ∈ tables_1, d.before a0 Z = true) (ws : List Jvm.Cond) (a : Addr) (st_ : Addr) (bT_ : Addr) (kT_ : ClassId) (vT_ : List Value) (q_ : ClassId) (h0 : Heap) (n0 : Nat) (Z0 : n0 ≤ h0.size) (E_a : Exa Z h0 a "com/example/trajectory/trajectory/search/Nodes") (F_width_a : Fld Z h0 a "com/example/trajectory/trajectory/search/Nodes" "width" "I" (.int (1 : Int32))) (F_table_a : Fld Z h0 a "com/example/trajectory/trajectory/search/Nodes" "table" "[I" (.ref bT_)) (V_bT_ : Arv Z h0 bT_ kT_ .int (128 : Int32) vT_ (.int (0 : Int32))) (V_st_ : Arv Z h0 st_ q_ .long (1 : Int32) [(.long (1 : Int64))] (.long (0 : Int64))) (hp5 : vT_.getD ((44 : Int32)).toNatClampNeg (.int (0 : Int32)) = (.int (0 : Int32))) :
    MetFree l (⟨"com/example/trajectory/trajectory/search/Nodes", "slot", "([J)I"⟩ : MethodName) (head1 (Jvm.Cond.code (⟨"com/example/trajectory/trajectory/search/Nodes", "slot", "([J)I"⟩ : MethodName) prog_59_method_13_code 2 (some .int) :: ws) ({ frames := 1, cells := 0, slots := 0, locals := 18 } : Room)) (fun q_ U => q_ = #[(.ref a), (.ref st_)] ∧ Z.Warmed39 U.vm ∧ U.heap = h0) (fun _ _ _ _ _ => True) (fun _ U o U' => ∃ v L, o = .returned v ∧ Q14 Z a st_ bT_ kT_ vT_ q_ h0 n0 v U'.heap L ∧ FrameEnd U o U' L ({ frames := 1, cells := 0, slots := 0, locals := 18 } : Room).cells ({ frames := 1, cells := 0, slots := 0, locals := 18 } : Room).slots) := by
  refine MetFree.of_bodySF (plainFor_of_name pn_1) hisR ?_
  intro p e s m args below meth c s₁ Bd hml0 hP hK
  obtain ⟨rfl, hZ, hh⟩ := hP
  have hx := Bd.exec
  have hby := Bd.bytes
  have hml : c.maxLocals = 2 := hml0
  have hown : s.vm.findClass "com/example/trajectory/trajectory/search/Nodes" = some m.cls := findClass_of_methodNamed Bd.named
  have hnm := (name_of_methodNamed Bd.named Bd.method).1
  have X0 : Stand p l e ({ frames := 1, cells := 0, slots := 0, locals := 18 } : Room) s m #[(.ref a), (.ref st_)] below meth c s₁ [] 0 0 := Stand.of_body Bd
  have e0 : s₁.heap = h0 := by rw [← hh, Bd.state]; rfl
  have N0 := Fr.nil n0
  show own_Go p e below s (Q14 Z a st_ bT_ kT_ vT_ q_ h0 n0) ({ frames := 1, cells := 0, slots := 0, locals := 18 } : Room).cells ({ frames := 1, cells := 0, slots := 0, locals := 18 } : Room).slots (s₁.setTop (entryFrame m #[(.ref a), (.ref st_)] 2))
  refine own_via (fun t k => castTop (ef_14 m a st_) k) ?_
  show own_Go p e below s _ _ _ (s₁.setTop (mkF m 0 #[lR a, lR st_] []))
  refine own_via (fun _ k => XS.aloadN X0.here hx rfl (hb hby d14_0) rfl rfl k) ?_
  show own_Go p e below s _ _ _ (s₁.setTop (mkF m 1 #[lR a, lR st_] [(.ref a)]))
  refine own_via (fun _ k => XS.aloadN X0.here hx rfl (hb hby d14_1) rfl rfl k) ?_
  show own_Go p e below s _ _ _ (s₁.setTop (mkF m 2 #[lR a, lR st_] [(.ref st_), (.ref a)]))
  refine own_via (fun _ k => XS.iconst X0.here hx rfl (hb hby d14_2) k) ?_
  show own_Go p e below s _ _ _ (s₁.setTop (mkF m 3 #[lR a, lR st_] [(.int (0 : Int32)), (.ref st_), (.ref a)]))
  obtain ⟨cq1, qa1, qb1⟩ := E_a.cell
  obtain ⟨_, _, ⟨T1, L1, k1, n1⟩, -, X1, ⟨Lc1, hQ1, l1, y1, z1⟩, st1⟩ := X0.privateBack hx (y := (⟨"com/example/trajectory/trajectory/search/Nodes", "probe", "([JI)I"⟩ : MethodName)) hown (mvT hZ (hwi hw 108 rfl)) (mvT hZ (hwi hw 109 rfl)) (own_selP (y' := (⟨"com/example/trajectory/trajectory/search/Nodes", "add", "([JDDII)I"⟩ : MethodName)) (mvT hZ (hwi hw 68 rfl)) rfl (Cond.privateMethod_at (mvP hZ (hwi hw 110 rfl) (args := #[]))) (mvT hZ (hwi hw 109 rfl)) (by decide)) (Cond.privateMethod_at (mvP hZ (hwi hw 110 rfl) (args := #[]))) (mvT hZ (hwi hw 111 rfl)) (by decide) (backOf (W := 0) (rm15 l Z a0 hw [] a st_ (0 : Int32) bT_ kT_ vT_ q_ h0 n0 Z0 E_a F_width_a F_table_a V_bT_ V_st_ rfl hp5) hZ (hwi hw 111 rfl) (hwi hw 4 rfl) (by decide) (by decide)) (g := (mkF m 3 #[lR a, lR st_] [(.int (0 : Int32)), (.ref st_), (.ref a)])) rfl (by rw [hml]; rfl) (Steps.refl _) (a := a) (by rw [e0]; exact qa1) qb1 (argsL := [(.ref st_), (.int (0 : Int32))]) (rest := []) (lenOf pd_5 rfl) rfl (by show 2 * 0 + _ ≤ _; exact Nat.le_of_eq rfl) (hb hby d14_3) (fun _ _ => ⟨rfl, e0, (by decide : 0 + 0 ≤ _), (by decide : 0 + 0 ≤ _)⟩)
  dsimp only [Pt.U, Pt.locs, Pt.cells, Pt.slots] at X1 l1 y1 z1 st1 hQ1
  subst l1 y1 z1
  obtain ⟨rfl, N1q, e1⟩ := hQ1
  have N1 := Fr.app N0 N1q
  refine own_viaT st1 ?_
  show own_Go p e below s _ _ _ (T1.setTop (mkF m 6 #[lR a, lR st_] [(.int (44 : Int32))]))
  exact own_goI X1 hx Bd.returns (hb hby d14_6) Bd.notSynchronized (by decide) (by decide) (by rw [e1]; exact ⟨rfl, N1, rfl⟩)
theorem d18_0 : decode prog_59_method_17_code 0 = .ok (.aload_n 0, 1) := by decide +kernel
theorem d18_1 : decode prog_59_method_17_code 1 = .ok (.getfield 66, 3) := by decide +kernel
theorem d18_4 : decode prog_59_method_17_code 4 = .ok (.iload_n 1, 1) := by decide +kernel
theorem d18_5 : decode prog_59_method_17_code 5 = .ok (.iconst 1, 1) := by decide +kernel
theorem d18_6 : decode prog_59_method_17_code 6 = .ok (.bastore, 1) := by decide +kernel
theorem d18_7 : decode prog_59_method_17_code 7 = .ok (.aload_n 0, 1) := by decide +kernel
theorem d18_8 : decode prog_59_method_17_code 8 = .ok (.iload_n 1, 1) := by decide +kernel
theorem d18_9 : decode prog_59_method_17_code 9 = .ok (.invokevirtual 130, 3) := by decide +kernel
theorem d18_12 : decode prog_59_method_17_code 12 = .ok (.ifCond .eq 13, 3) := by decide +kernel
theorem d18_25 : decode prog_59_method_17_code 25 = .ok (.return_, 1) := by decide +kernel
theorem d18_15 : decode prog_59_method_17_code 15 = .ok (.aload_n 0, 1) := by decide +kernel
theorem d18_16 : decode prog_59_method_17_code 16 = .ok (.dup, 1) := by decide +kernel
theorem d18_17 : decode prog_59_method_17_code 17 = .ok (.getfield 134, 3) := by decide +kernel
theorem d18_20 : decode prog_59_method_17_code 20 = .ok (.lconst 1, 1) := by decide +kernel
theorem d18_21 : decode prog_59_method_17_code 21 = .ok (.lsub, 1) := by decide +kernel
theorem d18_22 : decode prog_59_method_17_code 22 = .ok (.putfield 134, 3) := by decide +kernel
theorem ef_18 (m : MethodId) (x0 : Addr) (x1 : Int32) : entryFrame m #[(.ref x0), (.int x1)] 2 = mkF m 0 #[.val (.ref x0), .val (.int x1)] [] := by first | (simp [entryFrame, mkF, argsToLocals, Value.category]; done) | rfl
def Q18 (Z : State) (a : Addr) (n_ : Int32) (ll_ : Int64) (ww_ : Int64) (wt_ : Int32) (u_ : Int32) (bl_ : Addr) (bz_ : Addr) (bk_ : Addr) (bT_ : Addr) (bf_ : Addr) (br_ : Addr) (kl_ : ClassId) (kz_ : ClassId) (vbl_ : List Value) (h0 : Heap) (n0 : Nat) (v : Option Value) (h : Heap) (L : List Loc) : Prop := v = none ∧ Fr n0 L ∧ Keep h0 h [a, bz_] ∧ Exa Z h a "com/example/trajectory/trajectory/search/Nodes" ∧ Fld Z h a "com/example/trajectory/trajectory/search/Nodes" "lengthLimit" "J" (.long ll_) ∧ Fld Z h a "com/example/trajectory/trajectory/search/Nodes" "lengths" "[I" (.ref bl_) ∧ Fld Z h a "com/example/trajectory/trajectory/search/Nodes" "superseded" "[Z" (.ref bz_) ∧ Fld Z h a "com/example/trajectory/trajectory/search/Nodes" "nextKept" "[I" (.ref bk_) ∧ Fld Z h a "com/example/trajectory/trajectory/search/Nodes" "table" "[I" (.ref bT_) ∧ Fld Z h a "com/example/trajectory/trajectory/search/Nodes" "frontierCosts" "[D" (.ref bf_) ∧ Fld Z h a "com/example/trajectory/trajectory/search/Nodes" "frontierRanks" "[J" (.ref br_) ∧ Fld Z h a "com/example/trajectory/trajectory/search/Nodes" "waiting" "I" (.int wt_) ∧ Fld Z h a "com/example/trajectory/trajectory/search/Nodes" "waitingWithin" "J" (.long (own_dec ww_ u_ ll_)) ∧ Fld Z h a "com/example/trajectory/trajectory/search/Nodes" "held" "I" (.int (1 : Int32)) ∧ Arv Z h bz_ kz_ .boolean (64 : Int32) [(.int (0 : Int32)), (.int (1 : Int32)), (.int (0 : Int32)), (.int (0 : Int32))] (.int (0 : Int32))
set_option maxRecDepth 65536 in
set_option maxHeartbeats 40000000 in
theorem rm18 (l : Launch) (Z : State) (a0 : Array Value) (hw : ∀ d ∈ tables_1, d.before a0 Z = true) (ws : List Jvm.Cond) (a : Addr) (n_ : Int32) (ll_ : Int64) (ww_ : Int64) (wt_ : Int32) (u_ : Int32) (bl_ : Addr) (bz_ : Addr) (bk_ : Addr) (bT_ : Addr) (bf_ : Addr) (br_ : Addr) (kl_ : ClassId) (kz_ : ClassId) (vbl_ : List Value) (h0 : Heap) (n0 : Nat) (Z0 : n0 ≤ h0.size) (E_a : Exa Z h0 a "com/example/trajectory/trajectory/search/Nodes") (F_lengthLimit_a : Fld Z h0 a "com/example/trajectory/trajectory/search/Nodes" "lengthLimit" "J" (.long ll_)) (F_lengths_a : Fld Z h0 a "com/example/trajectory/trajectory/search/Nodes" "lengths" "[I" (.ref bl_)) (F_superseded_a : Fld Z h0 a "com/example/trajectory/trajectory/search/Nodes" "superseded" "[Z" (.ref bz_)) (F_nextKept_a : Fld Z h0 a "com/example/trajectory/trajectory/search/Nodes" "nextKept" "[I" (.ref bk_)) (F_table_a : Fld Z h0 a "com/example/trajectory/trajectory/search/Nodes" "table" "[I" (.ref bT_)) (F_frontierCosts_a : Fld Z h0 a "com/example/trajectory/trajectory/search/Nodes" "frontierCosts" "[D" (.ref bf_)) (F_frontierRanks_a : Fld Z h0 a "com/example/trajectory/trajectory/search/Nodes" "frontierRanks" "[J" (.ref br_)) (F_waiting_a : Fld Z h0 a "com/example/trajectory/trajectory/search/Nodes" "waiting" "I" (.int wt_)) (F_waitingWithin_a : Fld Z h0 a "com/example/trajectory/trajectory/search/Nodes" "waitingWithin" "J" (.long ww_)) (F_held_a : Fld Z h0 a "com/example/trajectory/trajectory/search/Nodes" "held" "I" (.int (1 : Int32))) (V_bl_ : Arv Z h0 bl_ kl_ .int (64 : Int32) vbl_ (.int (0 : Int32))) (V_bz_ : Arv Z h0 bz_ kz_ .boolean (64 : Int32) [(.int (0 : Int32)), (.int (0 : Int32)), (.int (0 : Int32)), (.int (0 : Int32))] (.int (0 : Int32))) (g_a : n0 ≤ a) (g_bz_ : n0 ≤ bz_) (ne_a_bz_ : a ≠ bz_) (ne_bl__bz_ : bl_ ≠ bz_) (hp17 : n_ = (1 : Int32)) (hp18 : vbl_.getD ((1 : Int32)).toNatClampNeg (.int (0 : Int32)) = (.int u_)) :
    MetFree l (⟨"com/example/trajectory/trajectory/search/Nodes", "supersede", "(I)V"⟩ : MethodName) (head1 (Jvm.Cond.code (⟨"com/example/trajectory/trajectory/search/Nodes", "supersede", "(I)V"⟩ : MethodName) prog_59_method_17_code 2 none :: ws) ({ frames := 1, cells := 0, slots := 0, locals := 13 } : Room)) (fun q_ U => q_ = #[(.ref a), (.int n_)] ∧ Z.Warmed39 U.vm ∧ U.heap = h0) (fun _ _ _ _ _ => True) (fun _ U o U' => ∃ v L, o = .returned v ∧ Q18 Z a n_ ll_ ww_ wt_ u_ bl_ bz_ bk_ bT_ bf_ br_ kl_ kz_ vbl_ h0 n0 v U'.heap L ∧ FrameEnd U o U' L ({ frames := 1, cells := 0, slots := 0, locals := 13 } : Room).cells ({ frames := 1, cells := 0, slots := 0, locals := 13 } : Room).slots) := by
  refine MetFree.of_bodySF (plainFor_of_name pn_1) hisR ?_
  intro p e s m args below meth c s₁ Bd hml0 hP hK
  obtain ⟨rfl, hZ, hh⟩ := hP
  have hx := Bd.exec
  have hby := Bd.bytes
  have hml : c.maxLocals = 2 := hml0
  have hown : s.vm.findClass "com/example/trajectory/trajectory/search/Nodes" = some m.cls := findClass_of_methodNamed Bd.named
  have hnm := (name_of_methodNamed Bd.named Bd.method).1
  have X0 : Stand p l e ({ frames := 1, cells := 0, slots := 0, locals := 13 } : Room) s m #[(.ref a), (.int n_)] below meth c s₁ [] 0 0 := Stand.of_body Bd
  have e0 : s₁.heap = h0 := by rw [← hh, Bd.state]; rfl
  have N0 := Fr.nil n0
  show own_Go p e below s (Q18 Z a n_ ll_ ww_ wt_ u_ bl_ bz_ bk_ bT_ bf_ br_ kl_ kz_ vbl_ h0 n0) ({ frames := 1, cells := 0, slots := 0, locals := 13 } : Room).cells ({ frames := 1, cells := 0, slots := 0, locals := 13 } : Room).slots (s₁.setTop (entryFrame m #[(.ref a), (.int n_)] 2))
  refine own_via (fun t k => castTop (ef_18 m a n_) k) ?_
  have K0 : Keep h0 h0 [a, bz_] := Keep.refl _ _
  show own_Go p e below s _ _ _ (s₁.setTop (mkF m 0 #[lR a, lI n_] []))
  subst hp17
  show own_Go p e below s _ _ _ (s₁.setTop (mkF m 0 #[lR a, lI 1] []))
  refine own_via (fun _ k => XS.aloadN X0.here hx rfl (hb hby d18_0) rfl rfl k) ?_
  show own_Go p e below s _ _ _ (s₁.setTop (mkF m 1 #[lR a, lI 1] [(.ref a)]))
  obtain ⟨T1, X1, e1, st1⟩ := getF X0 hx hZ hown (host := "") (Or.inl (hwi hw 55 rfl)) Via.refl e0 F_superseded_a (g := (mkF m 1 #[lR a, lI 1] [(.ref a)])) rfl rfl (hb hby d18_1)
  refine own_via st1 ?_
  show own_Go p e below s _ _ _ (T1.setTop (mkF m 4 #[lR a, lI 1] [(.ref bz_)]))
  refine own_via (fun _ k => XS.iloadN X1.here hx rfl (hb hby d18_4) rfl k) ?_
  show own_Go p e below s _ _ _ (T1.setTop (mkF m 5 #[lR a, lI 1] [(.int (1 : Int32)), (.ref bz_)]))
  refine own_via (fun _ k => XS.iconst X1.here hx rfl (hb hby d18_5) k) ?_
  show own_Go p e below s _ _ _ (T1.setTop (mkF m 6 #[lR a, lI 1] [(.int (1 : Int32)), (.int (1 : Int32)), (.ref bz_)]))
  obtain ⟨cl2, Ar2, q2, S2, M2, H2, G2⟩ := (id V_bz_)
  have hin2 : ¬ ((1 : Int32) < 0 ∨ cl2.slots.size ≤ ((1 : Int32)).toNatClampNeg) := inb_of S2 ⟨by decide, by decide⟩
  obtain ⟨T2, h2, X2, e2, W2, st2⟩ := stZ X1 hx hZ e1 Ar2 (j := (1 : Int32)) hin2 (g := (mkF m 6 #[lR a, lI 1] [(.int (1 : Int32)), (.int (1 : Int32)), (.ref bz_)])) rfl rfl (hb hby d18_6)
  have V2 : Arv Z h2 bz_ kz_ .boolean (64 : Int32) [(.int (0 : Int32)), (.int (1 : Int32)), (.int (0 : Int32)), (.int (0 : Int32))] (.int (0 : Int32)) := Arv.set Ar2 q2 S2 M2 H2 G2 (fits_nar_bool _) W2 1 rfl (Nat.le_of_ble_eq_true rfl)
  have N2 := Fr.snoc X2 N0 g_bz_
  have Z2 : n0 ≤ h2.size := Nat.le_trans Z0 (Keep.of_wr W2).1
  have K2 : Keep h0 h2 [a, bz_] := K0.wr W2 (Or.inl (List.mem_of_getElem? (i := 1) rfl))
  refine own_via st2 ?_
  show own_Go p e below s _ _ _ (T2.setTop (mkF m 7 #[lR a, lI 1] []))
  refine own_via (fun _ k => XS.aloadN X2.here hx rfl (hb hby d18_7) rfl rfl k) ?_
  show own_Go p e below s _ _ _ (T2.setTop (mkF m 8 #[lR a, lI 1] [(.ref a)]))
  refine own_via (fun _ k => XS.iloadN X2.here hx rfl (hb hby d18_8) rfl k) ?_
  show own_Go p e below s _ _ _ (T2.setTop (mkF m 9 #[lR a, lI 1] [(.int (1 : Int32)), (.ref a)]))
  have F4 := (F_lengths_a.other W2 (Or.inl ne_a_bz_))
  have F5 := (F_lengthLimit_a.other W2 (Or.inl ne_a_bz_))
  have F6 := (V_bl_.other W2 ne_bl__bz_)
  have F7 := (E_a.wr W2)
  obtain ⟨cq3, kq3, qa3, qb3, qc3⟩ := isOf hZ e2 F7
  obtain ⟨_, _, ⟨T3, L3, k3, n3⟩, -, X3, ⟨Lc3, hQ3, l3, y3, z3⟩, st3⟩ := X2.virtualBack hx (y := (⟨"com/example/trajectory/trajectory/search/Nodes", "isWithinLimit", "(I)Z"⟩ : MethodName)) (z := (⟨"com/example/trajectory/trajectory/search/Nodes", "isWithinLimit", "(I)Z"⟩ : MethodName)) hown (mvT hZ (hwi hw 90 rfl)) (mvT hZ (hwi hw 91 rfl)) (notFace_of_selects (args := #[]) (mvT hZ (hwi hw 93 rfl))) (mvT hZ (hwi hw 93 rfl)) (mvT hZ (hwi hw 92 rfl)) (by decide) (backOf (W := 0) (rm11 l Z a0 hw [] a (1 : Int32) bl_ ll_ kl_ vbl_ u_ h2 n0 Z2 F4 F5 F6 ⟨by decide, by decide⟩ hp18) hZ (hwi hw 94 rfl) (hwi hw 4 rfl) (by decide) (by decide)) qa3 qc3 (g := (mkF m 9 #[lR a, lI 1] [(.int (1 : Int32)), (.ref a)])) rfl (by rw [hml]; rfl) (Steps.refl _) (argsL := [(.int (1 : Int32))]) (rest := []) (lenOf pd_3 rfl) rfl (by show 2 * 0 + _ ≤ _; exact Nat.le_of_eq rfl) (hb hby d18_9) (fun _ _ => ⟨rfl, e2, (by decide : 0 + 0 ≤ _), (by decide : 0 + 0 ≤ _)⟩)
  dsimp only [Pt.U, Pt.locs, Pt.cells, Pt.slots] at X3 l3 y3 z3 st3 hQ3
  subst l3 y3 z3
  obtain ⟨rfl, N3q, e3⟩ := hQ3
  have N3 := Fr.app N2 N3q
  refine own_viaT st3 ?_
  show own_Go p e below s _ _ _ (T3.setTop (mkF m 12 #[lR a, lI 1] [(.int (own_w u_ ll_))]))
  by_cases hc8 : (own_w u_ ll_) = (0 : Int32)
  · refine own_via (fun _ k => XS.ifYes X3.here hx rfl (pc0 := 12) (pc' := 25) rfl (hb hby d18_12) rfl (Jvm.Free.XT.i0_eq_t hc8) (by decide) (by decide) k) ?_
    show own_Go p e below s _ _ _ (T3.setTop (mkF m 25 #[lR a, lI 1] []))
    have F9 := (F_superseded_a.other W2 (Or.inl ne_a_bz_))
    have F10 := (F_nextKept_a.other W2 (Or.inl ne_a_bz_))
    have F11 := (F_table_a.other W2 (Or.inl ne_a_bz_))
    have F12 := (F_frontierCosts_a.other W2 (Or.inl ne_a_bz_))
    have F13 := (F_frontierRanks_a.other W2 (Or.inl ne_a_bz_))
    have F14 := (F_waiting_a.other W2 (Or.inl ne_a_bz_))
    have F15 := (F_waitingWithin_a.other W2 (Or.inl ne_a_bz_))
    have F16 := (F_held_a.other W2 (Or.inl ne_a_bz_))
    exact own_goV X3 hx Bd.returns (hb hby d18_25) Bd.notSynchronized (by decide) (by decide) (by rw [e3]; exact ⟨rfl, N3, K2, F7, F5, F4, F9, F10, F11, F12, F13, F14, (by rw [own_dec, if_pos hc8]; exact F15), F16, V2⟩)
  · refine own_via (fun _ k => XS.ifNo X3.here hx rfl (hb hby d18_12) rfl (Jvm.Free.XT.i0_eq_f hc8) k) ?_
    show own_Go p e below s _ _ _ (T3.setTop (mkF m 15 #[lR a, lI 1] []))
    refine own_via (fun _ k => XS.aloadN X3.here hx rfl (hb hby d18_15) rfl rfl k) ?_
    show own_Go p e below s _ _ _ (T3.setTop (mkF m 16 #[lR a, lI 1] [(.ref a)]))
    refine own_via (fun _ k => XS.dup X3.here hx rfl (hb hby d18_16) rfl rfl k) ?_
    show own_Go p e below s _ _ _ (T3.setTop (mkF m 17 #[lR a, lI 1] [(.ref a), (.ref a)]))
    have F17 := (F_waitingWithin_a.other W2 (Or.inl ne_a_bz_))
    obtain ⟨T18, X18, e18, st18⟩ := getF X3 hx hZ hown (host := "") (Or.inl (hwi hw 81 rfl)) Via.refl e3 F17 (g := (mkF m 17 #[lR a, lI 1] [(.ref a), (.ref a)])) rfl rfl (hb hby d18_17)
    refine own_via st18 ?_
    show own_Go p e below s _ _ _ (T18.setTop (mkF m 20 #[lR a, lI 1] [(.long ww_), (.ref a)]))
    refine own_via (fun _ k => XS.lconst X18.here hx rfl (hb hby d18_20) k) ?_
    show own_Go p e below s _ _ _ (T18.setTop (mkF m 21 #[lR a, lI 1] [(.long (1 : Int64)), (.long ww_), (.ref a)]))
    refine own_via (fun _ k => XS.lsub X18.here hx rfl (hb hby d18_21) rfl k) ?_
    show own_Go p e below s _ _ _ (T18.setTop (mkF m 22 #[lR a, lI 1] [(.long (ww_ - (1 : Int64))), (.ref a)]))
    obtain ⟨T19, h19, X19, e19, W19, st19⟩ := putF X18 hx hZ hown (host := "") (Or.inl (hwi hw 81 rfl)) Via.refl e18 F17 F7 (Or.inl (hwi hw 82 rfl)) (hwi hw 3 rfl) (ty := .long) (by decide) rfl rfl (g := (mkF m 22 #[lR a, lI 1] [(.long (ww_ - (1 : Int64))), (.ref a)])) rfl rfl (hb hby d18_22)
    have N19 := Fr.snoc X19 N3 g_a
    have Fw19 := F17.same W19
    have Z19 : n0 ≤ h19.size := Nat.le_trans Z2 (Keep.of_wr W19).1
    have K19 : Keep h0 h19 [a, bz_] := K2.wr W19 (Or.inl (List.mem_of_getElem? (i := 0) rfl))
    refine own_via st19 ?_
    show own_Go p e below s _ _ _ (T19.setTop (mkF m 25 #[lR a, lI 1] []))
    have F20 := (F7.wr W19)
    have F21 := (F5.other W19 (Or.inr (sn28 hw)))
    have F22 := (F4.other W19 (Or.inr (sn30 hw)))
    have F23 := ((F_superseded_a.other W2 (Or.inl ne_a_bz_)).other W19 (Or.inr (sn31 hw)))
    have F24 := ((F_nextKept_a.other W2 (Or.inl ne_a_bz_)).other W19 (Or.inr (sn32 hw)))
    have F25 := ((F_table_a.other W2 (Or.inl ne_a_bz_)).other W19 (Or.inr (sn33 hw)))
    have F26 := ((F_frontierCosts_a.other W2 (Or.inl ne_a_bz_)).other W19 (Or.inr (sn34 hw)))
    have F27 := ((F_frontierRanks_a.other W2 (Or.inl ne_a_bz_)).other W19 (Or.inr (sn35 hw)))
    have F28 := ((F_waiting_a.other W2 (Or.inl ne_a_bz_)).other W19 (Or.inr (sn36 hw)))
    have F29 := ((F_held_a.other W2 (Or.inl ne_a_bz_)).other W19 (Or.inr (sn37 hw)))
    have F30 := (V2.other W19 (Ne.symm ne_a_bz_))
    exact own_goV X19 hx Bd.returns (hb hby d18_25) Bd.notSynchronized (by decide) (by decide) (by rw [e19]; exact ⟨rfl, N19, K19, F20, F21, F22, F23, F24, F25, F26, F27, F28, (by rw [own_dec, if_neg hc8]; exact Fw19), F29, F30⟩)
theorem d16_0 : decode prog_59_method_15_code 0 = .ok (.aload_n 0, 1) := by decide +kernel
theorem d16_1 : decode prog_59_method_15_code 1 = .ok (.getfield 73, 3) := by decide +kernel
theorem d16_4 : decode prog_59_method_15_code 4 = .ok (.iload_n 1, 1) := by decide +kernel
theorem d16_5 : decode prog_59_method_15_code 5 = .ok (.iaload, 1) := by decide +kernel
theorem d16_6 : decode prog_59_method_15_code 6 = .ok (.ifCond .ne 13, 3) := by decide +kernel
theorem d16_9 : decode prog_59_method_15_code 9 = .ok (.aload_n 0, 1) := by decide +kernel
theorem d16_10 : decode prog_59_method_15_code 10 = .ok (.dup, 1) := by decide +kernel
theorem d16_11 : decode prog_59_method_15_code 11 = .ok (.getfield 114, 3) := by decide +kernel
theorem d16_14 : decode prog_59_method_15_code 14 = .ok (.iconst 1, 1) := by decide +kernel
theorem d16_15 : decode prog_59_method_15_code 15 = .ok (.iadd, 1) := by decide +kernel
theorem d16_16 : decode prog_59_method_15_code 16 = .ok (.putfield 114, 3) := by decide +kernel
theorem d16_19 : decode prog_59_method_15_code 19 = .ok (.iload_n 2, 1) := by decide +kernel
theorem d16_20 : decode prog_59_method_15_code 20 = .ok (.istore_n 3, 1) := by decide +kernel
theorem d16_21 : decode prog_59_method_15_code 21 = .ok (.aload_n 0, 1) := by decide +kernel
theorem sn38 {Z : State} {a0 : Array Value} (hw : ∀ d ∈ tables_1, d.before a0 Z = true) : Jvm.RoadKit.slotOf Z "com/example/trajectory/trajectory/search/Nodes" "table" "[I" ≠ Jvm.RoadKit.slotOf Z "com/example/trajectory/trajectory/search/Nodes" "held" "I" := slot_ne (Or.inl (hwi hw 60 rfl)) (Or.inl (hwi hw 119 rfl)) (by decide) (t := (.array .int)) (t' := .int) (by decide) (by decide)
theorem d16_22 : decode prog_59_method_15_code 22 = .ok (.getfield 73, 3) := by decide +kernel
theorem d16_25 : decode prog_59_method_15_code 25 = .ok (.iload_n 1, 1) := by decide +kernel
theorem d16_26 : decode prog_59_method_15_code 26 = .ok (.iaload, 1) := by decide +kernel
theorem d16_27 : decode prog_59_method_15_code 27 = .ok (.iconst 1, 1) := by decide +kernel
theorem d16_28 : decode prog_59_method_15_code 28 = .ok (.isub, 1) := by decide +kernel
theorem d16_29 : decode prog_59_method_15_code 29 = .ok (.istore 4, 2) := by decide +kernel
theorem d16_31 : decode prog_59_method_15_code 31 = .ok (.iload 4, 2) := by decide +kernel
theorem d16_33 : decode prog_59_method_15_code 33 = .ok (.ifCond .lt 68, 3) := by decide +kernel
theorem d16_101 : decode prog_59_method_15_code 101 = .ok (.aload_n 0, 1) := by decide +kernel
theorem sn39 {Z : State} {a0 : Array Value} (hw : ∀ d ∈ tables_1, d.before a0 Z = true) : Jvm.RoadKit.slotOf Z "com/example/trajectory/trajectory/search/Nodes" "nextKept" "[I" ≠ Jvm.RoadKit.slotOf Z "com/example/trajectory/trajectory/search/Nodes" "held" "I" := slot_ne (Or.inl (hwi hw 58 rfl)) (Or.inl (hwi hw 119 rfl)) (by decide) (t := (.array .int)) (t' := .int) (by decide) (by decide)
theorem d16_102 : decode prog_59_method_15_code 102 = .ok (.getfield 70, 3) := by decide +kernel
theorem d16_105 : decode prog_59_method_15_code 105 = .ok (.iload_n 3, 1) := by decide +kernel
theorem d16_106 : decode prog_59_method_15_code 106 = .ok (.iconst (-1), 1) := by decide +kernel
theorem d16_107 : decode prog_59_method_15_code 107 = .ok (.iastore, 1) := by decide +kernel
theorem d16_108 : decode prog_59_method_15_code 108 = .ok (.aload_n 0, 1) := by decide +kernel
theorem d16_109 : decode prog_59_method_15_code 109 = .ok (.getfield 73, 3) := by decide +kernel
theorem d16_112 : decode prog_59_method_15_code 112 = .ok (.iload_n 1, 1) := by decide +kernel
theorem d16_113 : decode prog_59_method_15_code 113 = .ok (.iload_n 2, 1) := by decide +kernel
theorem d16_114 : decode prog_59_method_15_code 114 = .ok (.iconst 1, 1) := by decide +kernel
theorem d16_115 : decode prog_59_method_15_code 115 = .ok (.iadd, 1) := by decide +kernel
theorem d16_116 : decode prog_59_method_15_code 116 = .ok (.iastore, 1) := by decide +kernel
theorem d16_117 : decode prog_59_method_15_code 117 = .ok (.iconst 2, 1) := by decide +kernel
theorem d16_118 : decode prog_59_method_15_code 118 = .ok (.aload_n 0, 1) := by decide +kernel
theorem d16_119 : decode prog_59_method_15_code 119 = .ok (.getfield 114, 3) := by decide +kernel
theorem d16_122 : decode prog_59_method_15_code 122 = .ok (.imul, 1) := by decide +kernel
theorem d16_123 : decode prog_59_method_15_code 123 = .ok (.aload_n 0, 1) := by decide +kernel
theorem d16_124 : decode prog_59_method_15_code 124 = .ok (.getfield 73, 3) := by decide +kernel
theorem d16_127 : decode prog_59_method_15_code 127 = .ok (.arraylength, 1) := by decide +kernel
theorem d16_128 : decode prog_59_method_15_code 128 = .ok (.if_icmp .le 80, 3) := by decide +kernel
theorem d16_208 : decode prog_59_method_15_code 208 = .ok (.return_, 1) := by decide +kernel
theorem sn40 {Z : State} {a0 : Array Value} (hw : ∀ d ∈ tables_1, d.before a0 Z = true) : Jvm.RoadKit.slotOf Z "com/example/trajectory/trajectory/search/Nodes" "lengthLimit" "J" ≠ Jvm.RoadKit.slotOf Z "com/example/trajectory/trajectory/search/Nodes" "held" "I" := slot_ne (Or.inr (hwi hw 14 rfl)) (Or.inl (hwi hw 119 rfl)) (by decide) (t := .long) (t' := .int) (by decide) (by decide)
theorem sn41 {Z : State} {a0 : Array Value} (hw : ∀ d ∈ tables_1, d.before a0 Z = true) : Jvm.RoadKit.slotOf Z "com/example/trajectory/trajectory/search/Nodes" "costs" "[D" ≠ Jvm.RoadKit.slotOf Z "com/example/trajectory/trajectory/search/Nodes" "held" "I" := slot_ne (Or.inl (hwi hw 44 rfl)) (Or.inl (hwi hw 119 rfl)) (by decide) (t := (.array .double)) (t' := .int) (by decide) (by decide)
theorem sn42 {Z : State} {a0 : Array Value} (hw : ∀ d ∈ tables_1, d.before a0 Z = true) : Jvm.RoadKit.slotOf Z "com/example/trajectory/trajectory/search/Nodes" "lengths" "[I" ≠ Jvm.RoadKit.slotOf Z "com/example/trajectory/trajectory/search/Nodes" "held" "I" := slot_ne (Or.inl (hwi hw 49 rfl)) (Or.inl (hwi hw 119 rfl)) (by decide) (t := (.array .int)) (t' := .int) (by decide) (by decide)
theorem sn43 {Z : State} {a0 : Array Value} (hw : ∀ d ∈ tables_1, d.before a0 Z = true) : Jvm.RoadKit.slotOf Z "com/example/trajectory/trajectory/search/Nodes" "superseded" "[Z" ≠ Jvm.RoadKit.slotOf Z "com/example/trajectory/trajectory/search/Nodes" "held" "I" := slot_ne (Or.inl (hwi hw 56 rfl)) (Or.inl (hwi hw 119 rfl)) (by decide) (t := (.array .boolean)) (t' := .int) (by decide) (by decide)
theorem sn44 {Z : State} {a0 : Array Value} (hw : ∀ d ∈ tables_1, d.before a0 Z = true) : Jvm.RoadKit.slotOf Z "com/example/trajectory/trajectory/search/Nodes" "frontierCosts" "[D" ≠ Jvm.RoadKit.slotOf Z "com/example/trajectory/trajectory/search/Nodes" "held" "I" := slot_ne (Or.inl (hwi hw 62 rfl)) (Or.inl (hwi hw 119 rfl)) (by decide) (t := (.array .double)) (t' := .int) (by decide) (by decide)
theorem sn45 {Z : State} {a0 : Array Value} (hw : ∀ d ∈ tables_1, d.before a0 Z = true) : Jvm.RoadKit.slotOf Z "com/example/trajectory/trajectory/search/Nodes" "frontierRanks" "[J" ≠ Jvm.RoadKit.slotOf Z "com/example/trajectory/trajectory/search/Nodes" "held" "I" := slot_ne (Or.inl (hwi hw 64 rfl)) (Or.inl (hwi hw 119 rfl)) (by decide) (t := (.array .long)) (t' := .int) (by decide) (by decide)
theorem sn46 {Z : State} {a0 : Array Value} (hw : ∀ d ∈ tables_1, d.before a0 Z = true) : Jvm.RoadKit.slotOf Z "com/example/trajectory/trajectory/search/Nodes" "waiting" "I" ≠ Jvm.RoadKit.slotOf Z "com/example/trajectory/trajectory/search/Nodes" "held" "I" := slot_ne (Or.inl (hwi hw 89 rfl)) (Or.inl (hwi hw 119 rfl)) (by decide) (t := .int) (t' := .int) (by decide) (by decide)
theorem sn47 {Z : State} {a0 : Array Value} (hw : ∀ d ∈ tables_1, d.before a0 Z = true) : Jvm.RoadKit.slotOf Z "com/example/trajectory/trajectory/search/Nodes" "waitingWithin" "J" ≠ Jvm.RoadKit.slotOf Z "com/example/trajectory/trajectory/search/Nodes" "held" "I" := slot_ne (Or.inl (hwi hw 82 rfl)) (Or.inl (hwi hw 119 rfl)) (by decide) (t := .long) (t' := .int) (by decide) (by decide)
theorem ef_kA (m : MethodId) (x0 : Addr) (x1 : Int32) (x2 : Int32) : entryFrame m #[(.ref x0), (.int x1), (.int x2)] 9 = mkF m 0 #[.val (.ref x0), .val (.int x1), .val (.int x2), .unset, .unset, .unset, .unset, .unset, .unset] [] := by first | (simp [entryFrame, mkF, argsToLocals, Value.category]; done) | rfl
def QkA (Z : State) (a : Addr) (ps_ : Int32) (n_ : Int32) (ll_ : Int64) (ww_ : Int64) (wt_ : Int32) (bc_ : Addr) (bl_ : Addr) (bz_ : Addr) (bk_ : Addr) (bT_ : Addr) (bf_ : Addr) (br_ : Addr) (kT_ : ClassId) (kk_ : ClassId) (vT_ : List Value) (h0 : Heap) (n0 : Nat) (v : Option Value) (h : Heap) (L : List Loc) : Prop := ∃ wT_ : List Value, v = none ∧ Fr n0 L ∧ Keep h0 h [a, bk_, bT_] ∧ Exa Z h a "com/example/trajectory/trajectory/search/Nodes" ∧ Fld Z h a "com/example/trajectory/trajectory/search/Nodes" "lengthLimit" "J" (.long ll_) ∧ Fld Z h a "com/example/trajectory/trajectory/search/Nodes" "costs" "[D" (.ref bc_) ∧ Fld Z h a "com/example/trajectory/trajectory/search/Nodes" "lengths" "[I" (.ref bl_) ∧ Fld Z h a "com/example/trajectory/trajectory/search/Nodes" "superseded" "[Z" (.ref bz_) ∧ Fld Z h a "com/example/trajectory/trajectory/search/Nodes" "nextKept" "[I" (.ref bk_) ∧ Fld Z h a "com/example/trajectory/trajectory/search/Nodes" "table" "[I" (.ref bT_) ∧ Fld Z h a "com/example/trajectory/trajectory/search/Nodes" "frontierCosts" "[D" (.ref bf_) ∧ Fld Z h a "com/example/trajectory/trajectory/search/Nodes" "frontierRanks" "[J" (.ref br_) ∧ Fld Z h a "com/example/trajectory/trajectory/search/Nodes" "waiting" "I" (.int wt_) ∧ Fld Z h a "com/example/trajectory/trajectory/search/Nodes" "waitingWithin" "J" (.long ww_) ∧ Fld Z h a "com/example/trajectory/trajectory/search/Nodes" "held" "I" (.int (1 : Int32)) ∧ Arv Z h bT_ kT_ .int (128 : Int32) wT_ (.int (0 : Int32)) ∧ Arv Z h bk_ kk_ .int (64 : Int32) [(.int (0 : Int32)), (.int (-1 : Int32)), (.int (0 : Int32)), (.int (0 : Int32))] (.int (0 : Int32)) ∧ wT_.length = 45 ∧ wT_.getD ((44 : Int32)).toNatClampNeg (.int (0 : Int32)) = (.int (2 : Int32))
set_option maxRecDepth 65536 in
set_option maxHeartbeats 40000000 in
theorem rmkA (l : Launch) (Z : State) (a0 : Array Value) (hw : ∀ d ∈ tables_1, d.before a0 Z = true) (ws : List Jvm.Cond) (a : Addr) (ps_ : Int32) (n_ : Int32) (ll_ : Int64) (ww_ : Int64) (wt_ : Int32) (bc_ : Addr) (bl_ : Addr) (bz_ : Addr) (bk_ : Addr) (bT_ : Addr) (bf_ : Addr) (br_ : Addr) (kT_ : ClassId) (kk_ : ClassId) (vT_ : List Value) (h0 : Heap) (n0 : Nat) (Z0 : n0 ≤ h0.size) (E_a : Exa Z h0 a "com/example/trajectory/trajectory/search/Nodes") (F_lengthLimit_a : Fld Z h0 a "com/example/trajectory/trajectory/search/Nodes" "lengthLimit" "J" (.long ll_)) (F_costs_a : Fld Z h0 a "com/example/trajectory/trajectory/search/Nodes" "costs" "[D" (.ref bc_)) (F_lengths_a : Fld Z h0 a "com/example/trajectory/trajectory/search/Nodes" "lengths" "[I" (.ref bl_)) (F_superseded_a : Fld Z h0 a "com/example/trajectory/trajectory/search/Nodes" "superseded" "[Z" (.ref bz_)) (F_nextKept_a : Fld Z h0 a "com/example/trajectory/trajectory/search/Nodes" "nextKept" "[I" (.ref bk_)) (F_table_a : Fld Z h0 a "com/example/trajectory/trajectory/search/Nodes" "table" "[I" (.ref bT_)) (F_frontierCosts_a : Fld Z h0 a "com/example/trajectory/trajectory/search/Nodes" "frontierCosts" "[D" (.ref bf_)) (F_frontierRanks_a : Fld Z h0 a "com/example/trajectory/trajectory/search/Nodes" "frontierRanks" "[J" (.ref br_)) (F_waiting_a : Fld Z h0 a "com/example/trajectory/trajectory/search/Nodes" "waiting" "I" (.int wt_)) (F_waitingWithin_a : Fld Z h0 a "com/example/trajectory/trajectory/search/Nodes" "waitingWithin" "J" (.long ww_)) (F_held_a : Fld Z h0 a "com/example/trajectory/trajectory/search/Nodes" "held" "I" (.int (0 : Int32))) (V_bT_ : Arv Z h0 bT_ kT_ .int (128 : Int32) vT_ (.int (0 : Int32))) (V_bk_ : Arv Z h0 bk_ kk_ .int (64 : Int32) [(.int (0 : Int32)), (.int (0 : Int32)), (.int (0 : Int32)), (.int (0 : Int32))] (.int (0 : Int32))) (g_a : n0 ≤ a) (g_bk_ : n0 ≤ bk_) (g_bT_ : n0 ≤ bT_) (ne_a_bk_ : a ≠ bk_) (ne_a_bT_ : a ≠ bT_) (ne_bk__bT_ : bk_ ≠ bT_) (hp20 : ps_ = (44 : Int32)) (hp21 : n_ = (1 : Int32)) (hp22 : vT_.length = 45) (hp23 : vT_.getD ((44 : Int32)).toNatClampNeg (.int (0 : Int32)) = (.int (0 : Int32))) :
    MetFree l (⟨"com/example/trajectory/trajectory/search/Nodes", "keep", "(II)V"⟩ : MethodName) (head1 (Jvm.Cond.code (⟨"com/example/trajectory/trajectory/search/Nodes", "keep", "(II)V"⟩ : MethodName) prog_59_method_15_code 9 none :: ws) ({ frames := 0, cells := 0, slots := 0, locals := 0 } : Room)) (fun q_ U => q_ = #[(.ref a), (.int ps_), (.int n_)] ∧ Z.Warmed39 U.vm ∧ U.heap = h0) (fun _ _ _ _ _ => True) (fun _ U o U' => ∃ v L, o = .returned v ∧ QkA Z a ps_ n_ ll_ ww_ wt_ bc_ bl_ bz_ bk_ bT_ bf_ br_ kT_ kk_ vT_ h0 n0 v U'.heap L ∧ FrameEnd U o U' L ({ frames := 0, cells := 0, slots := 0, locals := 0 } : Room).cells ({ frames := 0, cells := 0, slots := 0, locals := 0 } : Room).slots) := by
  refine MetFree.of_bodySF (plainFor_of_name pn_1) hisR ?_
  intro p e s m args below meth c s₁ Bd hml0 hP hK
  obtain ⟨rfl, hZ, hh⟩ := hP
  have hx := Bd.exec
  have hby := Bd.bytes
  have hml : c.maxLocals = 9 := hml0
  have hown : s.vm.findClass "com/example/trajectory/trajectory/search/Nodes" = some m.cls := findClass_of_methodNamed Bd.named
  have hnm := (name_of_methodNamed Bd.named Bd.method).1
  have X0 : Stand p l e ({ frames := 0, cells := 0, slots := 0, locals := 0 } : Room) s m #[(.ref a), (.int ps_), (.int n_)] below meth c s₁ [] 0 0 := Stand.of_body Bd
  have e0 : s₁.heap = h0 := by rw [← hh, Bd.state]; rfl
  have N0 := Fr.nil n0
  show own_Go p e below s (QkA Z a ps_ n_ ll_ ww_ wt_ bc_ bl_ bz_ bk_ bT_ bf_ br_ kT_ kk_ vT_ h0 n0) ({ frames := 0, cells := 0, slots := 0, locals := 0 } : Room).cells ({ frames := 0, cells := 0, slots := 0, locals := 0 } : Room).slots (s₁.setTop (entryFrame m #[(.ref a), (.int ps_), (.int n_)] 9))
  refine own_via (fun t k => castTop (ef_kA m a ps_ n_) k) ?_
  have K0 : Keep h0 h0 [a, bk_, bT_] := Keep.refl _ _
  show own_Go p e below s _ _ _ (s₁.setTop (mkF m 0 #[lR a, lI ps_, lI n_, lU, lU, lU, lU, lU, lU] []))
  subst hp20 hp21
  show own_Go p e below s _ _ _ (s₁.setTop (mkF m 0 #[lR a, lI 44, lI 1, lU, lU, lU, lU, lU, lU] []))
  refine own_via (fun _ k => XS.aloadN X0.here hx rfl (hb hby d16_0) rfl rfl k) ?_
  show own_Go p e below s _ _ _ (s₁.setTop (mkF m 1 #[lR a, lI 44, lI 1, lU, lU, lU, lU, lU, lU] [(.ref a)]))
  obtain ⟨T1, X1, e1, st1⟩ := getF X0 hx hZ hown (host := "") (Or.inl (hwi hw 59 rfl)) Via.refl e0 F_table_a (g := (mkF m 1 #[lR a, lI 44, lI 1, lU, lU, lU, lU, lU, lU] [(.ref a)])) rfl rfl (hb hby d16_1)
  refine own_via st1 ?_
  show own_Go p e below s _ _ _ (T1.setTop (mkF m 4 #[lR a, lI 44, lI 1, lU, lU, lU, lU, lU, lU] [(.ref bT_)]))
  refine own_via (fun _ k => XS.iloadN X1.here hx rfl (hb hby d16_4) rfl k) ?_
  show own_Go p e below s _ _ _ (T1.setTop (mkF m 5 #[lR a, lI 44, lI 1, lU, lU, lU, lU, lU, lU] [(.int (44 : Int32)), (.ref bT_)]))
  obtain ⟨cl2, Ar2, q2, S2, M2, H2, G2⟩ := (id V_bT_)
  have hin2 : ¬ ((44 : Int32) < 0 ∨ cl2.slots.size ≤ ((44 : Int32)).toNatClampNeg) := inb_of S2 ⟨by decide, by decide⟩
  have hat2 : cl2.slots[((44 : Int32)).toNatClampNeg]? = some (.int (0 : Int32)) := Has.at H2 hin2 hp23
  refine own_via (fun _ k => X1.iaload hx (j := (44 : Int32)) (v := (.int (0 : Int32))) (by rw [e1]; exact Ar2.1) (State.isArrayOf_alike hZ.alike Ar2.2.1) Ar2.2.2 hin2 hat2 (g := (mkF m 5 #[lR a, lI 44, lI 1, lU, lU, lU, lU, lU, lU] [(.int (44 : Int32)), (.ref bT_)])) rfl rfl (hb hby d16_5) _ k) ?_
  show own_Go p e below s _ _ _ (T1.setTop (mkF m 6 #[lR a, lI 44, lI 1, lU, lU, lU, lU, lU, lU] [(.int (0 : Int32))]))
  refine own_via (fun _ k => XS.ifNo X1.here hx rfl (hb hby d16_6) rfl (Jvm.Free.XT.i0_ne_f (by decide)) k) ?_
  show own_Go p e below s _ _ _ (T1.setTop (mkF m 9 #[lR a, lI 44, lI 1, lU, lU, lU, lU, lU, lU] []))
  refine own_via (fun _ k => XS.aloadN X1.here hx rfl (hb hby d16_9) rfl rfl k) ?_
  show own_Go p e below s _ _ _ (T1.setTop (mkF m 10 #[lR a, lI 44, lI 1, lU, lU, lU, lU, lU, lU] [(.ref a)]))
  refine own_via (fun _ k => XS.dup X1.here hx rfl (hb hby d16_10) rfl rfl k) ?_
  show own_Go p e below s _ _ _ (T1.setTop (mkF m 11 #[lR a, lI 44, lI 1, lU, lU, lU, lU, lU, lU] [(.ref a), (.ref a)]))
  obtain ⟨T3, X3, e3, st3⟩ := getF X1 hx hZ hown (host := "") (Or.inl (hwi hw 118 rfl)) Via.refl e1 F_held_a (g := (mkF m 11 #[lR a, lI 44, lI 1, lU, lU, lU, lU, lU, lU] [(.ref a), (.ref a)])) rfl rfl (hb hby d16_11)
  refine own_via st3 ?_
  show own_Go p e below s _ _ _ (T3.setTop (mkF m 14 #[lR a, lI 44, lI 1, lU, lU, lU, lU, lU, lU] [(.int (0 : Int32)), (.ref a)]))
  refine own_via (fun _ k => XS.iconst X3.here hx rfl (hb hby d16_14) k) ?_
  show own_Go p e below s _ _ _ (T3.setTop (mkF m 15 #[lR a, lI 44, lI 1, lU, lU, lU, lU, lU, lU] [(.int (1 : Int32)), (.int (0 : Int32)), (.ref a)]))
  refine own_via (fun _ k => XS.iadd X3.here hx rfl (hb hby d16_15) rfl k) ?_
  show own_Go p e below s _ _ _ (T3.setTop (mkF m 16 #[lR a, lI 44, lI 1, lU, lU, lU, lU, lU, lU] [(.int (1 : Int32)), (.ref a)]))
  obtain ⟨T4, h4, X4, e4, W4, st4⟩ := putF X3 hx hZ hown (host := "") (Or.inl (hwi hw 118 rfl)) Via.refl e3 F_held_a E_a (Or.inl (hwi hw 119 rfl)) (hwi hw 3 rfl) (ty := .int) (by decide) rfl rfl (g := (mkF m 16 #[lR a, lI 44, lI 1, lU, lU, lU, lU, lU, lU] [(.int (1 : Int32)), (.ref a)])) rfl rfl (hb hby d16_16)
  have N4 := Fr.snoc X4 N0 g_a
  have Fw4 := F_held_a.same W4
  have Z4 : n0 ≤ h4.size := Nat.le_trans Z0 (Keep.of_wr W4).1
  have K4 : Keep h0 h4 [a, bk_, bT_] := K0.wr W4 (Or.inl (List.mem_of_getElem? (i := 0) rfl))
  refine own_via st4 ?_
  show own_Go p e below s _ _ _ (T4.setTop (mkF m 19 #[lR a, lI 44, lI 1, lU, lU, lU, lU, lU, lU] []))
  refine own_via (fun _ k => XS.iloadN X4.here hx rfl (hb hby d16_19) rfl k) ?_
  show own_Go p e below s _ _ _ (T4.setTop (mkF m 20 #[lR a, lI 44, lI 1, lU, lU, lU, lU, lU, lU] [(.int (1 : Int32))]))
  refine own_via (fun _ k => XS.istoreN X4.here hx rfl (hb hby d16_20) rfl (l' := #[lR a, lI 44, lI 1, lI 1, lU, lU, lU, lU, lU]) rfl k) ?_
  show own_Go p e below s _ _ _ (T4.setTop (mkF m 21 #[lR a, lI 44, lI 1, lI 1, lU, lU, lU, lU, lU] []))
  refine own_via (fun _ k => XS.aloadN X4.here hx rfl (hb hby d16_21) rfl rfl k) ?_
  show own_Go p e below s _ _ _ (T4.setTop (mkF m 22 #[lR a, lI 44, lI 1, lI 1, lU, lU, lU, lU, lU] [(.ref a)]))
  have F5 := (F_table_a.other W4 (Or.inr (sn38 hw)))
  obtain ⟨T6, X6, e6, st6⟩ := getF X4 hx hZ hown (host := "") (Or.inl (hwi hw 59 rfl)) Via.refl e4 F5 (g := (mkF m 22 #[lR a, lI 44, lI 1, lI 1, lU, lU, lU, lU, lU] [(.ref a)])) rfl rfl (hb hby d16_22)
  refine own_via st6 ?_
  show own_Go p e below s _ _ _ (T6.setTop (mkF m 25 #[lR a, lI 44, lI 1, lI 1, lU, lU, lU, lU, lU] [(.ref bT_)]))
  refine own_via (fun _ k => XS.iloadN X6.here hx rfl (hb hby d16_25) rfl k) ?_
  show own_Go p e below s _ _ _ (T6.setTop (mkF m 26 #[lR a, lI 44, lI 1, lI 1, lU, lU, lU, lU, lU] [(.int (44 : Int32)), (.ref bT_)]))
  have F8 := (V_bT_.other W4 (Ne.symm ne_a_bT_))
  obtain ⟨cl7, Ar7, q7, S7, M7, H7, G7⟩ := (id F8)
  have hin7 : ¬ ((44 : Int32) < 0 ∨ cl7.slots.size ≤ ((44 : Int32)).toNatClampNeg) := inb_of S7 ⟨by decide, by decide⟩
  have hat7 : cl7.slots[((44 : Int32)).toNatClampNeg]? = some (.int (0 : Int32)) := Has.at H7 hin7 hp23
  refine own_via (fun _ k => X6.iaload hx (j := (44 : Int32)) (v := (.int (0 : Int32))) (by rw [e6]; exact Ar7.1) (State.isArrayOf_alike hZ.alike Ar7.2.1) Ar7.2.2 hin7 hat7 (g := (mkF m 26 #[lR a, lI 44, lI 1, lI 1, lU, lU, lU, lU, lU] [(.int (44 : Int32)), (.ref bT_)])) rfl rfl (hb hby d16_26) _ k) ?_
  show own_Go p e below s _ _ _ (T6.setTop (mkF m 27 #[lR a, lI 44, lI 1, lI 1, lU, lU, lU, lU, lU] [(.int (0 : Int32))]))
  refine own_via (fun _ k => XS.iconst X6.here hx rfl (hb hby d16_27) k) ?_
  show own_Go p e below s _ _ _ (T6.setTop (mkF m 28 #[lR a, lI 44, lI 1, lI 1, lU, lU, lU, lU, lU] [(.int (1 : Int32)), (.int (0 : Int32))]))
  refine own_via (fun _ k => XS.isub X6.here hx rfl (hb hby d16_28) rfl k) ?_
  show own_Go p e below s _ _ _ (T6.setTop (mkF m 29 #[lR a, lI 44, lI 1, lI 1, lU, lU, lU, lU, lU] [(.int (-1 : Int32))]))
  refine own_via (fun _ k => XS.istore X6.here hx rfl (hb hby d16_29) rfl (l' := #[lR a, lI 44, lI 1, lI 1, lI (-1), lU, lU, lU, lU]) rfl k) ?_
  show own_Go p e below s _ _ _ (T6.setTop (mkF m 31 #[lR a, lI 44, lI 1, lI 1, lI (-1), lU, lU, lU, lU] []))
  refine own_via (fun _ k => XS.iload X6.here hx rfl (hb hby d16_31) rfl k) ?_
  show own_Go p e below s _ _ _ (T6.setTop (mkF m 33 #[lR a, lI 44, lI 1, lI 1, lI (-1), lU, lU, lU, lU] [(.int (-1 : Int32))]))
  refine own_via (fun _ k => XS.ifYes X6.here hx rfl (pc0 := 33) (pc' := 101) rfl (hb hby d16_33) rfl (Jvm.Free.XT.i0_lt_t (by decide)) (by decide) (by decide) k) ?_
  show own_Go p e below s _ _ _ (T6.setTop (mkF m 101 #[lR a, lI 44, lI 1, lI 1, lI (-1), lU, lU, lU, lU] []))
  refine own_via (fun _ k => XS.aloadN X6.here hx rfl (hb hby d16_101) rfl rfl k) ?_
  show own_Go p e below s _ _ _ (T6.setTop (mkF m 102 #[lR a, lI 44, lI 1, lI 1, lI (-1), lU, lU, lU, lU] [(.ref a)]))
  have F9 := (F_nextKept_a.other W4 (Or.inr (sn39 hw)))
  obtain ⟨T10, X10, e10, st10⟩ := getF X6 hx hZ hown (host := "") (Or.inl (hwi hw 57 rfl)) Via.refl e6 F9 (g := (mkF m 102 #[lR a, lI 44, lI 1, lI 1, lI (-1), lU, lU, lU, lU] [(.ref a)])) rfl rfl (hb hby d16_102)
  refine own_via st10 ?_
  show own_Go p e below s _ _ _ (T10.setTop (mkF m 105 #[lR a, lI 44, lI 1, lI 1, lI (-1), lU, lU, lU, lU] [(.ref bk_)]))
  refine own_via (fun _ k => XS.iloadN X10.here hx rfl (hb hby d16_105) rfl k) ?_
  show own_Go p e below s _ _ _ (T10.setTop (mkF m 106 #[lR a, lI 44, lI 1, lI 1, lI (-1), lU, lU, lU, lU] [(.int (1 : Int32)), (.ref bk_)]))
  refine own_via (fun _ k => XS.iconst X10.here hx rfl (hb hby d16_106) k) ?_
  show own_Go p e below s _ _ _ (T10.setTop (mkF m 107 #[lR a, lI 44, lI 1, lI 1, lI (-1), lU, lU, lU, lU] [(.int (-1 : Int32)), (.int (1 : Int32)), (.ref bk_)]))
  have F12 := (V_bk_.other W4 (Ne.symm ne_a_bk_))
  obtain ⟨cl11, Ar11, q11, S11, M11, H11, G11⟩ := (id F12)
  have hin11 : ¬ ((1 : Int32) < 0 ∨ cl11.slots.size ≤ ((1 : Int32)).toNatClampNeg) := inb_of S11 ⟨by decide, by decide⟩
  obtain ⟨T11, h11, X11, e11, W11, st11⟩ := stI X10 hx hZ e10 Ar11 (j := (1 : Int32)) hin11 (g := (mkF m 107 #[lR a, lI 44, lI 1, lI 1, lI (-1), lU, lU, lU, lU] [(.int (-1 : Int32)), (.int (1 : Int32)), (.ref bk_)])) rfl rfl (hb hby d16_107)
  have V11 : Arv Z h11 bk_ kk_ .int (64 : Int32) [(.int (0 : Int32)), (.int (-1 : Int32)), (.int (0 : Int32)), (.int (0 : Int32))] (.int (0 : Int32)) := Arv.set Ar11 q11 S11 M11 H11 G11 rfl W11 1 rfl (Nat.le_of_ble_eq_true rfl)
  have N11 := Fr.snoc X11 N4 g_bk_
  have Z11 : n0 ≤ h11.size := Nat.le_trans Z4 (Keep.of_wr W11).1
  have K11 : Keep h0 h11 [a, bk_, bT_] := K4.wr W11 (Or.inl (List.mem_of_getElem? (i := 1) rfl))
  refine own_via st11 ?_
  show own_Go p e below s _ _ _ (T11.setTop (mkF m 108 #[lR a, lI 44, lI 1, lI 1, lI (-1), lU, lU, lU, lU] []))
  refine own_via (fun _ k => XS.aloadN X11.here hx rfl (hb hby d16_108) rfl rfl k) ?_
  show own_Go p e below s _ _ _ (T11.setTop (mkF m 109 #[lR a, lI 44, lI 1, lI 1, lI (-1), lU, lU, lU, lU] [(.ref a)]))
  have F13 := (F5.other W11 (Or.inl ne_a_bk_))
  obtain ⟨T14, X14, e14, st14⟩ := getF X11 hx hZ hown (host := "") (Or.inl (hwi hw 59 rfl)) Via.refl e11 F13 (g := (mkF m 109 #[lR a, lI 44, lI 1, lI 1, lI (-1), lU, lU, lU, lU] [(.ref a)])) rfl rfl (hb hby d16_109)
  refine own_via st14 ?_
  show own_Go p e below s _ _ _ (T14.setTop (mkF m 112 #[lR a, lI 44, lI 1, lI 1, lI (-1), lU, lU, lU, lU] [(.ref bT_)]))
  refine own_via (fun _ k => XS.iloadN X14.here hx rfl (hb hby d16_112) rfl k) ?_
  show own_Go p e below s _ _ _ (T14.setTop (mkF m 113 #[lR a, lI 44, lI 1, lI 1, lI (-1), lU, lU, lU, lU] [(.int (44 : Int32)), (.ref bT_)]))
  refine own_via (fun _ k => XS.iloadN X14.here hx rfl (hb hby d16_113) rfl k) ?_
  show own_Go p e below s _ _ _ (T14.setTop (mkF m 114 #[lR a, lI 44, lI 1, lI 1, lI (-1), lU, lU, lU, lU] [(.int (1 : Int32)), (.int (44 : Int32)), (.ref bT_)]))
  refine own_via (fun _ k => XS.iconst X14.here hx rfl (hb hby d16_114) k) ?_
  show own_Go p e below s _ _ _ (T14.setTop (mkF m 115 #[lR a, lI 44, lI 1, lI 1, lI (-1), lU, lU, lU, lU] [(.int (1 : Int32)), (.int (1 : Int32)), (.int (44 : Int32)), (.ref bT_)]))
  refine own_via (fun _ k => XS.iadd X14.here hx rfl (hb hby d16_115) rfl k) ?_
  show own_Go p e below s _ _ _ (T14.setTop (mkF m 116 #[lR a, lI 44, lI 1, lI 1, lI (-1), lU, lU, lU, lU] [(.int (2 : Int32)), (.int (44 : Int32)), (.ref bT_)]))
  have F16 := (F8.other W11 (Ne.symm ne_bk__bT_))
  obtain ⟨cl15, Ar15, q15, S15, M15, H15, G15⟩ := (id F16)
  have hin15 : ¬ ((44 : Int32) < 0 ∨ cl15.slots.size ≤ ((44 : Int32)).toNatClampNeg) := inb_of S15 ⟨by decide, by decide⟩
  obtain ⟨T15, h15, X15, e15, W15, st15⟩ := stI X14 hx hZ e14 Ar15 (j := (44 : Int32)) hin15 (g := (mkF m 116 #[lR a, lI 44, lI 1, lI 1, lI (-1), lU, lU, lU, lU] [(.int (2 : Int32)), (.int (44 : Int32)), (.ref bT_)])) rfl rfl (hb hby d16_116)
  have V15 : Arv Z h15 bT_ kT_ .int (128 : Int32) (vT_.set 44 (.int (2 : Int32))) (.int (0 : Int32)) := Arv.set Ar15 q15 S15 M15 H15 G15 rfl W15 44 rfl (by rw [hp22]; decide)
  have N15 := Fr.snoc X15 N11 g_bT_
  have Z15 : n0 ≤ h15.size := Nat.le_trans Z11 (Keep.of_wr W15).1
  have K15 : Keep h0 h15 [a, bk_, bT_] := K11.wr W15 (Or.inl (List.mem_of_getElem? (i := 2) rfl))
  refine own_via st15 ?_
  show own_Go p e below s _ _ _ (T15.setTop (mkF m 117 #[lR a, lI 44, lI 1, lI 1, lI (-1), lU, lU, lU, lU] []))
  refine own_via (fun _ k => XS.iconst X15.here hx rfl (hb hby d16_117) k) ?_
  show own_Go p e below s _ _ _ (T15.setTop (mkF m 118 #[lR a, lI 44, lI 1, lI 1, lI (-1), lU, lU, lU, lU] [(.int (2 : Int32))]))
  refine own_via (fun _ k => XS.aloadN X15.here hx rfl (hb hby d16_118) rfl rfl k) ?_
  show own_Go p e below s _ _ _ (T15.setTop (mkF m 119 #[lR a, lI 44, lI 1, lI 1, lI (-1), lU, lU, lU, lU] [(.ref a), (.int (2 : Int32))]))
  have F17 := ((Fw4.other W11 (Or.inl ne_a_bk_)).other W15 (Or.inl ne_a_bT_))
  obtain ⟨T18, X18, e18, st18⟩ := getF X15 hx hZ hown (host := "") (Or.inl (hwi hw 118 rfl)) Via.refl e15 F17 (g := (mkF m 119 #[lR a, lI 44, lI 1, lI 1, lI (-1), lU, lU, lU, lU] [(.ref a), (.int (2 : Int32))])) rfl rfl (hb hby d16_119)
  refine own_via st18 ?_
  show own_Go p e below s _ _ _ (T18.setTop (mkF m 122 #[lR a, lI 44, lI 1, lI 1, lI (-1), lU, lU, lU, lU] [(.int (1 : Int32)), (.int (2 : Int32))]))
  refine own_via (fun _ k => XS.imul X18.here hx rfl (hb hby d16_122) rfl k) ?_
  show own_Go p e below s _ _ _ (T18.setTop (mkF m 123 #[lR a, lI 44, lI 1, lI 1, lI (-1), lU, lU, lU, lU] [(.int (2 : Int32))]))
  refine own_via (fun _ k => XS.aloadN X18.here hx rfl (hb hby d16_123) rfl rfl k) ?_
  show own_Go p e below s _ _ _ (T18.setTop (mkF m 124 #[lR a, lI 44, lI 1, lI 1, lI (-1), lU, lU, lU, lU] [(.ref a), (.int (2 : Int32))]))
  have F19 := (F13.other W15 (Or.inl ne_a_bT_))
  obtain ⟨T20, X20, e20, st20⟩ := getF X18 hx hZ hown (host := "") (Or.inl (hwi hw 59 rfl)) Via.refl e18 F19 (g := (mkF m 124 #[lR a, lI 44, lI 1, lI 1, lI (-1), lU, lU, lU, lU] [(.ref a), (.int (2 : Int32))])) rfl rfl (hb hby d16_124)
  refine own_via st20 ?_
  show own_Go p e below s _ _ _ (T20.setTop (mkF m 127 #[lR a, lI 44, lI 1, lI 1, lI (-1), lU, lU, lU, lU] [(.ref bT_), (.int (2 : Int32))]))
  obtain ⟨cl21, Ar21, q21, S21, M21, H21, G21⟩ := (id V15)
  refine own_via (fun _ k => X20.arraylength hx (by rw [e20]; exact Ar21.1) (State.isArrayOf_alike hZ.alike Ar21.2.1) (g := (mkF m 127 #[lR a, lI 44, lI 1, lI 1, lI (-1), lU, lU, lU, lU] [(.ref bT_), (.int (2 : Int32))])) rfl rfl (hb hby d16_127) _ (by rw [len_of S21 M21]; exact k)) ?_
  show own_Go p e below s _ _ _ (T20.setTop (mkF m 128 #[lR a, lI 44, lI 1, lI 1, lI (-1), lU, lU, lU, lU] [(.int (128 : Int32)), (.int (2 : Int32))]))
  refine own_via (fun _ k => XS.icmpYes X20.here hx rfl (pc0 := 128) (pc' := 208) rfl (hb hby d16_128) rfl (Jvm.Free.XT.ii_le_t (by decide)) (by decide) (by decide) k) ?_
  show own_Go p e below s _ _ _ (T20.setTop (mkF m 208 #[lR a, lI 44, lI 1, lI 1, lI (-1), lU, lU, lU, lU] []))
  have F22 := (((E_a.wr W4).wr W11).wr W15)
  have F23 := (((F_lengthLimit_a.other W4 (Or.inr (sn40 hw))).other W11 (Or.inl ne_a_bk_)).other W15 (Or.inl ne_a_bT_))
  have F24 := (((F_costs_a.other W4 (Or.inr (sn41 hw))).other W11 (Or.inl ne_a_bk_)).other W15 (Or.inl ne_a_bT_))
  have F25 := (((F_lengths_a.other W4 (Or.inr (sn42 hw))).other W11 (Or.inl ne_a_bk_)).other W15 (Or.inl ne_a_bT_))
  have F26 := (((F_superseded_a.other W4 (Or.inr (sn43 hw))).other W11 (Or.inl ne_a_bk_)).other W15 (Or.inl ne_a_bT_))
  have F27 := ((F9.other W11 (Or.inl ne_a_bk_)).other W15 (Or.inl ne_a_bT_))
  have F28 := (((F_frontierCosts_a.other W4 (Or.inr (sn44 hw))).other W11 (Or.inl ne_a_bk_)).other W15 (Or.inl ne_a_bT_))
  have F29 := (((F_frontierRanks_a.other W4 (Or.inr (sn45 hw))).other W11 (Or.inl ne_a_bk_)).other W15 (Or.inl ne_a_bT_))
  have F30 := (((F_waiting_a.other W4 (Or.inr (sn46 hw))).other W11 (Or.inl ne_a_bk_)).other W15 (Or.inl ne_a_bT_))
  have F31 := (((F_waitingWithin_a.other W4 (Or.inr (sn47 hw))).other W11 (Or.inl ne_a_bk_)).other W15 (Or.inl ne_a_bT_))
  have F32 := (V11.other W15 ne_bk__bT_)
  exact own_goV X20 hx Bd.returns (hb hby d16_208) Bd.notSynchronized (by decide) (by decide) (by rw [e20]; exact ⟨(vT_.set 44 (.int (2 : Int32))), rfl, N15, K15, F22, F23, F24, F25, F26, F27, F19, F28, F29, F30, F31, F17, V15, F32, (by rw [List.length_set]; exact hp22), (own_g44 hp22)⟩)
theorem d16_36 : decode prog_59_method_15_code 36 = .ok (.aload_n 0, 1) := by decide +kernel
theorem d16_37 : decode prog_59_method_15_code 37 = .ok (.aload_n 0, 1) := by decide +kernel
theorem d16_38 : decode prog_59_method_15_code 38 = .ok (.getfield 49, 3) := by decide +kernel
theorem d16_41 : decode prog_59_method_15_code 41 = .ok (.iload_n 2, 1) := by decide +kernel
theorem d16_42 : decode prog_59_method_15_code 42 = .ok (.daload, 1) := by decide +kernel
theorem d16_43 : decode prog_59_method_15_code 43 = .ok (.aload_n 0, 1) := by decide +kernel
theorem d16_44 : decode prog_59_method_15_code 44 = .ok (.getfield 56, 3) := by decide +kernel
theorem d16_47 : decode prog_59_method_15_code 47 = .ok (.iload_n 2, 1) := by decide +kernel
theorem d16_48 : decode prog_59_method_15_code 48 = .ok (.iaload, 1) := by decide +kernel
theorem d16_49 : decode prog_59_method_15_code 49 = .ok (.aload_n 0, 1) := by decide +kernel
theorem d16_50 : decode prog_59_method_15_code 50 = .ok (.getfield 49, 3) := by decide +kernel
theorem d16_53 : decode prog_59_method_15_code 53 = .ok (.iload 4, 2) := by decide +kernel
theorem d16_55 : decode prog_59_method_15_code 55 = .ok (.daload, 1) := by decide +kernel
theorem d16_56 : decode prog_59_method_15_code 56 = .ok (.aload_n 0, 1) := by decide +kernel
theorem d16_57 : decode prog_59_method_15_code 57 = .ok (.getfield 56, 3) := by decide +kernel
theorem d16_60 : decode prog_59_method_15_code 60 = .ok (.iload 4, 2) := by decide +kernel
theorem d16_62 : decode prog_59_method_15_code 62 = .ok (.iaload, 1) := by decide +kernel
theorem pd_6 : parseMethodDescriptor "(DIDI)Z" = some ⟨[.double, .int, .double, .int], some .boolean⟩ := by decide +kernel
theorem d16_63 : decode prog_59_method_15_code 63 = .ok (.invokevirtual 110, 3) := by decide +kernel
theorem d16_66 : decode prog_59_method_15_code 66 = .ok (.ifCond .eq 12, 3) := by decide +kernel
theorem d16_69 : decode prog_59_method_15_code 69 = .ok (.aload_n 0, 1) := by decide +kernel
theorem d16_70 : decode prog_59_method_15_code 70 = .ok (.iload 4, 2) := by decide +kernel
theorem pd_7 : parseMethodDescriptor "(I)V" = some ⟨[.int], none⟩ := by decide +kernel
theorem d16_72 : decode prog_59_method_15_code 72 = .ok (.invokevirtual 117, 3) := by decide +kernel
theorem d16_75 : decode prog_59_method_15_code 75 = .ok (.goto 14, 3) := by decide +kernel
theorem d16_89 : decode prog_59_method_15_code 89 = .ok (.aload_n 0, 1) := by decide +kernel
theorem d16_90 : decode prog_59_method_15_code 90 = .ok (.getfield 70, 3) := by decide +kernel
theorem d16_93 : decode prog_59_method_15_code 93 = .ok (.iload 4, 2) := by decide +kernel
theorem d16_95 : decode prog_59_method_15_code 95 = .ok (.iaload, 1) := by decide +kernel
theorem d16_96 : decode prog_59_method_15_code 96 = .ok (.istore 4, 2) := by decide +kernel
theorem d16_98 : decode prog_59_method_15_code 98 = .ok (.goto (-67), 3) := by decide +kernel
theorem ef_kB (m : MethodId) (x0 : Addr) (x1 : Int32) (x2 : Int32) : entryFrame m #[(.ref x0), (.int x1), (.int x2)] 9 = mkF m 0 #[.val (.ref x0), .val (.int x1), .val (.int x2), .unset, .unset, .unset, .unset, .unset, .unset] [] := by first | (simp [entryFrame, mkF, argsToLocals, Value.category]; done) | rfl
def QkB (Z : State) (a : Addr) (ps_ : Int32) (n_ : Int32) (ll_ : Int64) (ww_ : Int64) (wt_ : Int32) (u_ : Int32) (u2_ : Int32) (dx_ : UInt64) (dy_ : UInt64) (x_ : Int32) (y_ : Int32) (bc_ : Addr) (bl_ : Addr) (bz_ : Addr) (bk_ : Addr) (bT_ : Addr) (bf_ : Addr) (br_ : Addr) (kT_ : ClassId) (kk_ : ClassId) (kc_ : ClassId) (kl_ : ClassId) (kz_ : ClassId) (vT_ : List Value) (vbc_ : List Value) (vbl_ : List Value) (h0 : Heap) (n0 : Nat) (v : Option Value) (h : Heap) (L : List Loc) : Prop := v = none ∧ Fr n0 L ∧ Keep h0 h [a, bk_, bT_, bz_] ∧ Exa Z h a "com/example/trajectory/trajectory/search/Nodes" ∧ Fld Z h a "com/example/trajectory/trajectory/search/Nodes" "lengthLimit" "J" (.long ll_) ∧ Fld Z h a "com/example/trajectory/trajectory/search/Nodes" "lengths" "[I" (.ref bl_) ∧ Fld Z h a "com/example/trajectory/trajectory/search/Nodes" "superseded" "[Z" (.ref bz_) ∧ Fld Z h a "com/example/trajectory/trajectory/search/Nodes" "frontierCosts" "[D" (.ref bf_) ∧ Fld Z h a "com/example/trajectory/trajectory/search/Nodes" "frontierRanks" "[J" (.ref br_) ∧ Fld Z h a "com/example/trajectory/trajectory/search/Nodes" "waiting" "I" (.int wt_) ∧ Fld Z h a "com/example/trajectory/trajectory/search/Nodes" "waitingWithin" "J" (.long (own_dec ww_ u_ ll_)) ∧ Arv Z h bz_ kz_ .boolean (64 : Int32) [(.int (0 : Int32)), (.int (1 : Int32)), (.int (0 : Int32)), (.int (0 : Int32))] (.int (0 : Int32))
set_option maxRecDepth 65536 in
set_option maxHeartbeats 40000000 in
theorem rmkB (l : Launch) (Z : State) (a0 : Array Value) (hw : ∀ d ∈ tables_1, d.before a0 Z = true) (ws : List Jvm.Cond) (a : Addr) (ps_ : Int32) (n_ : Int32) (ll_ : Int64) (ww_ : Int64) (wt_ : Int32) (u_ : Int32) (u2_ : Int32) (dx_ : UInt64) (dy_ : UInt64) (x_ : Int32) (y_ : Int32) (bc_ : Addr) (bl_ : Addr) (bz_ : Addr) (bk_ : Addr) (bT_ : Addr) (bf_ : Addr) (br_ : Addr) (kT_ : ClassId) (kk_ : ClassId) (kc_ : ClassId) (kl_ : ClassId) (kz_ : ClassId) (vT_ : List Value) (vbc_ : List Value) (vbl_ : List Value) (h0 : Heap) (n0 : Nat) (Z0 : n0 ≤ h0.size) (E_a : Exa Z h0 a "com/example/trajectory/trajectory/search/Nodes") (F_lengthLimit_a : Fld Z h0 a "com/example/trajectory/trajectory/search/Nodes" "lengthLimit" "J" (.long ll_)) (F_costs_a : Fld Z h0 a "com/example/trajectory/trajectory/search/Nodes" "costs" "[D" (.ref bc_)) (F_lengths_a : Fld Z h0 a "com/example/trajectory/trajectory/search/Nodes" "lengths" "[I" (.ref bl_)) (F_superseded_a : Fld Z h0 a "com/example/trajectory/trajectory/search/Nodes" "superseded" "[Z" (.ref bz_)) (F_nextKept_a : Fld Z h0 a "com/example/trajectory/trajectory/search/Nodes" "nextKept" "[I" (.ref bk_)) (F_table_a : Fld Z h0 a "com/example/trajectory/trajectory/search/Nodes" "table" "[I" (.ref bT_)) (F_frontierCosts_a : Fld Z h0 a "com/example/trajectory/trajectory/search/Nodes" "frontierCosts" "[D" (.ref bf_)) (F_frontierRanks_a : Fld Z h0 a "com/example/trajectory/trajectory/search/Nodes" "frontierRanks" "[J" (.ref br_)) (F_waiting_a : Fld Z h0 a "com/example/trajectory/trajectory/search/Nodes" "waiting" "I" (.int wt_)) (F_waitingWithin_a : Fld Z h0 a "com/example/trajectory/trajectory/search/Nodes" "waitingWithin" "J" (.long ww_)) (F_held_a : Fld Z h0 a "com/example/trajectory/trajectory/search/Nodes" "held" "I" (.int (1 : Int32))) (V_bT_ : Arv Z h0 bT_ kT_ .int (128 : Int32) vT_ (.int (0 : Int32))) (V_bk_ : Arv Z h0 bk_ kk_ .int (64 : Int32) [(.int (0 : Int32)), (.int (-1 : Int32)), (.int (0 : Int32)), (.int (0 : Int32))] (.int (0 : Int32))) (V_bc_ : Arv Z h0 bc_ kc_ .double (64 : Int32) vbc_ (.double (0 : UInt64))) (V_bl_ : Arv Z h0 bl_ kl_ .int (64 : Int32) vbl_ (.int (0 : Int32))) (V_bz_ : Arv Z h0 bz_ kz_ .boolean (64 : Int32) [(.int (0 : Int32)), (.int (0 : Int32)), (.int (0 : Int32)), (.int (0 : Int32))] (.int (0 : Int32))) (g_a : n0 ≤ a) (g_bk_ : n0 ≤ bk_) (g_bT_ : n0 ≤ bT_) (g_bz_ : n0 ≤ bz_) (ne_a_bk_ : a ≠ bk_) (ne_a_bT_ : a ≠ bT_) (ne_a_bz_ : a ≠ bz_) (ne_bk__bT_ : bk_ ≠ bT_) (ne_bk__bz_ : bk_ ≠ bz_) (ne_bT__bz_ : bT_ ≠ bz_) (ne_bl__bz_ : bl_ ≠ bz_) (hp28 : ps_ = (44 : Int32)) (hp29 : n_ = (2 : Int32)) (hp30 : vT_.length = 45) (hp31 : vT_.getD ((44 : Int32)).toNatClampNeg (.int (0 : Int32)) = (.int (2 : Int32))) (hp32 : vbc_.getD ((2 : Int32)).toNatClampNeg (.double (0 : UInt64)) = (.double dy_)) (hp33 : vbc_.getD ((1 : Int32)).toNatClampNeg (.double (0 : UInt64)) = (.double dx_)) (hp34 : vbl_.getD ((2 : Int32)).toNatClampNeg (.int (0 : Int32)) = (.int u2_)) (hp35 : vbl_.getD ((1 : Int32)).toNatClampNeg (.int (0 : Int32)) = (.int u_)) (hp36 : ¬ x_ < y_) (hp37 : ¬ u_ < u2_) (hp38 : dy_ = FP.i2d y_) (hp39 : dx_ = FP.i2d x_) :
    MetFree l (⟨"com/example/trajectory/trajectory/search/Nodes", "keep", "(II)V"⟩ : MethodName) (head1 (Jvm.Cond.code (⟨"com/example/trajectory/trajectory/search/Nodes", "keep", "(II)V"⟩ : MethodName) prog_59_method_15_code 9 none :: ws) ({ frames := 2, cells := 0, slots := 0, locals := 26 } : Room)) (fun q_ U => q_ = #[(.ref a), (.int ps_), (.int n_)] ∧ Z.Warmed39 U.vm ∧ U.heap = h0) (fun _ _ _ _ _ => True) (fun _ U o U' => ∃ v L, o = .returned v ∧ QkB Z a ps_ n_ ll_ ww_ wt_ u_ u2_ dx_ dy_ x_ y_ bc_ bl_ bz_ bk_ bT_ bf_ br_ kT_ kk_ kc_ kl_ kz_ vT_ vbc_ vbl_ h0 n0 v U'.heap L ∧ FrameEnd U o U' L ({ frames := 2, cells := 0, slots := 0, locals := 26 } : Room).cells ({ frames := 2, cells := 0, slots := 0, locals := 26 } : Room).slots) := by
  refine MetFree.of_bodySF (plainFor_of_name pn_1) hisR ?_
  intro p e s m args below meth c s₁ Bd hml0 hP hK
  obtain ⟨rfl, hZ, hh⟩ := hP
  have hx := Bd.exec
  have hby := Bd.bytes
  have hml : c.maxLocals = 9 := hml0
  have hown : s.vm.findClass "com/example/trajectory/trajectory/search/Nodes" = some m.cls := findClass_of_methodNamed Bd.named
  have hnm := (name_of_methodNamed Bd.named Bd.method).1
  have X0 : Stand p l e ({ frames := 2, cells := 0, slots := 0, locals := 26 } : Room) s m #[(.ref a), (.int ps_), (.int n_)] below meth c s₁ [] 0 0 := Stand.of_body Bd
  have e0 : s₁.heap = h0 := by rw [← hh, Bd.state]; rfl
  have N0 := Fr.nil n0
  show own_Go p e below s (QkB Z a ps_ n_ ll_ ww_ wt_ u_ u2_ dx_ dy_ x_ y_ bc_ bl_ bz_ bk_ bT_ bf_ br_ kT_ kk_ kc_ kl_ kz_ vT_ vbc_ vbl_ h0 n0) ({ frames := 2, cells := 0, slots := 0, locals := 26 } : Room).cells ({ frames := 2, cells := 0, slots := 0, locals := 26 } : Room).slots (s₁.setTop (entryFrame m #[(.ref a), (.int ps_), (.int n_)] 9))
  refine own_via (fun t k => castTop (ef_kB m a ps_ n_) k) ?_
  have K0 : Keep h0 h0 [a, bk_, bT_, bz_] := Keep.refl _ _
  show own_Go p e below s _ _ _ (s₁.setTop (mkF m 0 #[lR a, lI ps_, lI n_, lU, lU, lU, lU, lU, lU] []))
  subst hp28 hp29
  show own_Go p e below s _ _ _ (s₁.setTop (mkF m 0 #[lR a, lI 44, lI 2, lU, lU, lU, lU, lU, lU] []))
  refine own_via (fun _ k => XS.aloadN X0.here hx rfl (hb hby d16_0) rfl rfl k) ?_
  show own_Go p e below s _ _ _ (s₁.setTop (mkF m 1 #[lR a, lI 44, lI 2, lU, lU, lU, lU, lU, lU] [(.ref a)]))
  obtain ⟨T1, X1, e1, st1⟩ := getF X0 hx hZ hown (host := "") (Or.inl (hwi hw 59 rfl)) Via.refl e0 F_table_a (g := (mkF m 1 #[lR a, lI 44, lI 2, lU, lU, lU, lU, lU, lU] [(.ref a)])) rfl rfl (hb hby d16_1)
  refine own_via st1 ?_
  show own_Go p e below s _ _ _ (T1.setTop (mkF m 4 #[lR a, lI 44, lI 2, lU, lU, lU, lU, lU, lU] [(.ref bT_)]))
  refine own_via (fun _ k => XS.iloadN X1.here hx rfl (hb hby d16_4) rfl k) ?_
  show own_Go p e below s _ _ _ (T1.setTop (mkF m 5 #[lR a, lI 44, lI 2, lU, lU, lU, lU, lU, lU] [(.int (44 : Int32)), (.ref bT_)]))
  obtain ⟨cl2, Ar2, q2, S2, M2, H2, G2⟩ := (id V_bT_)
  have hin2 : ¬ ((44 : Int32) < 0 ∨ cl2.slots.size ≤ ((44 : Int32)).toNatClampNeg) := inb_of S2 ⟨by decide, by decide⟩
  have hat2 : cl2.slots[((44 : Int32)).toNatClampNeg]? = some (.int (2 : Int32)) := Has.at H2 hin2 hp31
  refine own_via (fun _ k => X1.iaload hx (j := (44 : Int32)) (v := (.int (2 : Int32))) (by rw [e1]; exact Ar2.1) (State.isArrayOf_alike hZ.alike Ar2.2.1) Ar2.2.2 hin2 hat2 (g := (mkF m 5 #[lR a, lI 44, lI 2, lU, lU, lU, lU, lU, lU] [(.int (44 : Int32)), (.ref bT_)])) rfl rfl (hb hby d16_5) _ k) ?_
  show own_Go p e below s _ _ _ (T1.setTop (mkF m 6 #[lR a, lI 44, lI 2, lU, lU, lU, lU, lU, lU] [(.int (2 : Int32))]))
  refine own_via (fun _ k => XS.ifYes X1.here hx rfl (pc0 := 6) (pc' := 19) rfl (hb hby d16_6) rfl (Jvm.Free.XT.i0_ne_t (by decide)) (by decide) (by decide) k) ?_
  show own_Go p e below s _ _ _ (T1.setTop (mkF m 19 #[lR a, lI 44, lI 2, lU, lU, lU, lU, lU, lU] []))
  refine own_via (fun _ k => XS.iloadN X1.here hx rfl (hb hby d16_19) rfl k) ?_
  show own_Go p e below s _ _ _ (T1.setTop (mkF m 20 #[lR a, lI 44, lI 2, lU, lU, lU, lU, lU, lU] [(.int (2 : Int32))]))
  refine own_via (fun _ k => XS.istoreN X1.here hx rfl (hb hby d16_20) rfl (l' := #[lR a, lI 44, lI 2, lI 2, lU, lU, lU, lU, lU]) rfl k) ?_
  show own_Go p e below s _ _ _ (T1.setTop (mkF m 21 #[lR a, lI 44, lI 2, lI 2, lU, lU, lU, lU, lU] []))
  refine own_via (fun _ k => XS.aloadN X1.here hx rfl (hb hby d16_21) rfl rfl k) ?_
  show own_Go p e below s _ _ _ (T1.setTop (mkF m 22 #[lR a, lI 44, lI 2, lI 2, lU, lU, lU, lU, lU] [(.ref a)]))
  obtain ⟨T3, X3, e3, st3⟩ := getF X1 hx hZ hown (host := "") (Or.inl (hwi hw 59 rfl)) Via.refl e1 F_table_a (g := (mkF m 22 #[lR a, lI 44, lI 2, lI 2, lU, lU, lU, lU, lU] [(.ref a)])) rfl rfl (hb hby d16_22)
  refine own_via st3 ?_
  show own_Go p e below s _ _ _ (T3.setTop (mkF m 25 #[lR a, lI 44, lI 2, lI 2, lU, lU, lU, lU, lU] [(.ref bT_)]))
  refine own_via (fun _ k => XS.iloadN X3.here hx rfl (hb hby d16_25) rfl k) ?_
  show own_Go p e below s _ _ _ (T3.setTop (mkF m 26 #[lR a, lI 44, lI 2, lI 2, lU, lU, lU, lU, lU] [(.int (44 : Int32)), (.ref bT_)]))
  obtain ⟨cl4, Ar4, q4, S4, M4, H4, G4⟩ := (id V_bT_)
  have hin4 : ¬ ((44 : Int32) < 0 ∨ cl4.slots.size ≤ ((44 : Int32)).toNatClampNeg) := inb_of S4 ⟨by decide, by decide⟩
  have hat4 : cl4.slots[((44 : Int32)).toNatClampNeg]? = some (.int (2 : Int32)) := Has.at H4 hin4 hp31
  refine own_via (fun _ k => X3.iaload hx (j := (44 : Int32)) (v := (.int (2 : Int32))) (by rw [e3]; exact Ar4.1) (State.isArrayOf_alike hZ.alike Ar4.2.1) Ar4.2.2 hin4 hat4 (g := (mkF m 26 #[lR a, lI 44, lI 2, lI 2, lU, lU, lU, lU, lU] [(.int (44 : Int32)), (.ref bT_)])) rfl rfl (hb hby d16_26) _ k) ?_
  show own_Go p e below s _ _ _ (T3.setTop (mkF m 27 #[lR a, lI 44, lI 2, lI 2, lU, lU, lU, lU, lU] [(.int (2 : Int32))]))
  refine own_via (fun _ k => XS.iconst X3.here hx rfl (hb hby d16_27) k) ?_
  show own_Go p e below s _ _ _ (T3.setTop (mkF m 28 #[lR a, lI 44, lI 2, lI 2, lU, lU, lU, lU, lU] [(.int (1 : Int32)), (.int (2 : Int32))]))
  refine own_via (fun _ k => XS.isub X3.here hx rfl (hb hby d16_28) rfl k) ?_
  show own_Go p e below s _ _ _ (T3.setTop (mkF m 29 #[lR a, lI 44, lI 2, lI 2, lU, lU, lU, lU, lU] [(.int (1 : Int32))]))
  refine own_via (fun _ k => XS.istore X3.here hx rfl (hb hby d16_29) rfl (l' := #[lR a, lI 44, lI 2, lI 2, lI 1, lU, lU, lU, lU]) rfl k) ?_
  show own_Go p e below s _ _ _ (T3.setTop (mkF m 31 #[lR a, lI 44, lI 2, lI 2, lI 1, lU, lU, lU, lU] []))
  refine own_via (fun _ k => XS.iload X3.here hx rfl (hb hby d16_31) rfl k) ?_
  show own_Go p e below s _ _ _ (T3.setTop (mkF m 33 #[lR a, lI 44, lI 2, lI 2, lI 1, lU, lU, lU, lU] [(.int (1 : Int32))]))
  refine own_via (fun _ k => XS.ifNo X3.here hx rfl (hb hby d16_33) rfl (Jvm.Free.XT.i0_lt_f (by decide)) k) ?_
  show own_Go p e below s _ _ _ (T3.setTop (mkF m 36 #[lR a, lI 44, lI 2, lI 2, lI 1, lU, lU, lU, lU] []))
  refine own_via (fun _ k => XS.aloadN X3.here hx rfl (hb hby d16_36) rfl rfl k) ?_
  show own_Go p e below s _ _ _ (T3.setTop (mkF m 37 #[lR a, lI 44, lI 2, lI 2, lI 1, lU, lU, lU, lU] [(.ref a)]))
  refine own_via (fun _ k => XS.aloadN X3.here hx rfl (hb hby d16_37) rfl rfl k) ?_
  show own_Go p e below s _ _ _ (T3.setTop (mkF m 38 #[lR a, lI 44, lI 2, lI 2, lI 1, lU, lU, lU, lU] [(.ref a), (.ref a)]))
  obtain ⟨T5, X5, e5, st5⟩ := getF X3 hx hZ hown (host := "") (Or.inl (hwi hw 43 rfl)) Via.refl e3 F_costs_a (g := (mkF m 38 #[lR a, lI 44, lI 2, lI 2, lI 1, lU, lU, lU, lU] [(.ref a), (.ref a)])) rfl rfl (hb hby d16_38)
  refine own_via st5 ?_
  show own_Go p e below s _ _ _ (T5.setTop (mkF m 41 #[lR a, lI 44, lI 2, lI 2, lI 1, lU, lU, lU, lU] [(.ref bc_), (.ref a)]))
  refine own_via (fun _ k => XS.iloadN X5.here hx rfl (hb hby d16_41) rfl k) ?_
  show own_Go p e below s _ _ _ (T5.setTop (mkF m 42 #[lR a, lI 44, lI 2, lI 2, lI 1, lU, lU, lU, lU] [(.int (2 : Int32)), (.ref bc_), (.ref a)]))
  obtain ⟨cl6, Ar6, q6, S6, M6, H6, G6⟩ := (id V_bc_)
  have hin6 : ¬ ((2 : Int32) < 0 ∨ cl6.slots.size ≤ ((2 : Int32)).toNatClampNeg) := inb_of S6 ⟨by decide, by decide⟩
  have hat6 : cl6.slots[((2 : Int32)).toNatClampNeg]? = some (.double dy_) := Has.at H6 hin6 hp32
  refine own_via (fun _ k => X5.daload hx (j := (2 : Int32)) (v := (.double dy_)) (by rw [e5]; exact Ar6.1) (State.isArrayOf_alike hZ.alike Ar6.2.1) Ar6.2.2 hin6 hat6 (g := (mkF m 42 #[lR a, lI 44, lI 2, lI 2, lI 1, lU, lU, lU, lU] [(.int (2 : Int32)), (.ref bc_), (.ref a)])) rfl rfl (hb hby d16_42) _ k) ?_
  show own_Go p e below s _ _ _ (T5.setTop (mkF m 43 #[lR a, lI 44, lI 2, lI 2, lI 1, lU, lU, lU, lU] [(.double dy_), (.ref a)]))
  refine own_via (fun _ k => XS.aloadN X5.here hx rfl (hb hby d16_43) rfl rfl k) ?_
  show own_Go p e below s _ _ _ (T5.setTop (mkF m 44 #[lR a, lI 44, lI 2, lI 2, lI 1, lU, lU, lU, lU] [(.ref a), (.double dy_), (.ref a)]))
  obtain ⟨T7, X7, e7, st7⟩ := getF X5 hx hZ hown (host := "") (Or.inl (hwi hw 48 rfl)) Via.refl e5 F_lengths_a (g := (mkF m 44 #[lR a, lI 44, lI 2, lI 2, lI 1, lU, lU, lU, lU] [(.ref a), (.double dy_), (.ref a)])) rfl rfl (hb hby d16_44)
  refine own_via st7 ?_
  show own_Go p e below s _ _ _ (T7.setTop (mkF m 47 #[lR a, lI 44, lI 2, lI 2, lI 1, lU, lU, lU, lU] [(.ref bl_), (.double dy_), (.ref a)]))
  refine own_via (fun _ k => XS.iloadN X7.here hx rfl (hb hby d16_47) rfl k) ?_
  show own_Go p e below s _ _ _ (T7.setTop (mkF m 48 #[lR a, lI 44, lI 2, lI 2, lI 1, lU, lU, lU, lU] [(.int (2 : Int32)), (.ref bl_), (.double dy_), (.ref a)]))
  obtain ⟨cl8, Ar8, q8, S8, M8, H8, G8⟩ := (id V_bl_)
  have hin8 : ¬ ((2 : Int32) < 0 ∨ cl8.slots.size ≤ ((2 : Int32)).toNatClampNeg) := inb_of S8 ⟨by decide, by decide⟩
  have hat8 : cl8.slots[((2 : Int32)).toNatClampNeg]? = some (.int u2_) := Has.at H8 hin8 hp34
  refine own_via (fun _ k => X7.iaload hx (j := (2 : Int32)) (v := (.int u2_)) (by rw [e7]; exact Ar8.1) (State.isArrayOf_alike hZ.alike Ar8.2.1) Ar8.2.2 hin8 hat8 (g := (mkF m 48 #[lR a, lI 44, lI 2, lI 2, lI 1, lU, lU, lU, lU] [(.int (2 : Int32)), (.ref bl_), (.double dy_), (.ref a)])) rfl rfl (hb hby d16_48) _ k) ?_
  show own_Go p e below s _ _ _ (T7.setTop (mkF m 49 #[lR a, lI 44, lI 2, lI 2, lI 1, lU, lU, lU, lU] [(.int u2_), (.double dy_), (.ref a)]))
  refine own_via (fun _ k => XS.aloadN X7.here hx rfl (hb hby d16_49) rfl rfl k) ?_
  show own_Go p e below s _ _ _ (T7.setTop (mkF m 50 #[lR a, lI 44, lI 2, lI 2, lI 1, lU, lU, lU, lU] [(.ref a), (.int u2_), (.double dy_), (.ref a)]))
  obtain ⟨T9, X9, e9, st9⟩ := getF X7 hx hZ hown (host := "") (Or.inl (hwi hw 43 rfl)) Via.refl e7 F_costs_a (g := (mkF m 50 #[lR a, lI 44, lI 2, lI 2, lI 1, lU, lU, lU, lU] [(.ref a), (.int u2_), (.double dy_), (.ref a)])) rfl rfl (hb hby d16_50)
  refine own_via st9 ?_
  show own_Go p e below s _ _ _ (T9.setTop (mkF m 53 #[lR a, lI 44, lI 2, lI 2, lI 1, lU, lU, lU, lU] [(.ref bc_), (.int u2_), (.double dy_), (.ref a)]))
  refine own_via (fun _ k => XS.iload X9.here hx rfl (hb hby d16_53) rfl k) ?_
  show own_Go p e below s _ _ _ (T9.setTop (mkF m 55 #[lR a, lI 44, lI 2, lI 2, lI 1, lU, lU, lU, lU] [(.int (1 : Int32)), (.ref bc_), (.int u2_), (.double dy_), (.ref a)]))
  obtain ⟨cl10, Ar10, q10, S10, M10, H10, G10⟩ := (id V_bc_)
  have hin10 : ¬ ((1 : Int32) < 0 ∨ cl10.slots.size ≤ ((1 : Int32)).toNatClampNeg) := inb_of S10 ⟨by decide, by decide⟩
  have hat10 : cl10.slots[((1 : Int32)).toNatClampNeg]? = some (.double dx_) := Has.at H10 hin10 hp33
  refine own_via (fun _ k => X9.daload hx (j := (1 : Int32)) (v := (.double dx_)) (by rw [e9]; exact Ar10.1) (State.isArrayOf_alike hZ.alike Ar10.2.1) Ar10.2.2 hin10 hat10 (g := (mkF m 55 #[lR a, lI 44, lI 2, lI 2, lI 1, lU, lU, lU, lU] [(.int (1 : Int32)), (.ref bc_), (.int u2_), (.double dy_), (.ref a)])) rfl rfl (hb hby d16_55) _ k) ?_
  show own_Go p e below s _ _ _ (T9.setTop (mkF m 56 #[lR a, lI 44, lI 2, lI 2, lI 1, lU, lU, lU, lU] [(.double dx_), (.int u2_), (.double dy_), (.ref a)]))
  refine own_via (fun _ k => XS.aloadN X9.here hx rfl (hb hby d16_56) rfl rfl k) ?_
  show own_Go p e below s _ _ _ (T9.setTop (mkF m 57 #[lR a, lI 44, lI 2, lI 2, lI 1, lU, lU, lU, lU] [(.ref a), (.double dx_), (.int u2_), (.double dy_), (.ref a)]))
  obtain ⟨T11, X11, e11, st11⟩ := getF X9 hx hZ hown (host := "") (Or.inl (hwi hw 48 rfl)) Via.refl e9 F_lengths_a (g := (mkF m 57 #[lR a, lI 44, lI 2, lI 2, lI 1, lU, lU, lU, lU] [(.ref a), (.double dx_), (.int u2_), (.double dy_), (.ref a)])) rfl rfl (hb hby d16_57)
  refine own_via st11 ?_
  show own_Go p e below s _ _ _ (T11.setTop (mkF m 60 #[lR a, lI 44, lI 2, lI 2, lI 1, lU, lU, lU, lU] [(.ref bl_), (.double dx_), (.int u2_), (.double dy_), (.ref a)]))
  refine own_via (fun _ k => XS.iload X11.here hx rfl (hb hby d16_60) rfl k) ?_
  show own_Go p e below s _ _ _ (T11.setTop (mkF m 62 #[lR a, lI 44, lI 2, lI 2, lI 1, lU, lU, lU, lU] [(.int (1 : Int32)), (.ref bl_), (.double dx_), (.int u2_), (.double dy_), (.ref a)]))
  obtain ⟨cl12, Ar12, q12, S12, M12, H12, G12⟩ := (id V_bl_)
  have hin12 : ¬ ((1 : Int32) < 0 ∨ cl12.slots.size ≤ ((1 : Int32)).toNatClampNeg) := inb_of S12 ⟨by decide, by decide⟩
  have hat12 : cl12.slots[((1 : Int32)).toNatClampNeg]? = some (.int u_) := Has.at H12 hin12 hp35
  refine own_via (fun _ k => X11.iaload hx (j := (1 : Int32)) (v := (.int u_)) (by rw [e11]; exact Ar12.1) (State.isArrayOf_alike hZ.alike Ar12.2.1) Ar12.2.2 hin12 hat12 (g := (mkF m 62 #[lR a, lI 44, lI 2, lI 2, lI 1, lU, lU, lU, lU] [(.int (1 : Int32)), (.ref bl_), (.double dx_), (.int u2_), (.double dy_), (.ref a)])) rfl rfl (hb hby d16_62) _ k) ?_
  show own_Go p e below s _ _ _ (T11.setTop (mkF m 63 #[lR a, lI 44, lI 2, lI 2, lI 1, lU, lU, lU, lU] [(.int u_), (.double dx_), (.int u2_), (.double dy_), (.ref a)]))
  obtain ⟨cq13, qa13, qb13⟩ := E_a.cell
  obtain ⟨_, _, ⟨T13, L13, k13, n13⟩, -, X13, ⟨Lc13, hQ13, l13, y13, z13⟩, st13⟩ := X11.privateBack hx (y := (⟨"com/example/trajectory/trajectory/search/Nodes", "makesNeedless", "(DIDI)Z"⟩ : MethodName)) hown (mvT hZ (hwi hw 120 rfl)) (mvT hZ (hwi hw 121 rfl)) (own_selP (y' := (⟨"com/example/trajectory/trajectory/search/Nodes", "add", "([JDDII)I"⟩ : MethodName)) (mvT hZ (hwi hw 68 rfl)) rfl (Cond.privateMethod_at (mvP hZ (hwi hw 122 rfl) (args := #[]))) (mvT hZ (hwi hw 121 rfl)) (by decide)) (Cond.privateMethod_at (mvP hZ (hwi hw 122 rfl) (args := #[]))) (mvT hZ (hwi hw 123 rfl)) (by decide) (backOf (W := 0) (rm17 l Z a0 hw [] a dy_ u2_ dx_ u_ y_ x_ h0 n0 Z0 hp38 hp39 hp36 hp37) hZ (hwi hw 123 rfl) (hwi hw 4 rfl) (by decide) (by decide)) (g := (mkF m 63 #[lR a, lI 44, lI 2, lI 2, lI 1, lU, lU, lU, lU] [(.int u_), (.double dx_), (.int u2_), (.double dy_), (.ref a)])) rfl (by rw [hml]; rfl) (Steps.refl _) (a := a) (by rw [e11]; exact qa13) qb13 (argsL := [(.double dy_), (.int u2_), (.double dx_), (.int u_)]) (rest := []) (lenOf pd_6 rfl) rfl (by show 2 * 0 + _ ≤ _; exact Nat.le_of_eq rfl) (hb hby d16_63) (fun _ _ => ⟨rfl, e11, (by decide : 0 + 0 ≤ _), (by decide : 0 + 0 ≤ _)⟩)
  dsimp only [Pt.U, Pt.locs, Pt.cells, Pt.slots] at X13 l13 y13 z13 st13 hQ13
  subst l13 y13 z13
  obtain ⟨rfl, N13q, e13⟩ := hQ13
  have N13 := Fr.app N0 N13q
  refine own_viaT st13 ?_
  show own_Go p e below s _ _ _ (T13.setTop (mkF m 66 #[lR a, lI 44, lI 2, lI 2, lI 1, lU, lU, lU, lU] [(.int (1 : Int32))]))
  refine own_via (fun _ k => XS.ifNo X13.here hx rfl (hb hby d16_66) rfl (Jvm.Free.XT.i0_eq_f (by decide)) k) ?_
  show own_Go p e below s _ _ _ (T13.setTop (mkF m 69 #[lR a, lI 44, lI 2, lI 2, lI 1, lU, lU, lU, lU] []))
  refine own_via (fun _ k => XS.aloadN X13.here hx rfl (hb hby d16_69) rfl rfl k) ?_
  show own_Go p e below s _ _ _ (T13.setTop (mkF m 70 #[lR a, lI 44, lI 2, lI 2, lI 1, lU, lU, lU, lU] [(.ref a)]))
  refine own_via (fun _ k => XS.iload X13.here hx rfl (hb hby d16_70) rfl k) ?_
  show own_Go p e below s _ _ _ (T13.setTop (mkF m 72 #[lR a, lI 44, lI 2, lI 2, lI 1, lU, lU, lU, lU] [(.int (1 : Int32)), (.ref a)]))
  obtain ⟨cq14, qa14, qb14⟩ := E_a.cell
  obtain ⟨_, _, ⟨T14, L14, k14, n14⟩, -, X14, ⟨Lc14, hQ14, l14, y14, z14⟩, st14⟩ := X13.privateBack hx (y := (⟨"com/example/trajectory/trajectory/search/Nodes", "supersede", "(I)V"⟩ : MethodName)) hown (mvT hZ (hwi hw 124 rfl)) (mvT hZ (hwi hw 125 rfl)) (own_selP (y' := (⟨"com/example/trajectory/trajectory/search/Nodes", "add", "([JDDII)I"⟩ : MethodName)) (mvT hZ (hwi hw 68 rfl)) rfl (Cond.privateMethod_at (mvP hZ (hwi hw 126 rfl) (args := #[]))) (mvT hZ (hwi hw 125 rfl)) (by decide)) (Cond.privateMethod_at (mvP hZ (hwi hw 126 rfl) (args := #[]))) (mvT hZ (hwi hw 127 rfl)) (by decide) (backOf (W := 0) (rm18 l Z a0 hw [] a (1 : Int32) ll_ ww_ wt_ u_ bl_ bz_ bk_ bT_ bf_ br_ kl_ kz_ vbl_ h0 n0 Z0 E_a F_lengthLimit_a F_lengths_a F_superseded_a F_nextKept_a F_table_a F_frontierCosts_a F_frontierRanks_a F_waiting_a F_waitingWithin_a F_held_a V_bl_ V_bz_ g_a g_bz_ ne_a_bz_ ne_bl__bz_ rfl hp35) hZ (hwi hw 127 rfl) (hwi hw 4 rfl) (by decide) (by decide)) (g := (mkF m 72 #[lR a, lI 44, lI 2, lI 2, lI 1, lU, lU, lU, lU] [(.int (1 : Int32)), (.ref a)])) rfl (by rw [hml]; rfl) (Steps.refl _) (a := a) (by rw [e13]; exact qa14) qb14 (argsL := [(.int (1 : Int32))]) (rest := []) (lenOf pd_7 rfl) rfl (by show 2 * 0 + _ ≤ _; exact Nat.le_of_eq rfl) (hb hby d16_72) (fun _ _ => ⟨rfl, e13, (by decide : 0 + 0 ≤ _), (by decide : 0 + 0 ≤ _)⟩)
  dsimp only [Pt.U, Pt.locs, Pt.cells, Pt.slots] at X14 l14 y14 z14 st14 hQ14
  subst l14 y14 z14
  obtain ⟨h14, e14⟩ : ∃ h, T14.heap = h := ⟨_, rfl⟩
  rw [e14] at hQ14
  obtain ⟨rfl, N14q, Kq14, F15, F16, F17, F18, F19, F20, F21, F22, F23, F24, F25, F26⟩ := hQ14
  have Z14 : n0 ≤ h14.size := Nat.le_trans Z0 Kq14.1
  have K14 : Keep h0 h14 [a, bk_, bT_, bz_] := K0.trans Kq14 (allS (Or.inl (List.mem_of_getElem? (i := 0) rfl)) (allS (Or.inl (List.mem_of_getElem? (i := 3) rfl)) all0))
  have N14 := Fr.app N13 N14q
  refine own_viaT st14 ?_
  show own_Go p e below s _ _ _ (T14.setTop (mkF m 75 #[lR a, lI 44, lI 2, lI 2, lI 1, lU, lU, lU, lU] []))
  refine own_via (fun _ k => XS.goto X14.here hx rfl (pc0 := 75) (pc' := 89) rfl (hb hby d16_75) (by decide) (by decide) k) ?_
  show own_Go p e below s _ _ _ (T14.setTop (mkF m 89 #[lR a, lI 44, lI 2, lI 2, lI 1, lU, lU, lU, lU] []))
  refine own_via (fun _ k => XS.aloadN X14.here hx rfl (hb hby d16_89) rfl rfl k) ?_
  show own_Go p e below s _ _ _ (T14.setTop (mkF m 90 #[lR a, lI 44, lI 2, lI 2, lI 1, lU, lU, lU, lU] [(.ref a)]))
  obtain ⟨T27, X27, e27, st27⟩ := getF X14 hx hZ hown (host := "") (Or.inl (hwi hw 57 rfl)) Via.refl e14 F19 (g := (mkF m 90 #[lR a, lI 44, lI 2, lI 2, lI 1, lU, lU, lU, lU] [(.ref a)])) rfl rfl (hb hby d16_90)
  refine own_via st27 ?_
  show own_Go p e below s _ _ _ (T27.setTop (mkF m 93 #[lR a, lI 44, lI 2, lI 2, lI 1, lU, lU, lU, lU] [(.ref bk_)]))
  refine own_via (fun _ k => XS.iload X27.here hx rfl (hb hby d16_93) rfl k) ?_
  show own_Go p e below s _ _ _ (T27.setTop (mkF m 95 #[lR a, lI 44, lI 2, lI 2, lI 1, lU, lU, lU, lU] [(.int (1 : Int32)), (.ref bk_)]))
  have F29 := (V_bk_.keep Kq14 (ninS (Ne.symm ne_a_bk_) (ninS ne_bk__bz_ nin0)))
  obtain ⟨cl28, Ar28, q28, S28, M28, H28, G28⟩ := (id F29)
  have hin28 : ¬ ((1 : Int32) < 0 ∨ cl28.slots.size ≤ ((1 : Int32)).toNatClampNeg) := inb_of S28 ⟨by decide, by decide⟩
  have hat28 : cl28.slots[((1 : Int32)).toNatClampNeg]? = some (.int (-1 : Int32)) := Has.at H28 hin28 rfl
  refine own_via (fun _ k => X27.iaload hx (j := (1 : Int32)) (v := (.int (-1 : Int32))) (by rw [e27]; exact Ar28.1) (State.isArrayOf_alike hZ.alike Ar28.2.1) Ar28.2.2 hin28 hat28 (g := (mkF m 95 #[lR a, lI 44, lI 2, lI 2, lI 1, lU, lU, lU, lU] [(.int (1 : Int32)), (.ref bk_)])) rfl rfl (hb hby d16_95) _ k) ?_
  show own_Go p e below s _ _ _ (T27.setTop (mkF m 96 #[lR a, lI 44, lI 2, lI 2, lI 1, lU, lU, lU, lU] [(.int (-1 : Int32))]))
  refine own_via (fun _ k => XS.istore X27.here hx rfl (hb hby d16_96) rfl (l' := #[lR a, lI 44, lI 2, lI 2, lI (-1), lU, lU, lU, lU]) rfl k) ?_
  show own_Go p e below s _ _ _ (T27.setTop (mkF m 98 #[lR a, lI 44, lI 2, lI 2, lI (-1), lU, lU, lU, lU] []))
  refine own_via (fun _ k => XS.goto X27.here hx rfl (pc0 := 98) (pc' := 31) rfl (hb hby d16_98) (by decide) (by decide) k) ?_
  show own_Go p e below s _ _ _ (T27.setTop (mkF m 31 #[lR a, lI 44, lI 2, lI 2, lI (-1), lU, lU, lU, lU] []))
  refine own_via (fun _ k => XS.iload X27.here hx rfl (hb hby d16_31) rfl k) ?_
  show own_Go p e below s _ _ _ (T27.setTop (mkF m 33 #[lR a, lI 44, lI 2, lI 2, lI (-1), lU, lU, lU, lU] [(.int (-1 : Int32))]))
  refine own_via (fun _ k => XS.ifYes X27.here hx rfl (pc0 := 33) (pc' := 101) rfl (hb hby d16_33) rfl (Jvm.Free.XT.i0_lt_t (by decide)) (by decide) (by decide) k) ?_
  show own_Go p e below s _ _ _ (T27.setTop (mkF m 101 #[lR a, lI 44, lI 2, lI 2, lI (-1), lU, lU, lU, lU] []))
  refine own_via (fun _ k => XS.aloadN X27.here hx rfl (hb hby d16_101) rfl rfl k) ?_
  show own_Go p e below s _ _ _ (T27.setTop (mkF m 102 #[lR a, lI 44, lI 2, lI 2, lI (-1), lU, lU, lU, lU] [(.ref a)]))
  obtain ⟨T30, X30, e30, st30⟩ := getF X27 hx hZ hown (host := "") (Or.inl (hwi hw 57 rfl)) Via.refl e27 F19 (g := (mkF m 102 #[lR a, lI 44, lI 2, lI 2, lI (-1), lU, lU, lU, lU] [(.ref a)])) rfl rfl (hb hby d16_102)
  refine own_via st30 ?_
  show own_Go p e below s _ _ _ (T30.setTop (mkF m 105 #[lR a, lI 44, lI 2, lI 2, lI (-1), lU, lU, lU, lU] [(.ref bk_)]))
  refine own_via (fun _ k => XS.iloadN X30.here hx rfl (hb hby d16_105) rfl k) ?_
  show own_Go p e below s _ _ _ (T30.setTop (mkF m 106 #[lR a, lI 44, lI 2, lI 2, lI (-1), lU, lU, lU, lU] [(.int (2 : Int32)), (.ref bk_)]))
  refine own_via (fun _ k => XS.iconst X30.here hx rfl (hb hby d16_106) k) ?_
  show own_Go p e below s _ _ _ (T30.setTop (mkF m 107 #[lR a, lI 44, lI 2, lI 2, lI (-1), lU, lU, lU, lU] [(.int (-1 : Int32)), (.int (2 : Int32)), (.ref bk_)]))
  obtain ⟨cl31, Ar31, q31, S31, M31, H31, G31⟩ := (id F29)
  have hin31 : ¬ ((2 : Int32) < 0 ∨ cl31.slots.size ≤ ((2 : Int32)).toNatClampNeg) := inb_of S31 ⟨by decide, by decide⟩
  obtain ⟨T31, h31, X31, e31, W31, st31⟩ := stI X30 hx hZ e30 Ar31 (j := (2 : Int32)) hin31 (g := (mkF m 107 #[lR a, lI 44, lI 2, lI 2, lI (-1), lU, lU, lU, lU] [(.int (-1 : Int32)), (.int (2 : Int32)), (.ref bk_)])) rfl rfl (hb hby d16_107)
  have V31 : Arv Z h31 bk_ kk_ .int (64 : Int32) [(.int (0 : Int32)), (.int (-1 : Int32)), (.int (-1 : Int32)), (.int (0 : Int32))] (.int (0 : Int32)) := Arv.set Ar31 q31 S31 M31 H31 G31 rfl W31 2 rfl (Nat.le_of_ble_eq_true rfl)
  have N31 := Fr.snoc X31 N14 g_bk_
  have Z31 : n0 ≤ h31.size := Nat.le_trans Z14 (Keep.of_wr W31).1
  have K31 : Keep h0 h31 [a, bk_, bT_, bz_] := K14.wr W31 (Or.inl (List.mem_of_getElem? (i := 1) rfl))
  refine own_via st31 ?_
  show own_Go p e below s _ _ _ (T31.setTop (mkF m 108 #[lR a, lI 44, lI 2, lI 2, lI (-1), lU, lU, lU, lU] []))
  refine own_via (fun _ k => XS.aloadN X31.here hx rfl (hb hby d16_108) rfl rfl k) ?_
  show own_Go p e below s _ _ _ (T31.setTop (mkF m 109 #[lR a, lI 44, lI 2, lI 2, lI (-1), lU, lU, lU, lU] [(.ref a)]))
  have F32 := (F20.other W31 (Or.inl ne_a_bk_))
  obtain ⟨T33, X33, e33, st33⟩ := getF X31 hx hZ hown (host := "") (Or.inl (hwi hw 59 rfl)) Via.refl e31 F32 (g := (mkF m 109 #[lR a, lI 44, lI 2, lI 2, lI (-1), lU, lU, lU, lU] [(.ref a)])) rfl rfl (hb hby d16_109)
  refine own_via st33 ?_
  show own_Go p e below s _ _ _ (T33.setTop (mkF m 112 #[lR a, lI 44, lI 2, lI 2, lI (-1), lU, lU, lU, lU] [(.ref bT_)]))
  refine own_via (fun _ k => XS.iloadN X33.here hx rfl (hb hby d16_112) rfl k) ?_
  show own_Go p e below s _ _ _ (T33.setTop (mkF m 113 #[lR a, lI 44, lI 2, lI 2, lI (-1), lU, lU, lU, lU] [(.int (44 : Int32)), (.ref bT_)]))
  refine own_via (fun _ k => XS.iloadN X33.here hx rfl (hb hby d16_113) rfl k) ?_
  show own_Go p e below s _ _ _ (T33.setTop (mkF m 114 #[lR a, lI 44, lI 2, lI 2, lI (-1), lU, lU, lU, lU] [(.int (2 : Int32)), (.int (44 : Int32)), (.ref bT_)]))
  refine own_via (fun _ k => XS.iconst X33.here hx rfl (hb hby d16_114) k) ?_
  show own_Go p e below s _ _ _ (T33.setTop (mkF m 115 #[lR a, lI 44, lI 2, lI 2, lI (-1), lU, lU, lU, lU] [(.int (1 : Int32)), (.int (2 : Int32)), (.int (44 : Int32)), (.ref bT_)]))
  refine own_via (fun _ k => XS.iadd X33.here hx rfl (hb hby d16_115) rfl k) ?_
  show own_Go p e below s _ _ _ (T33.setTop (mkF m 116 #[lR a, lI 44, lI 2, lI 2, lI (-1), lU, lU, lU, lU] [(.int (3 : Int32)), (.int (44 : Int32)), (.ref bT_)]))
  have F35 := ((V_bT_.keep Kq14 (ninS (Ne.symm ne_a_bT_) (ninS ne_bT__bz_ nin0))).other W31 (Ne.symm ne_bk__bT_))
  obtain ⟨cl34, Ar34, q34, S34, M34, H34, G34⟩ := (id F35)
  have hin34 : ¬ ((44 : Int32) < 0 ∨ cl34.slots.size ≤ ((44 : Int32)).toNatClampNeg) := inb_of S34 ⟨by decide, by decide⟩
  obtain ⟨T34, h34, X34, e34, W34, st34⟩ := stI X33 hx hZ e33 Ar34 (j := (44 : Int32)) hin34 (g := (mkF m 116 #[lR a, lI 44, lI 2, lI 2, lI (-1), lU, lU, lU, lU] [(.int (3 : Int32)), (.int (44 : Int32)), (.ref bT_)])) rfl rfl (hb hby d16_116)
  have V34 : Arv Z h34 bT_ kT_ .int (128 : Int32) (vT_.set 44 (.int (3 : Int32))) (.int (0 : Int32)) := Arv.set Ar34 q34 S34 M34 H34 G34 rfl W34 44 rfl (by rw [hp30]; decide)
  have N34 := Fr.snoc X34 N31 g_bT_
  have Z34 : n0 ≤ h34.size := Nat.le_trans Z31 (Keep.of_wr W34).1
  have K34 : Keep h0 h34 [a, bk_, bT_, bz_] := K31.wr W34 (Or.inl (List.mem_of_getElem? (i := 2) rfl))
  refine own_via st34 ?_
  show own_Go p e below s _ _ _ (T34.setTop (mkF m 117 #[lR a, lI 44, lI 2, lI 2, lI (-1), lU, lU, lU, lU] []))
  refine own_via (fun _ k => XS.iconst X34.here hx rfl (hb hby d16_117) k) ?_
  show own_Go p e below s _ _ _ (T34.setTop (mkF m 118 #[lR a, lI 44, lI 2, lI 2, lI (-1), lU, lU, lU, lU] [(.int (2 : Int32))]))
  refine own_via (fun _ k => XS.aloadN X34.here hx rfl (hb hby d16_118) rfl rfl k) ?_
  show own_Go p e below s _ _ _ (T34.setTop (mkF m 119 #[lR a, lI 44, lI 2, lI 2, lI (-1), lU, lU, lU, lU] [(.ref a), (.int (2 : Int32))]))
  have F36 := ((F25.other W31 (Or.inl ne_a_bk_)).other W34 (Or.inl ne_a_bT_))
  obtain ⟨T37, X37, e37, st37⟩ := getF X34 hx hZ hown (host := "") (Or.inl (hwi hw 118 rfl)) Via.refl e34 F36 (g := (mkF m 119 #[lR a, lI 44, lI 2, lI 2, lI (-1), lU, lU, lU, lU] [(.ref a), (.int (2 : Int32))])) rfl rfl (hb hby d16_119)
  refine own_via st37 ?_
  show own_Go p e below s _ _ _ (T37.setTop (mkF m 122 #[lR a, lI 44, lI 2, lI 2, lI (-1), lU, lU, lU, lU] [(.int (1 : Int32)), (.int (2 : Int32))]))
  refine own_via (fun _ k => XS.imul X37.here hx rfl (hb hby d16_122) rfl k) ?_
  show own_Go p e below s _ _ _ (T37.setTop (mkF m 123 #[lR a, lI 44, lI 2, lI 2, lI (-1), lU, lU, lU, lU] [(.int (2 : Int32))]))
  refine own_via (fun _ k => XS.aloadN X37.here hx rfl (hb hby d16_123) rfl rfl k) ?_
  show own_Go p e below s _ _ _ (T37.setTop (mkF m 124 #[lR a, lI 44, lI 2, lI 2, lI (-1), lU, lU, lU, lU] [(.ref a), (.int (2 : Int32))]))
  have F38 := (F32.other W34 (Or.inl ne_a_bT_))
  obtain ⟨T39, X39, e39, st39⟩ := getF X37 hx hZ hown (host := "") (Or.inl (hwi hw 59 rfl)) Via.refl e37 F38 (g := (mkF m 124 #[lR a, lI 44, lI 2, lI 2, lI (-1), lU, lU, lU, lU] [(.ref a), (.int (2 : Int32))])) rfl rfl (hb hby d16_124)
  refine own_via st39 ?_
  show own_Go p e below s _ _ _ (T39.setTop (mkF m 127 #[lR a, lI 44, lI 2, lI 2, lI (-1), lU, lU, lU, lU] [(.ref bT_), (.int (2 : Int32))]))
  obtain ⟨cl40, Ar40, q40, S40, M40, H40, G40⟩ := (id V34)
  refine own_via (fun _ k => X39.arraylength hx (by rw [e39]; exact Ar40.1) (State.isArrayOf_alike hZ.alike Ar40.2.1) (g := (mkF m 127 #[lR a, lI 44, lI 2, lI 2, lI (-1), lU, lU, lU, lU] [(.ref bT_), (.int (2 : Int32))])) rfl rfl (hb hby d16_127) _ (by rw [len_of S40 M40]; exact k)) ?_
  show own_Go p e below s _ _ _ (T39.setTop (mkF m 128 #[lR a, lI 44, lI 2, lI 2, lI (-1), lU, lU, lU, lU] [(.int (128 : Int32)), (.int (2 : Int32))]))
  refine own_via (fun _ k => XS.icmpYes X39.here hx rfl (pc0 := 128) (pc' := 208) rfl (hb hby d16_128) rfl (Jvm.Free.XT.ii_le_t (by decide)) (by decide) (by decide) k) ?_
  show own_Go p e below s _ _ _ (T39.setTop (mkF m 208 #[lR a, lI 44, lI 2, lI 2, lI (-1), lU, lU, lU, lU] []))
  have F41 := ((F15.wr W31).wr W34)
  have F42 := ((F16.other W31 (Or.inl ne_a_bk_)).other W34 (Or.inl ne_a_bT_))
  have F43 := ((F17.other W31 (Or.inl ne_a_bk_)).other W34 (Or.inl ne_a_bT_))
  have F44 := ((F18.other W31 (Or.inl ne_a_bk_)).other W34 (Or.inl ne_a_bT_))
  have F45 := ((F21.other W31 (Or.inl ne_a_bk_)).other W34 (Or.inl ne_a_bT_))
  have F46 := ((F22.other W31 (Or.inl ne_a_bk_)).other W34 (Or.inl ne_a_bT_))
  have F47 := ((F23.other W31 (Or.inl ne_a_bk_)).other W34 (Or.inl ne_a_bT_))
  have F48 := ((F24.other W31 (Or.inl ne_a_bk_)).other W34 (Or.inl ne_a_bT_))
  have F49 := ((F26.other W31 (Ne.symm ne_bk__bz_)).other W34 (Ne.symm ne_bT__bz_))
  exact own_goV X39 hx Bd.returns (hb hby d16_208) Bd.notSynchronized (by decide) (by decide) (by rw [e39]; exact ⟨rfl, N34, K34, F41, F42, F43, F44, F45, F46, F47, F48, F49⟩)
theorem d13_0 : decode prog_59_method_23_code 0 = .ok (.aload_n 0, 1) := by decide +kernel
theorem d13_1 : decode prog_59_method_23_code 1 = .ok (.getfield 79, 3) := by decide +kernel
theorem d13_4 : decode prog_59_method_23_code 4 = .ok (.iconst 0, 1) := by decide +kernel
theorem d13_5 : decode prog_59_method_23_code 5 = .ok (.laload, 1) := by decide +kernel
theorem d13_6 : decode prog_59_method_23_code 6 = .ok (.l2i, 1) := by decide +kernel
theorem d13_7 : decode prog_59_method_23_code 7 = .ok (.istore_n 1, 1) := by decide +kernel
theorem d13_35 : decode prog_59_method_23_code 35 = .ok (.aload_n 0, 1) := by decide +kernel
theorem d13_36 : decode prog_59_method_23_code 36 = .ok (.dup, 1) := by decide +kernel
theorem d13_37 : decode prog_59_method_23_code 37 = .ok (.getfield 143, 3) := by decide +kernel
theorem d13_40 : decode prog_59_method_23_code 40 = .ok (.iconst 1, 1) := by decide +kernel
theorem d13_41 : decode prog_59_method_23_code 41 = .ok (.isub, 1) := by decide +kernel
theorem d13_42 : decode prog_59_method_23_code 42 = .ok (.putfield 143, 3) := by decide +kernel
theorem d13_45 : decode prog_59_method_23_code 45 = .ok (.aload_n 0, 1) := by decide +kernel
theorem d13_46 : decode prog_59_method_23_code 46 = .ok (.getfield 76, 3) := by decide +kernel
theorem d13_49 : decode prog_59_method_23_code 49 = .ok (.aload_n 0, 1) := by decide +kernel
theorem d13_50 : decode prog_59_method_23_code 50 = .ok (.getfield 143, 3) := by decide +kernel
theorem d13_53 : decode prog_59_method_23_code 53 = .ok (.daload, 1) := by decide +kernel
theorem d13_54 : decode prog_59_method_23_code 54 = .ok (.dstore_n 2, 1) := by decide +kernel
theorem d13_55 : decode prog_59_method_23_code 55 = .ok (.aload_n 0, 1) := by decide +kernel
theorem d13_56 : decode prog_59_method_23_code 56 = .ok (.getfield 79, 3) := by decide +kernel
theorem d13_59 : decode prog_59_method_23_code 59 = .ok (.aload_n 0, 1) := by decide +kernel
theorem d13_60 : decode prog_59_method_23_code 60 = .ok (.getfield 143, 3) := by decide +kernel
theorem d13_63 : decode prog_59_method_23_code 63 = .ok (.laload, 1) := by decide +kernel
theorem d13_64 : decode prog_59_method_23_code 64 = .ok (.lstore 4, 2) := by decide +kernel
theorem d13_66 : decode prog_59_method_23_code 66 = .ok (.iconst 0, 1) := by decide +kernel
theorem d13_67 : decode prog_59_method_23_code 67 = .ok (.istore 6, 2) := by decide +kernel
theorem d13_69 : decode prog_59_method_23_code 69 = .ok (.iconst 1, 1) := by decide +kernel
theorem d13_70 : decode prog_59_method_23_code 70 = .ok (.istore 7, 2) := by decide +kernel
theorem d13_72 : decode prog_59_method_23_code 72 = .ok (.iload 7, 2) := by decide +kernel
theorem d13_74 : decode prog_59_method_23_code 74 = .ok (.aload_n 0, 1) := by decide +kernel
theorem d13_75 : decode prog_59_method_23_code 75 = .ok (.getfield 143, 3) := by decide +kernel
theorem d13_78 : decode prog_59_method_23_code 78 = .ok (.if_icmp .ge 124, 3) := by decide +kernel
theorem d13_202 : decode prog_59_method_23_code 202 = .ok (.aload_n 0, 1) := by decide +kernel
theorem d13_203 : decode prog_59_method_23_code 203 = .ok (.getfield 76, 3) := by decide +kernel
theorem d13_206 : decode prog_59_method_23_code 206 = .ok (.iload 6, 2) := by decide +kernel
theorem d13_208 : decode prog_59_method_23_code 208 = .ok (.dload_n 2, 1) := by decide +kernel
theorem d13_209 : decode prog_59_method_23_code 209 = .ok (.dastore, 1) := by decide +kernel
theorem d13_210 : decode prog_59_method_23_code 210 = .ok (.aload_n 0, 1) := by decide +kernel
theorem d13_211 : decode prog_59_method_23_code 211 = .ok (.getfield 79, 3) := by decide +kernel
theorem d13_214 : decode prog_59_method_23_code 214 = .ok (.iload 6, 2) := by decide +kernel
theorem d13_216 : decode prog_59_method_23_code 216 = .ok (.lload 4, 2) := by decide +kernel
theorem d13_218 : decode prog_59_method_23_code 218 = .ok (.lastore, 1) := by decide +kernel
theorem d13_219 : decode prog_59_method_23_code 219 = .ok (.iload_n 1, 1) := by decide +kernel
theorem d13_220 : decode prog_59_method_23_code 220 = .ok (.ireturn, 1) := by decide +kernel
theorem d13_8 : decode prog_59_method_23_code 8 = .ok (.aload_n 0, 1) := by decide +kernel
theorem d13_9 : decode prog_59_method_23_code 9 = .ok (.getfield 66, 3) := by decide +kernel
theorem d13_12 : decode prog_59_method_23_code 12 = .ok (.iload_n 1, 1) := by decide +kernel
theorem d13_13 : decode prog_59_method_23_code 13 = .ok (.baload, 1) := by decide +kernel
theorem d13_14 : decode prog_59_method_23_code 14 = .ok (.ifCond .ne 21, 3) := by decide +kernel
theorem d13_17 : decode prog_59_method_23_code 17 = .ok (.aload_n 0, 1) := by decide +kernel
theorem d13_18 : decode prog_59_method_23_code 18 = .ok (.iload_n 1, 1) := by decide +kernel
theorem d13_19 : decode prog_59_method_23_code 19 = .ok (.invokevirtual 130, 3) := by decide +kernel
theorem d13_22 : decode prog_59_method_23_code 22 = .ok (.ifCond .eq 13, 3) := by decide +kernel
theorem d13_25 : decode prog_59_method_23_code 25 = .ok (.aload_n 0, 1) := by decide +kernel
theorem d13_26 : decode prog_59_method_23_code 26 = .ok (.dup, 1) := by decide +kernel
theorem d13_27 : decode prog_59_method_23_code 27 = .ok (.getfield 134, 3) := by decide +kernel
theorem d13_30 : decode prog_59_method_23_code 30 = .ok (.lconst 1, 1) := by decide +kernel
theorem d13_31 : decode prog_59_method_23_code 31 = .ok (.lsub, 1) := by decide +kernel
theorem d13_32 : decode prog_59_method_23_code 32 = .ok (.putfield 134, 3) := by decide +kernel
theorem ef_po1 (m : MethodId) (x0 : Addr) : entryFrame m #[(.ref x0)] 8 = mkF m 0 #[.val (.ref x0), .unset, .unset, .unset, .unset, .unset, .unset, .unset] [] := by first | (simp [entryFrame, mkF, argsToLocals, Value.category]; done) | rfl
def Qpo1 (Z : State) (a : Addr) (ll_ : Int64) (ww_ : Int64) (u_ : Int32) (z_ : Int32) (f_ : Int32) (d0_ : UInt64) (d1_ : UInt64) (r0_ : Int64) (r1_ : Int64) (bl_ : Addr) (bz_ : Addr) (bf_ : Addr) (br_ : Addr) (kl_ : ClassId) (kz_ : ClassId) (kf_ : ClassId) (kr_ : ClassId) (vbl_ : List Value) (vz_ : List Value) (h0 : Heap) (n0 : Nat) (v : Option Value) (h : Heap) (L : List Loc) : Prop := v = some (.int f_) ∧ Fr n0 L ∧ Keep h0 h [a, bf_, br_] ∧ Exa Z h a "com/example/trajectory/trajectory/search/Nodes" ∧ Fld Z h a "com/example/trajectory/trajectory/search/Nodes" "waitingWithin" "J" (.long (own_pol ww_ z_ u_ ll_))
set_option maxRecDepth 65536 in
set_option maxHeartbeats 40000000 in
theorem rmpo1 (l : Launch) (Z : State) (a0 : Array Value) (hw : ∀ d ∈ tables_1, d.before a0 Z = true) (ws : List Jvm.Cond) (a : Addr) (ll_ : Int64) (ww_ : Int64) (u_ : Int32) (z_ : Int32) (f_ : Int32) (d0_ : UInt64) (d1_ : UInt64) (r0_ : Int64) (r1_ : Int64) (bl_ : Addr) (bz_ : Addr) (bf_ : Addr) (br_ : Addr) (kl_ : ClassId) (kz_ : ClassId) (kf_ : ClassId) (kr_ : ClassId) (vbl_ : List Value) (vz_ : List Value) (h0 : Heap) (n0 : Nat) (Z0 : n0 ≤ h0.size) (E_a : Exa Z h0 a "com/example/trajectory/trajectory/search/Nodes") (F_lengthLimit_a : Fld Z h0 a "com/example/trajectory/trajectory/search/Nodes" "lengthLimit" "J" (.long ll_)) (F_lengths_a : Fld Z h0 a "com/example/trajectory/trajectory/search/Nodes" "lengths" "[I" (.ref bl_)) (F_superseded_a : Fld Z h0 a "com/example/trajectory/trajectory/search/Nodes" "superseded" "[Z" (.ref bz_)) (F_frontierCosts_a : Fld Z h0 a "com/example/trajectory/trajectory/search/Nodes" "frontierCosts" "[D" (.ref bf_)) (F_frontierRanks_a : Fld Z h0 a "com/example/trajectory/trajectory/search/Nodes" "frontierRanks" "[J" (.ref br_)) (F_waiting_a : Fld Z h0 a "com/example/trajectory/trajectory/search/Nodes" "waiting" "I" (.int (1 : Int32))) (F_waitingWithin_a : Fld Z h0 a "com/example/trajectory/trajectory/search/Nodes" "waitingWithin" "J" (.long ww_)) (V_bl_ : Arv Z h0 bl_ kl_ .int (64 : Int32) vbl_ (.int (0 : Int32))) (V_bz_ : Arv Z h0 bz_ kz_ .boolean (64 : Int32) vz_ (.int (0 : Int32))) (V_bf_ : Arv Z h0 bf_ kf_ .double (64 : Int32) [(.double d0_), (.double d1_), (.double (0 : UInt64)), (.double (0 : UInt64))] (.double (0 : UInt64))) (V_br_ : Arv Z h0 br_ kr_ .long (64 : Int32) [(.long r0_), (.long r1_), (.long (0 : Int64)), (.long (0 : Int64))] (.long (0 : Int64))) (g_a : n0 ≤ a) (g_bf_ : n0 ≤ bf_) (g_br_ : n0 ≤ br_) (ne_a_bf_ : a ≠ bf_) (ne_a_br_ : a ≠ br_) (ne_bf__br_ : bf_ ≠ br_) (hp18 : (o_l2i r0_) = f_) (hp19 : ¬ f_ < 0 ∧ f_ < (64 : Int32)) (hp20 : vz_.getD (f_).toNatClampNeg (.int (0 : Int32)) = (.int z_)) (hp21 : vbl_.getD (f_).toNatClampNeg (.int (0 : Int32)) = (.int u_)) :
    MetFree l (⟨"com/example/trajectory/trajectory/search/Nodes", "poll", "()I"⟩ : MethodName) (head1 (Jvm.Cond.code (⟨"com/example/trajectory/trajectory/search/Nodes", "poll", "()I"⟩ : MethodName) prog_59_method_23_code 8 (some .int) :: ws) ({ frames := 1, cells := 0, slots := 0, locals := 13 } : Room)) (fun q_ U => q_ = #[(.ref a)] ∧ Z.Warmed39 U.vm ∧ U.heap = h0) (fun _ _ _ _ _ => True) (fun _ U o U' => ∃ v L, o = .returned v ∧ Qpo1 Z a ll_ ww_ u_ z_ f_ d0_ d1_ r0_ r1_ bl_ bz_ bf_ br_ kl_ kz_ kf_ kr_ vbl_ vz_ h0 n0 v U'.heap L ∧ FrameEnd U o U' L ({ frames := 1, cells := 0, slots := 0, locals := 13 } : Room).cells ({ frames := 1, cells := 0, slots := 0, locals := 13 } : Room).slots) := by
  refine MetFree.of_bodySF (plainFor_of_name pn_1) hisR ?_
  intro p e s m args below meth c s₁ Bd hml0 hP hK
  obtain ⟨rfl, hZ, hh⟩ := hP
  have hx := Bd.exec
  have hby := Bd.bytes
  have hml : c.maxLocals = 8 := hml0
  have hown : s.vm.findClass "com/example/trajectory/trajectory/search/Nodes" = some m.cls := findClass_of_methodNamed Bd.named
  have hnm := (name_of_methodNamed Bd.named Bd.method).1
  have X0 : Stand p l e ({ frames := 1, cells := 0, slots := 0, locals := 13 } : Room) s m #[(.ref a)] below meth c s₁ [] 0 0 := Stand.of_body Bd
  have e0 : s₁.heap = h0 := by rw [← hh, Bd.state]; rfl
  have N0 := Fr.nil n0
  show own_Go p e below s (Qpo1 Z a ll_ ww_ u_ z_ f_ d0_ d1_ r0_ r1_ bl_ bz_ bf_ br_ kl_ kz_ kf_ kr_ vbl_ vz_ h0 n0) ({ frames := 1, cells := 0, slots := 0, locals := 13 } : Room).cells ({ frames := 1, cells := 0, slots := 0, locals := 13 } : Room).slots (s₁.setTop (entryFrame m #[(.ref a)] 8))
  refine own_via (fun t k => castTop (ef_po1 m a) k) ?_
  have K0 : Keep h0 h0 [a, bf_, br_] := Keep.refl _ _
  show own_Go p e below s _ _ _ (s₁.setTop (mkF m 0 #[lR a, lU, lU, lU, lU, lU, lU, lU] []))
  refine own_via (fun _ k => XS.aloadN X0.here hx rfl (hb hby d13_0) rfl rfl k) ?_
  show own_Go p e below s _ _ _ (s₁.setTop (mkF m 1 #[lR a, lU, lU, lU, lU, lU, lU, lU] [(.ref a)]))
  obtain ⟨T1, X1, e1, st1⟩ := getF X0 hx hZ hown (host := "") (Or.inl (hwi hw 63 rfl)) Via.refl e0 F_frontierRanks_a (g := (mkF m 1 #[lR a, lU, lU, lU, lU, lU, lU, lU] [(.ref a)])) rfl rfl (hb hby d13_1)
  refine own_via st1 ?_
  show own_Go p e below s _ _ _ (T1.setTop (mkF m 4 #[lR a, lU, lU, lU, lU, lU, lU, lU] [(.ref br_)]))
  refine own_via (fun _ k => XS.iconst X1.here hx rfl (hb hby d13_4) k) ?_
  show own_Go p e below s _ _ _ (T1.setTop (mkF m 5 #[lR a, lU, lU, lU, lU, lU, lU, lU] [(.int (0 : Int32)), (.ref br_)]))
  obtain ⟨cl2, Ar2, q2, S2, M2, H2, G2⟩ := (id V_br_)
  have hin2 : ¬ ((0 : Int32) < 0 ∨ cl2.slots.size ≤ ((0 : Int32)).toNatClampNeg) := inb_of S2 ⟨by decide, by decide⟩
  have hat2 : cl2.slots[((0 : Int32)).toNatClampNeg]? = some (.long r0_) := Has.at H2 hin2 rfl
  refine own_via (fun _ k => X1.laload hx (j := (0 : Int32)) (v := (.long r0_)) (by rw [e1]; exact Ar2.1) (State.isArrayOf_alike hZ.alike Ar2.2.1) Ar2.2.2 hin2 hat2 (g := (mkF m 5 #[lR a, lU, lU, lU, lU, lU, lU, lU] [(.int (0 : Int32)), (.ref br_)])) rfl rfl (hb hby d13_5) _ k) ?_
  show own_Go p e below s _ _ _ (T1.setTop (mkF m 6 #[lR a, lU, lU, lU, lU, lU, lU, lU] [(.long r0_)]))
  refine own_via (fun _ k => XS.l2i X1.here hx rfl (hb hby d13_6) rfl k) ?_
  show own_Go p e below s _ _ _ (T1.setTop (mkF m 7 #[lR a, lU, lU, lU, lU, lU, lU, lU] [(.int (o_l2i r0_))]))
  rw [show (o_l2i r0_) = f_ from hp18]
  show own_Go p e below s _ _ _ (T1.setTop (mkF m 7 #[lR a, lU, lU, lU, lU, lU, lU, lU] [(.int f_)]))
  refine own_via (fun _ k => XS.istoreN X1.here hx rfl (hb hby d13_7) rfl (l' := #[lR a, lI f_, lU, lU, lU, lU, lU, lU]) rfl k) ?_
  show own_Go p e below s _ _ _ (T1.setTop (mkF m 8 #[lR a, lI f_, lU, lU, lU, lU, lU, lU] []))
  have jp : ∀ (w2_ : Int64) (T3 : State) (lo3 : List Loc) (h3 : Heap), Stand p l e ({ frames := 1, cells := 0, slots := 0, locals := 13 } : Room) s m #[(.ref a)] below meth c T3 lo3 0 0 → T3.heap = h3 → Fr n0 lo3 → n0 ≤ h3.size → Keep h0 h3 [a, bf_, br_] → Exa Z h3 a "com/example/trajectory/trajectory/search/Nodes" → Fld Z h3 a "com/example/trajectory/trajectory/search/Nodes" "frontierCosts" "[D" (.ref bf_) → Fld Z h3 a "com/example/trajectory/trajectory/search/Nodes" "frontierRanks" "[J" (.ref br_) → Fld Z h3 a "com/example/trajectory/trajectory/search/Nodes" "waiting" "I" (.int (1 : Int32)) → Fld Z h3 a "com/example/trajectory/trajectory/search/Nodes" "waitingWithin" "J" (.long w2_) → Arv Z h3 bf_ kf_ .double (64 : Int32) [(.double d0_), (.double d1_), (.double (0 : UInt64)), (.double (0 : UInt64))] (.double (0 : UInt64)) → Arv Z h3 br_ kr_ .long (64 : Int32) [(.long r0_), (.long r1_), (.long (0 : Int64)), (.long (0 : Int64))] (.long (0 : Int64)) → w2_ = own_pol ww_ z_ u_ ll_ → own_Go p e below s (Qpo1 Z a ll_ ww_ u_ z_ f_ d0_ d1_ r0_ r1_ bl_ bz_ bf_ br_ kl_ kz_ kf_ kr_ vbl_ vz_ h0 n0) ({ frames := 1, cells := 0, slots := 0, locals := 13 } : Room).cells ({ frames := 1, cells := 0, slots := 0, locals := 13 } : Room).slots (T3.setTop (mkF m 35 #[lR a, lI f_, lU, lU, lU, lU, lU, lU] [])) := by
    intro w2_ T3 lo3 h3 X3 e3 N3 Z3 K3 F4 F5 F6 F7 F8 F9 F10 hw2
    show own_Go p e below s _ _ _ (T3.setTop (mkF m 35 #[lR a, lI f_, lU, lU, lU, lU, lU, lU] []))
    refine own_via (fun _ k => XS.aloadN X3.here hx rfl (hb hby d13_35) rfl rfl k) ?_
    show own_Go p e below s _ _ _ (T3.setTop (mkF m 36 #[lR a, lI f_, lU, lU, lU, lU, lU, lU] [(.ref a)]))
    refine own_via (fun _ k => XS.dup X3.here hx rfl (hb hby d13_36) rfl rfl k) ?_
    show own_Go p e below s _ _ _ (T3.setTop (mkF m 37 #[lR a, lI f_, lU, lU, lU, lU, lU, lU] [(.ref a), (.ref a)]))
    obtain ⟨T11, X11, e11, st11⟩ := getF X3 hx hZ hown (host := "") (Or.inl (hwi hw 88 rfl)) Via.refl e3 F7 (g := (mkF m 37 #[lR a, lI f_, lU, lU, lU, lU, lU, lU] [(.ref a), (.ref a)])) rfl rfl (hb hby d13_37)
    refine own_via st11 ?_
    show own_Go p e below s _ _ _ (T11.setTop (mkF m 40 #[lR a, lI f_, lU, lU, lU, lU, lU, lU] [(.int (1 : Int32)), (.ref a)]))
    refine own_via (fun _ k => XS.iconst X11.here hx rfl (hb hby d13_40) k) ?_
    show own_Go p e below s _ _ _ (T11.setTop (mkF m 41 #[lR a, lI f_, lU, lU, lU, lU, lU, lU] [(.int (1 : Int32)), (.int (1 : Int32)), (.ref a)]))
    refine own_via (fun _ k => XS.isub X11.here hx rfl (hb hby d13_41) rfl k) ?_
    show own_Go p e below s _ _ _ (T11.setTop (mkF m 42 #[lR a, lI f_, lU, lU, lU, lU, lU, lU] [(.int (0 : Int32)), (.ref a)]))
    obtain ⟨T12, h12, X12, e12, W12, st12⟩ := putF X11 hx hZ hown (host := "") (Or.inl (hwi hw 88 rfl)) Via.refl e11 F7 F4 (Or.inl (hwi hw 89 rfl)) (hwi hw 3 rfl) (ty := .int) (by decide) rfl rfl (g := (mkF m 42 #[lR a, lI f_, lU, lU, lU, lU, lU, lU] [(.int (0 : Int32)), (.ref a)])) rfl rfl (hb hby d13_42)
    have N12 := Fr.snoc X12 N3 g_a
    have Fw12 := F7.same W12
    have Z12 : n0 ≤ h12.size := Nat.le_trans Z3 (Keep.of_wr W12).1
    have K12 : Keep h0 h12 [a, bf_, br_] := K3.wr W12 (Or.inl (List.mem_of_getElem? (i := 0) rfl))
    refine own_via st12 ?_
    show own_Go p e below s _ _ _ (T12.setTop (mkF m 45 #[lR a, lI f_, lU, lU, lU, lU, lU, lU] []))
    refine own_via (fun _ k => XS.aloadN X12.here hx rfl (hb hby d13_45) rfl rfl k) ?_
    show own_Go p e below s _ _ _ (T12.setTop (mkF m 46 #[lR a, lI f_, lU, lU, lU, lU, lU, lU] [(.ref a)]))
    have F13 := (F5.other W12 (Or.inr (sn16 hw)))
    obtain ⟨T14, X14, e14, st14⟩ := getF X12 hx hZ hown (host := "") (Or.inl (hwi hw 61 rfl)) Via.refl e12 F13 (g := (mkF m 46 #[lR a, lI f_, lU, lU, lU, lU, lU, lU] [(.ref a)])) rfl rfl (hb hby d13_46)
    refine own_via st14 ?_
    show own_Go p e below s _ _ _ (T14.setTop (mkF m 49 #[lR a, lI f_, lU, lU, lU, lU, lU, lU] [(.ref bf_)]))
    refine own_via (fun _ k => XS.aloadN X14.here hx rfl (hb hby d13_49) rfl rfl k) ?_
    show own_Go p e below s _ _ _ (T14.setTop (mkF m 50 #[lR a, lI f_, lU, lU, lU, lU, lU, lU] [(.ref a), (.ref bf_)]))
    obtain ⟨T15, X15, e15, st15⟩ := getF X14 hx hZ hown (host := "") (Or.inl (hwi hw 88 rfl)) Via.refl e14 Fw12 (g := (mkF m 50 #[lR a, lI f_, lU, lU, lU, lU, lU, lU] [(.ref a), (.ref bf_)])) rfl rfl (hb hby d13_50)
    refine own_via st15 ?_
    show own_Go p e below s _ _ _ (T15.setTop (mkF m 53 #[lR a, lI f_, lU, lU, lU, lU, lU, lU] [(.int (0 : Int32)), (.ref bf_)]))
    have F17 := (F9.other W12 (Ne.symm ne_a_bf_))
    obtain ⟨cl16, Ar16, q16, S16, M16, H16, G16⟩ := (id F17)
    have hin16 : ¬ ((0 : Int32) < 0 ∨ cl16.slots.size ≤ ((0 : Int32)).toNatClampNeg) := inb_of S16 ⟨by decide, by decide⟩
    have hat16 : cl16.slots[((0 : Int32)).toNatClampNeg]? = some (.double d0_) := Has.at H16 hin16 rfl
    refine own_via (fun _ k => X15.daload hx (j := (0 : Int32)) (v := (.double d0_)) (by rw [e15]; exact Ar16.1) (State.isArrayOf_alike hZ.alike Ar16.2.1) Ar16.2.2 hin16 hat16 (g := (mkF m 53 #[lR a, lI f_, lU, lU, lU, lU, lU, lU] [(.int (0 : Int32)), (.ref bf_)])) rfl rfl (hb hby d13_53) _ k) ?_
    show own_Go p e below s _ _ _ (T15.setTop (mkF m 54 #[lR a, lI f_, lU, lU, lU, lU, lU, lU] [(.double d0_)]))
    refine own_via (fun _ k => XS.dstoreN X15.here hx rfl (hb hby d13_54) rfl (l' := #[lR a, lI f_, lD d0_, lS, lU, lU, lU, lU]) rfl k) ?_
    show own_Go p e below s _ _ _ (T15.setTop (mkF m 55 #[lR a, lI f_, lD d0_, lS, lU, lU, lU, lU] []))
    refine own_via (fun _ k => XS.aloadN X15.here hx rfl (hb hby d13_55) rfl rfl k) ?_
    show own_Go p e below s _ _ _ (T15.setTop (mkF m 56 #[lR a, lI f_, lD d0_, lS, lU, lU, lU, lU] [(.ref a)]))
    have F18 := (F6.other W12 (Or.inr (sn17 hw)))
    obtain ⟨T19, X19, e19, st19⟩ := getF X15 hx hZ hown (host := "") (Or.inl (hwi hw 63 rfl)) Via.refl e15 F18 (g := (mkF m 56 #[lR a, lI f_, lD d0_, lS, lU, lU, lU, lU] [(.ref a)])) rfl rfl (hb hby d13_56)
    refine own_via st19 ?_
    show own_Go p e below s _ _ _ (T19.setTop (mkF m 59 #[lR a, lI f_, lD d0_, lS, lU, lU, lU, lU] [(.ref br_)]))
    refine own_via (fun _ k => XS.aloadN X19.here hx rfl (hb hby d13_59) rfl rfl k) ?_
    show own_Go p e below s _ _ _ (T19.setTop (mkF m 60 #[lR a, lI f_, lD d0_, lS, lU, lU, lU, lU] [(.ref a), (.ref br_)]))
    obtain ⟨T20, X20, e20, st20⟩ := getF X19 hx hZ hown (host := "") (Or.inl (hwi hw 88 rfl)) Via.refl e19 Fw12 (g := (mkF m 60 #[lR a, lI f_, lD d0_, lS, lU, lU, lU, lU] [(.ref a), (.ref br_)])) rfl rfl (hb hby d13_60)
    refine own_via st20 ?_
    show own_Go p e below s _ _ _ (T20.setTop (mkF m 63 #[lR a, lI f_, lD d0_, lS, lU, lU, lU, lU] [(.int (0 : Int32)), (.ref br_)]))
    have F22 := (F10.other W12 (Ne.symm ne_a_br_))
    obtain ⟨cl21, Ar21, q21, S21, M21, H21, G21⟩ := (id F22)
    have hin21 : ¬ ((0 : Int32) < 0 ∨ cl21.slots.size ≤ ((0 : Int32)).toNatClampNeg) := inb_of S21 ⟨by decide, by decide⟩
    have hat21 : cl21.slots[((0 : Int32)).toNatClampNeg]? = some (.long r0_) := Has.at H21 hin21 rfl
    refine own_via (fun _ k => X20.laload hx (j := (0 : Int32)) (v := (.long r0_)) (by rw [e20]; exact Ar21.1) (State.isArrayOf_alike hZ.alike Ar21.2.1) Ar21.2.2 hin21 hat21 (g := (mkF m 63 #[lR a, lI f_, lD d0_, lS, lU, lU, lU, lU] [(.int (0 : Int32)), (.ref br_)])) rfl rfl (hb hby d13_63) _ k) ?_
    show own_Go p e below s _ _ _ (T20.setTop (mkF m 64 #[lR a, lI f_, lD d0_, lS, lU, lU, lU, lU] [(.long r0_)]))
    refine own_via (fun _ k => XS.lstore X20.here hx rfl (hb hby d13_64) rfl (l' := #[lR a, lI f_, lD d0_, lS, lJ r0_, lS, lU, lU]) rfl k) ?_
    show own_Go p e below s _ _ _ (T20.setTop (mkF m 66 #[lR a, lI f_, lD d0_, lS, lJ r0_, lS, lU, lU] []))
    refine own_via (fun _ k => XS.iconst X20.here hx rfl (hb hby d13_66) k) ?_
    show own_Go p e below s _ _ _ (T20.setTop (mkF m 67 #[lR a, lI f_, lD d0_, lS, lJ r0_, lS, lU, lU] [(.int (0 : Int32))]))
    refine own_via (fun _ k => XS.istore X20.here hx rfl (hb hby d13_67) rfl (l' := #[lR a, lI f_, lD d0_, lS, lJ r0_, lS, lI 0, lU]) rfl k) ?_
    show own_Go p e below s _ _ _ (T20.setTop (mkF m 69 #[lR a, lI f_, lD d0_, lS, lJ r0_, lS, lI 0, lU] []))
    refine own_via (fun _ k => XS.iconst X20.here hx rfl (hb hby d13_69) k) ?_
    show own_Go p e below s _ _ _ (T20.setTop (mkF m 70 #[lR a, lI f_, lD d0_, lS, lJ r0_, lS, lI 0, lU] [(.int (1 : Int32))]))
    refine own_via (fun _ k => XS.istore X20.here hx rfl (hb hby d13_70) rfl (l' := #[lR a, lI f_, lD d0_, lS, lJ r0_, lS, lI 0, lI 1]) rfl k) ?_
    show own_Go p e below s _ _ _ (T20.setTop (mkF m 72 #[lR a, lI f_, lD d0_, lS, lJ r0_, lS, lI 0, lI 1] []))
    refine own_via (fun _ k => XS.iload X20.here hx rfl (hb hby d13_72) rfl k) ?_
    show own_Go p e below s _ _ _ (T20.setTop (mkF m 74 #[lR a, lI f_, lD d0_, lS, lJ r0_, lS, lI 0, lI 1] [(.int (1 : Int32))]))
    refine own_via (fun _ k => XS.aloadN X20.here hx rfl (hb hby d13_74) rfl rfl k) ?_
    show own_Go p e below s _ _ _ (T20.setTop (mkF m 75 #[lR a, lI f_, lD d0_, lS, lJ r0_, lS, lI 0, lI 1] [(.ref a), (.int (1 : Int32))]))
    obtain ⟨T23, X23, e23, st23⟩ := getF X20 hx hZ hown (host := "") (Or.inl (hwi hw 88 rfl)) Via.refl e20 Fw12 (g := (mkF m 75 #[lR a, lI f_, lD d0_, lS, lJ r0_, lS, lI 0, lI 1] [(.ref a), (.int (1 : Int32))])) rfl rfl (hb hby d13_75)
    refine own_via st23 ?_
    show own_Go p e below s _ _ _ (T23.setTop (mkF m 78 #[lR a, lI f_, lD d0_, lS, lJ r0_, lS, lI 0, lI 1] [(.int (0 : Int32)), (.int (1 : Int32))]))
    refine own_via (fun _ k => XS.icmpYes X23.here hx rfl (pc0 := 78) (pc' := 202) rfl (hb hby d13_78) rfl (Jvm.Free.XT.ii_ge_t (by decide)) (by decide) (by decide) k) ?_
    show own_Go p e below s _ _ _ (T23.setTop (mkF m 202 #[lR a, lI f_, lD d0_, lS, lJ r0_, lS, lI 0, lI 1] []))
    refine own_via (fun _ k => XS.aloadN X23.here hx rfl (hb hby d13_202) rfl rfl k) ?_
    show own_Go p e below s _ _ _ (T23.setTop (mkF m 203 #[lR a, lI f_, lD d0_, lS, lJ r0_, lS, lI 0, lI 1] [(.ref a)]))
    obtain ⟨T24, X24, e24, st24⟩ := getF X23 hx hZ hown (host := "") (Or.inl (hwi hw 61 rfl)) Via.refl e23 F13 (g := (mkF m 203 #[lR a, lI f_, lD d0_, lS, lJ r0_, lS, lI 0, lI 1] [(.ref a)])) rfl rfl (hb hby d13_203)
    refine own_via st24 ?_
    show own_Go p e below s _ _ _ (T24.setTop (mkF m 206 #[lR a, lI f_, lD d0_, lS, lJ r0_, lS, lI 0, lI 1] [(.ref bf_)]))
    refine own_via (fun _ k => XS.iload X24.here hx rfl (hb hby d13_206) rfl k) ?_
    show own_Go p e below s _ _ _ (T24.setTop (mkF m 208 #[lR a, lI f_, lD d0_, lS, lJ r0_, lS, lI 0, lI 1] [(.int (0 : Int32)), (.ref bf_)]))
    refine own_via (fun _ k => XS.dloadN X24.here hx rfl (hb hby d13_208) rfl k) ?_
    show own_Go p e below s _ _ _ (T24.setTop (mkF m 209 #[lR a, lI f_, lD d0_, lS, lJ r0_, lS, lI 0, lI 1] [(.double d0_), (.int (0 : Int32)), (.ref bf_)]))
    obtain ⟨cl25, Ar25, q25, S25, M25, H25, G25⟩ := (id F17)
    have hin25 : ¬ ((0 : Int32) < 0 ∨ cl25.slots.size ≤ ((0 : Int32)).toNatClampNeg) := inb_of S25 ⟨by decide, by decide⟩
    obtain ⟨T25, h25, X25, e25, W25, st25⟩ := stD X24 hx hZ e24 Ar25 (j := (0 : Int32)) hin25 (g := (mkF m 209 #[lR a, lI f_, lD d0_, lS, lJ r0_, lS, lI 0, lI 1] [(.double d0_), (.int (0 : Int32)), (.ref bf_)])) rfl rfl (hb hby d13_209)
    have V25 : Arv Z h25 bf_ kf_ .double (64 : Int32) [(.double d0_), (.double d1_), (.double (0 : UInt64)), (.double (0 : UInt64))] (.double (0 : UInt64)) := Arv.set Ar25 q25 S25 M25 H25 G25 rfl W25 0 rfl (Nat.le_of_ble_eq_true rfl)
    have N25 := Fr.snoc X25 N12 g_bf_
    have Z25 : n0 ≤ h25.size := Nat.le_trans Z12 (Keep.of_wr W25).1
    have K25 : Keep h0 h25 [a, bf_, br_] := K12.wr W25 (Or.inl (List.mem_of_getElem? (i := 1) rfl))
    refine own_via st25 ?_
    show own_Go p e below s _ _ _ (T25.setTop (mkF m 210 #[lR a, lI f_, lD d0_, lS, lJ r0_, lS, lI 0, lI 1] []))
    refine own_via (fun _ k => XS.aloadN X25.here hx rfl (hb hby d13_210) rfl rfl k) ?_
    show own_Go p e below s _ _ _ (T25.setTop (mkF m 211 #[lR a, lI f_, lD d0_, lS, lJ r0_, lS, lI 0, lI 1] [(.ref a)]))
    have F26 := (F18.other W25 (Or.inl ne_a_bf_))
    obtain ⟨T27, X27, e27, st27⟩ := getF X25 hx hZ hown (host := "") (Or.inl (hwi hw 63 rfl)) Via.refl e25 F26 (g := (mkF m 211 #[lR a, lI f_, lD d0_, lS, lJ r0_, lS, lI 0, lI 1] [(.ref a)])) rfl rfl (hb hby d13_211)
    refine own_via st27 ?_
    show own_Go p e below s _ _ _ (T27.setTop (mkF m 214 #[lR a, lI f_, lD d0_, lS, lJ r0_, lS, lI 0, lI 1] [(.ref br_)]))
    refine own_via (fun _ k => XS.iload X27.here hx rfl (hb hby d13_214) rfl k) ?_
    show own_Go p e below s _ _ _ (T27.setTop (mkF m 216 #[lR a, lI f_, lD d0_, lS, lJ r0_, lS, lI 0, lI 1] [(.int (0 : Int32)), (.ref br_)]))
    refine own_via (fun _ k => XS.lload X27.here hx rfl (hb hby d13_216) rfl k) ?_
    show own_Go p e below s _ _ _ (T27.setTop (mkF m 218 #[lR a, lI f_, lD d0_, lS, lJ r0_, lS, lI 0, lI 1] [(.long r0_), (.int (0 : Int32)), (.ref br_)]))
    have F29 := (F22.other W25 (Ne.symm ne_bf__br_))
    obtain ⟨cl28, Ar28, q28, S28, M28, H28, G28⟩ := (id F29)
    have hin28 : ¬ ((0 : Int32) < 0 ∨ cl28.slots.size ≤ ((0 : Int32)).toNatClampNeg) := inb_of S28 ⟨by decide, by decide⟩
    obtain ⟨T28, h28, X28, e28, W28, st28⟩ := stJ X27 hx hZ e27 Ar28 (j := (0 : Int32)) hin28 (g := (mkF m 218 #[lR a, lI f_, lD d0_, lS, lJ r0_, lS, lI 0, lI 1] [(.long r0_), (.int (0 : Int32)), (.ref br_)])) rfl rfl (hb hby d13_218)
    have V28 : Arv Z h28 br_ kr_ .long (64 : Int32) [(.long r0_), (.long r1_), (.long (0 : Int64)), (.long (0 : Int64))] (.long (0 : Int64)) := Arv.set Ar28 q28 S28 M28 H28 G28 rfl W28 0 rfl (Nat.le_of_ble_eq_true rfl)
    have N28 := Fr.snoc X28 N25 g_br_
    have Z28 : n0 ≤ h28.size := Nat.le_trans Z25 (Keep.of_wr W28).1
    have K28 : Keep h0 h28 [a, bf_, br_] := K25.wr W28 (Or.inl (List.mem_of_getElem? (i := 2) rfl))
    refine own_via st28 ?_
    show own_Go p e below s _ _ _ (T28.setTop (mkF m 219 #[lR a, lI f_, lD d0_, lS, lJ r0_, lS, lI 0, lI 1] []))
    refine own_via (fun _ k => XS.iloadN X28.here hx rfl (hb hby d13_219) rfl k) ?_
    show own_Go p e below s _ _ _ (T28.setTop (mkF m 220 #[lR a, lI f_, lD d0_, lS, lJ r0_, lS, lI 0, lI 1] [(.int f_)]))
    have F30 := (((F4.wr W12).wr W25).wr W28)
    have F31 := (((F8.other W12 (Or.inr (sn25 hw))).other W25 (Or.inl ne_a_bf_)).other W28 (Or.inl ne_a_br_))
    exact own_goI X28 hx Bd.returns (hb hby d13_220) Bd.notSynchronized (by decide) (by decide) (by rw [e28]; exact ⟨rfl, N28, K28, F30, (by rw [← hw2]; exact F31)⟩)
  show own_Go p e below s _ _ _ (T1.setTop (mkF m 8 #[lR a, lI f_, lU, lU, lU, lU, lU, lU] []))
  refine own_via (fun _ k => XS.aloadN X1.here hx rfl (hb hby d13_8) rfl rfl k) ?_
  show own_Go p e below s _ _ _ (T1.setTop (mkF m 9 #[lR a, lI f_, lU, lU, lU, lU, lU, lU] [(.ref a)]))
  obtain ⟨T32, X32, e32, st32⟩ := getF X1 hx hZ hown (host := "") (Or.inl (hwi hw 55 rfl)) Via.refl e1 F_superseded_a (g := (mkF m 9 #[lR a, lI f_, lU, lU, lU, lU, lU, lU] [(.ref a)])) rfl rfl (hb hby d13_9)
  refine own_via st32 ?_
  show own_Go p e below s _ _ _ (T32.setTop (mkF m 12 #[lR a, lI f_, lU, lU, lU, lU, lU, lU] [(.ref bz_)]))
  refine own_via (fun _ k => XS.iloadN X32.here hx rfl (hb hby d13_12) rfl k) ?_
  show own_Go p e below s _ _ _ (T32.setTop (mkF m 13 #[lR a, lI f_, lU, lU, lU, lU, lU, lU] [(.int f_), (.ref bz_)]))
  obtain ⟨cl33, Ar33, q33, S33, M33, H33, G33⟩ := (id V_bz_)
  have hin33 : ¬ (f_ < 0 ∨ cl33.slots.size ≤ (f_).toNatClampNeg) := inb_of S33 hp19
  have hat33 : cl33.slots[(f_).toNatClampNeg]? = some (.int z_) := Has.at H33 hin33 hp20
  refine own_via (fun _ k => X32.baloadBooleans hx (j := f_) (v := (.int z_)) (by rw [e32]; exact Ar33.1) (State.isArrayOf_alike hZ.alike Ar33.2.1) Ar33.2.2 hin33 hat33 (g := (mkF m 13 #[lR a, lI f_, lU, lU, lU, lU, lU, lU] [(.int f_), (.ref bz_)])) rfl rfl (hb hby d13_13) _ k) ?_
  show own_Go p e below s _ _ _ (T32.setTop (mkF m 14 #[lR a, lI f_, lU, lU, lU, lU, lU, lU] [(.int z_)]))
  by_cases hc34 : z_ = (0 : Int32)
  · refine own_via (fun _ k => XS.ifNo X32.here hx rfl (hb hby d13_14) rfl (Jvm.Free.XT.i0_ne_f hc34) k) ?_
    show own_Go p e below s _ _ _ (T32.setTop (mkF m 17 #[lR a, lI f_, lU, lU, lU, lU, lU, lU] []))
    refine own_via (fun _ k => XS.aloadN X32.here hx rfl (hb hby d13_17) rfl rfl k) ?_
    show own_Go p e below s _ _ _ (T32.setTop (mkF m 18 #[lR a, lI f_, lU, lU, lU, lU, lU, lU] [(.ref a)]))
    refine own_via (fun _ k => XS.iloadN X32.here hx rfl (hb hby d13_18) rfl k) ?_
    show own_Go p e below s _ _ _ (T32.setTop (mkF m 19 #[lR a, lI f_, lU, lU, lU, lU, lU, lU] [(.int f_), (.ref a)]))
    obtain ⟨cq35, kq35, qa35, qb35, qc35⟩ := isOf hZ e32 E_a
    obtain ⟨_, _, ⟨T35, L35, k35, n35⟩, -, X35, ⟨Lc35, hQ35, l35, y35, z35⟩, st35⟩ := X32.virtualBack hx (y := (⟨"com/example/trajectory/trajectory/search/Nodes", "isWithinLimit", "(I)Z"⟩ : MethodName)) (z := (⟨"com/example/trajectory/trajectory/search/Nodes", "isWithinLimit", "(I)Z"⟩ : MethodName)) hown (mvT hZ (hwi hw 90 rfl)) (mvT hZ (hwi hw 91 rfl)) (notFace_of_selects (args := #[]) (mvT hZ (hwi hw 93 rfl))) (mvT hZ (hwi hw 93 rfl)) (mvT hZ (hwi hw 92 rfl)) (by decide) (backOf (W := 0) (rm11 l Z a0 hw [] a f_ bl_ ll_ kl_ vbl_ u_ h0 n0 Z0 F_lengths_a F_lengthLimit_a V_bl_ hp19 hp21) hZ (hwi hw 94 rfl) (hwi hw 4 rfl) (by decide) (by decide)) qa35 qc35 (g := (mkF m 19 #[lR a, lI f_, lU, lU, lU, lU, lU, lU] [(.int f_), (.ref a)])) rfl (by rw [hml]; rfl) (Steps.refl _) (argsL := [(.int f_)]) (rest := []) (lenOf pd_3 rfl) rfl (by show 2 * 0 + _ ≤ _; exact Nat.le_of_eq rfl) (hb hby d13_19) (fun _ _ => ⟨rfl, e32, (by decide : 0 + 0 ≤ _), (by decide : 0 + 0 ≤ _)⟩)
    dsimp only [Pt.U, Pt.locs, Pt.cells, Pt.slots] at X35 l35 y35 z35 st35 hQ35
    subst l35 y35 z35
    obtain ⟨rfl, N35q, e35⟩ := hQ35
    have N35 := Fr.app N0 N35q
    refine own_viaT st35 ?_
    show own_Go p e below s _ _ _ (T35.setTop (mkF m 22 #[lR a, lI f_, lU, lU, lU, lU, lU, lU] [(.int (own_w u_ ll_))]))
    by_cases hc36 : (own_w u_ ll_) = (0 : Int32)
    · refine own_via (fun _ k => XS.ifYes X35.here hx rfl (pc0 := 22) (pc' := 35) rfl (hb hby d13_22) rfl (Jvm.Free.XT.i0_eq_t hc36) (by decide) (by decide) k) ?_
      show own_Go p e below s _ _ _ (T35.setTop (mkF m 35 #[lR a, lI f_, lU, lU, lU, lU, lU, lU] []))
      exact jp ww_ _ _ _ X35 e35 N35 Z0 K0 E_a F_frontierCosts_a F_frontierRanks_a F_waiting_a F_waitingWithin_a V_bf_ V_br_ (by rw [own_pol, if_pos hc34, own_dec, if_pos hc36])
    · refine own_via (fun _ k => XS.ifNo X35.here hx rfl (hb hby d13_22) rfl (Jvm.Free.XT.i0_eq_f hc36) k) ?_
      show own_Go p e below s _ _ _ (T35.setTop (mkF m 25 #[lR a, lI f_, lU, lU, lU, lU, lU, lU] []))
      refine own_via (fun _ k => XS.aloadN X35.here hx rfl (hb hby d13_25) rfl rfl k) ?_
      show own_Go p e below s _ _ _ (T35.setTop (mkF m 26 #[lR a, lI f_, lU, lU, lU, lU, lU, lU] [(.ref a)]))
      refine own_via (fun _ k => XS.dup X35.here hx rfl (hb hby d13_26) rfl rfl k) ?_
      show own_Go p e below s _ _ _ (T35.setTop (mkF m 27 #[lR a, lI f_, lU, lU, lU, lU, lU, lU] [(.ref a), (.ref a)]))
      obtain ⟨T37, X37, e37, st37⟩ := getF X35 hx hZ hown (host := "") (Or.inl (hwi hw 81 rfl)) Via.refl e35 F_waitingWithin_a (g := (mkF m 27 #[lR a, lI f_, lU, lU, lU, lU, lU, lU] [(.ref a), (.ref a)])) rfl rfl (hb hby d13_27)
      refine own_via st37 ?_
      show own_Go p e below s _ _ _ (T37.setTop (mkF m 30 #[lR a, lI f_, lU, lU, lU, lU, lU, lU] [(.long ww_), (.ref a)]))
      refine own_via (fun _ k => XS.lconst X37.here hx rfl (hb hby d13_30) k) ?_
      show own_Go p e below s _ _ _ (T37.setTop (mkF m 31 #[lR a, lI f_, lU, lU, lU, lU, lU, lU] [(.long (1 : Int64)), (.long ww_), (.ref a)]))
      refine own_via (fun _ k => XS.lsub X37.here hx rfl (hb hby d13_31) rfl k) ?_
      show own_Go p e below s _ _ _ (T37.setTop (mkF m 32 #[lR a, lI f_, lU, lU, lU, lU, lU, lU] [(.long (ww_ - (1 : Int64))), (.ref a)]))
      obtain ⟨T38, h38, X38, e38, W38, st38⟩ := putF X37 hx hZ hown (host := "") (Or.inl (hwi hw 81 rfl)) Via.refl e37 F_waitingWithin_a E_a (Or.inl (hwi hw 82 rfl)) (hwi hw 3 rfl) (ty := .long) (by decide) rfl rfl (g := (mkF m 32 #[lR a, lI f_, lU, lU, lU, lU, lU, lU] [(.long (ww_ - (1 : Int64))), (.ref a)])) rfl rfl (hb hby d13_32)
      have N38 := Fr.snoc X38 N35 g_a
      have Fw38 := F_waitingWithin_a.same W38
      have Z38 : n0 ≤ h38.size := Nat.le_trans Z0 (Keep.of_wr W38).1
      have K38 : Keep h0 h38 [a, bf_, br_] := K0.wr W38 (Or.inl (List.mem_of_getElem? (i := 0) rfl))
      refine own_via st38 ?_
      show own_Go p e below s _ _ _ (T38.setTop (mkF m 35 #[lR a, lI f_, lU, lU, lU, lU, lU, lU] []))
      have F39 := (E_a.wr W38)
      have F40 := (F_frontierCosts_a.other W38 (Or.inr (sn34 hw)))
      have F41 := (F_frontierRanks_a.other W38 (Or.inr (sn35 hw)))
      have F42 := (F_waiting_a.other W38 (Or.inr (sn36 hw)))
      have F43 := (V_bf_.other W38 (Ne.symm ne_a_bf_))
      have F44 := (V_br_.other W38 (Ne.symm ne_a_br_))
      exact jp (ww_ - (1 : Int64)) _ _ _ X38 e38 N38 Z38 K38 F39 F40 F41 F42 Fw38 F43 F44 (by rw [own_pol, if_pos hc34, own_dec, if_neg hc36])
  · refine own_via (fun _ k => XS.ifYes X32.here hx rfl (pc0 := 14) (pc' := 35) rfl (hb hby d13_14) rfl (Jvm.Free.XT.i0_ne_t hc34) (by decide) (by decide) k) ?_
    show own_Go p e below s _ _ _ (T32.setTop (mkF m 35 #[lR a, lI f_, lU, lU, lU, lU, lU, lU] []))
    exact jp ww_ _ _ _ X32 e32 N0 Z0 K0 E_a F_frontierCosts_a F_frontierRanks_a F_waiting_a F_waitingWithin_a V_bf_ V_br_ (by rw [own_pol, if_neg hc34])
theorem ef_po2 (m : MethodId) (x0 : Addr) : entryFrame m #[(.ref x0)] 8 = mkF m 0 #[.val (.ref x0), .unset, .unset, .unset, .unset, .unset, .unset, .unset] [] := by first | (simp [entryFrame, mkF, argsToLocals, Value.category]; done) | rfl
def Qpo2 (Z : State) (a : Addr) (ll_ : Int64) (ww_ : Int64) (u_ : Int32) (z_ : Int32) (f_ : Int32) (d0_ : UInt64) (d1_ : UInt64) (r0_ : Int64) (r1_ : Int64) (bl_ : Addr) (bz_ : Addr) (bf_ : Addr) (br_ : Addr) (kl_ : ClassId) (kz_ : ClassId) (kf_ : ClassId) (kr_ : ClassId) (vbl_ : List Value) (vz_ : List Value) (h0 : Heap) (n0 : Nat) (v : Option Value) (h : Heap) (L : List Loc) : Prop := v = some (.int f_) ∧ Fr n0 L ∧ Keep h0 h [a, bf_, br_] ∧ Exa Z h a "com/example/trajectory/trajectory/search/Nodes" ∧ Fld Z h a "com/example/trajectory/trajectory/search/Nodes" "waitingWithin" "J" (.long (own_pol ww_ z_ u_ ll_))
set_option maxRecDepth 65536 in
set_option maxHeartbeats 40000000 in
theorem rmpo2 (l : Launch) (Z : State) (a0 : Array Value) (hw : ∀ d ∈ tables_1, d.before a0 Z = true) (ws : List Jvm.Cond) (a : Addr) (ll_ : Int64) (ww_ : Int64) (u_ : Int32) (z_ : Int32) (f_ : Int32) (d0_ : UInt64) (d1_ : UInt64) (r0_ : Int64) (r1_ : Int64) (bl_ : Addr) (bz_ : Addr) (bf_ : Addr) (br_ : Addr) (kl_ : ClassId) (kz_ : ClassId) (kf_ : ClassId) (kr_ : ClassId) (vbl_ : List Value) (vz_ : List Value) (h0 : Heap) (n0 : Nat) (Z0 : n0 ≤ h0.size) (E_a : Exa Z h0 a "com/example/trajectory/trajectory/search/Nodes") (F_lengthLimit_a : Fld Z h0 a "com/example/trajectory/trajectory/search/Nodes" "lengthLimit" "J" (.long ll_)) (F_lengths_a : Fld Z h0 a "com/example/trajectory/trajectory/search/Nodes" "lengths" "[I" (.ref bl_)) (F_superseded_a : Fld Z h0 a "com/example/trajectory/trajectory/search/Nodes" "superseded" "[Z" (.ref bz_)) (F_frontierCosts_a : Fld Z h0 a "com/example/trajectory/trajectory/search/Nodes" "frontierCosts" "[D" (.ref bf_)) (F_frontierRanks_a : Fld Z h0 a "com/example/trajectory/trajectory/search/Nodes" "frontierRanks" "[J" (.ref br_)) (F_waiting_a : Fld Z h0 a "com/example/trajectory/trajectory/search/Nodes" "waiting" "I" (.int (2 : Int32))) (F_waitingWithin_a : Fld Z h0 a "com/example/trajectory/trajectory/search/Nodes" "waitingWithin" "J" (.long ww_)) (V_bl_ : Arv Z h0 bl_ kl_ .int (64 : Int32) vbl_ (.int (0 : Int32))) (V_bz_ : Arv Z h0 bz_ kz_ .boolean (64 : Int32) vz_ (.int (0 : Int32))) (V_bf_ : Arv Z h0 bf_ kf_ .double (64 : Int32) [(.double d0_), (.double d1_), (.double (0 : UInt64)), (.double (0 : UInt64))] (.double (0 : UInt64))) (V_br_ : Arv Z h0 br_ kr_ .long (64 : Int32) [(.long r0_), (.long r1_), (.long (0 : Int64)), (.long (0 : Int64))] (.long (0 : Int64))) (g_a : n0 ≤ a) (g_bf_ : n0 ≤ bf_) (g_br_ : n0 ≤ br_) (ne_a_bf_ : a ≠ bf_) (ne_a_br_ : a ≠ br_) (ne_bf__br_ : bf_ ≠ br_) (hp18 : (o_l2i r0_) = f_) (hp19 : ¬ f_ < 0 ∧ f_ < (64 : Int32)) (hp20 : vz_.getD (f_).toNatClampNeg (.int (0 : Int32)) = (.int z_)) (hp21 : vbl_.getD (f_).toNatClampNeg (.int (0 : Int32)) = (.int u_)) :
    MetFree l (⟨"com/example/trajectory/trajectory/search/Nodes", "poll", "()I"⟩ : MethodName) (head1 (Jvm.Cond.code (⟨"com/example/trajectory/trajectory/search/Nodes", "poll", "()I"⟩ : MethodName) prog_59_method_23_code 8 (some .int) :: ws) ({ frames := 1, cells := 0, slots := 0, locals := 13 } : Room)) (fun q_ U => q_ = #[(.ref a)] ∧ Z.Warmed39 U.vm ∧ U.heap = h0) (fun _ _ _ _ _ => True) (fun _ U o U' => ∃ v L, o = .returned v ∧ Qpo2 Z a ll_ ww_ u_ z_ f_ d0_ d1_ r0_ r1_ bl_ bz_ bf_ br_ kl_ kz_ kf_ kr_ vbl_ vz_ h0 n0 v U'.heap L ∧ FrameEnd U o U' L ({ frames := 1, cells := 0, slots := 0, locals := 13 } : Room).cells ({ frames := 1, cells := 0, slots := 0, locals := 13 } : Room).slots) := by
  refine MetFree.of_bodySF (plainFor_of_name pn_1) hisR ?_
  intro p e s m args below meth c s₁ Bd hml0 hP hK
  obtain ⟨rfl, hZ, hh⟩ := hP
  have hx := Bd.exec
  have hby := Bd.bytes
  have hml : c.maxLocals = 8 := hml0
  have hown : s.vm.findClass "com/example/trajectory/trajectory/search/Nodes" = some m.cls := findClass_of_methodNamed Bd.named
  have hnm := (name_of_methodNamed Bd.named Bd.method).1
  have X0 : Stand p l e ({ frames := 1, cells := 0, slots := 0, locals := 13 } : Room) s m #[(.ref a)] below meth c s₁ [] 0 0 := Stand.of_body Bd
  have e0 : s₁.heap = h0 := by rw [← hh, Bd.state]; rfl
  have N0 := Fr.nil n0
  show own_Go p e below s (Qpo2 Z a ll_ ww_ u_ z_ f_ d0_ d1_ r0_ r1_ bl_ bz_ bf_ br_ kl_ kz_ kf_ kr_ vbl_ vz_ h0 n0) ({ frames := 1, cells := 0, slots := 0, locals := 13 } : Room).cells ({ frames := 1, cells := 0, slots := 0, locals := 13 } : Room).slots (s₁.setTop (entryFrame m #[(.ref a)] 8))
  refine own_via (fun t k => castTop (ef_po2 m a) k) ?_
  have K0 : Keep h0 h0 [a, bf_, br_] := Keep.refl _ _
  show own_Go p e below s _ _ _ (s₁.setTop (mkF m 0 #[lR a, lU, lU, lU, lU, lU, lU, lU] []))
  refine own_via (fun _ k => XS.aloadN X0.here hx rfl (hb hby d13_0) rfl rfl k) ?_
  show own_Go p e below s _ _ _ (s₁.setTop (mkF m 1 #[lR a, lU, lU, lU, lU, lU, lU, lU] [(.ref a)]))
  obtain ⟨T1, X1, e1, st1⟩ := getF X0 hx hZ hown (host := "") (Or.inl (hwi hw 63 rfl)) Via.refl e0 F_frontierRanks_a (g := (mkF m 1 #[lR a, lU, lU, lU, lU, lU, lU, lU] [(.ref a)])) rfl rfl (hb hby d13_1)
  refine own_via st1 ?_
  show own_Go p e below s _ _ _ (T1.setTop (mkF m 4 #[lR a, lU, lU, lU, lU, lU, lU, lU] [(.ref br_)]))
  refine own_via (fun _ k => XS.iconst X1.here hx rfl (hb hby d13_4) k) ?_
  show own_Go p e below s _ _ _ (T1.setTop (mkF m 5 #[lR a, lU, lU, lU, lU, lU, lU, lU] [(.int (0 : Int32)), (.ref br_)]))
  obtain ⟨cl2, Ar2, q2, S2, M2, H2, G2⟩ := (id V_br_)
  have hin2 : ¬ ((0 : Int32) < 0 ∨ cl2.slots.size ≤ ((0 : Int32)).toNatClampNeg) := inb_of S2 ⟨by decide, by decide⟩
  have hat2 : cl2.slots[((0 : Int32)).toNatClampNeg]? = some (.long r0_) := Has.at H2 hin2 rfl
  refine own_via (fun _ k => X1.laload hx (j := (0 : Int32)) (v := (.long r0_)) (by rw [e1]; exact Ar2.1) (State.isArrayOf_alike hZ.alike Ar2.2.1) Ar2.2.2 hin2 hat2 (g := (mkF m 5 #[lR a, lU, lU, lU, lU, lU, lU, lU] [(.int (0 : Int32)), (.ref br_)])) rfl rfl (hb hby d13_5) _ k) ?_
  show own_Go p e below s _ _ _ (T1.setTop (mkF m 6 #[lR a, lU, lU, lU, lU, lU, lU, lU] [(.long r0_)]))
  refine own_via (fun _ k => XS.l2i X1.here hx rfl (hb hby d13_6) rfl k) ?_
  show own_Go p e below s _ _ _ (T1.setTop (mkF m 7 #[lR a, lU, lU, lU, lU, lU, lU, lU] [(.int (o_l2i r0_))]))
  rw [show (o_l2i r0_) = f_ from hp18]
  show own_Go p e below s _ _ _ (T1.setTop (mkF m 7 #[lR a, lU, lU, lU, lU, lU, lU, lU] [(.int f_)]))
  refine own_via (fun _ k => XS.istoreN X1.here hx rfl (hb hby d13_7) rfl (l' := #[lR a, lI f_, lU, lU, lU, lU, lU, lU]) rfl k) ?_
  show own_Go p e below s _ _ _ (T1.setTop (mkF m 8 #[lR a, lI f_, lU, lU, lU, lU, lU, lU] []))
  have jp : ∀ (w2_ : Int64) (T3 : State) (lo3 : List Loc) (h3 : Heap), Stand p l e ({ frames := 1, cells := 0, slots := 0, locals := 13 } : Room) s m #[(.ref a)] below meth c T3 lo3 0 0 → T3.heap = h3 → Fr n0 lo3 → n0 ≤ h3.size → Keep h0 h3 [a, bf_, br_] → Exa Z h3 a "com/example/trajectory/trajectory/search/Nodes" → Fld Z h3 a "com/example/trajectory/trajectory/search/Nodes" "frontierCosts" "[D" (.ref bf_) → Fld Z h3 a "com/example/trajectory/trajectory/search/Nodes" "frontierRanks" "[J" (.ref br_) → Fld Z h3 a "com/example/trajectory/trajectory/search/Nodes" "waiting" "I" (.int (2 : Int32)) → Fld Z h3 a "com/example/trajectory/trajectory/search/Nodes" "waitingWithin" "J" (.long w2_) → Arv Z h3 bf_ kf_ .double (64 : Int32) [(.double d0_), (.double d1_), (.double (0 : UInt64)), (.double (0 : UInt64))] (.double (0 : UInt64)) → Arv Z h3 br_ kr_ .long (64 : Int32) [(.long r0_), (.long r1_), (.long (0 : Int64)), (.long (0 : Int64))] (.long (0 : Int64)) → w2_ = own_pol ww_ z_ u_ ll_ → own_Go p e below s (Qpo2 Z a ll_ ww_ u_ z_ f_ d0_ d1_ r0_ r1_ bl_ bz_ bf_ br_ kl_ kz_ kf_ kr_ vbl_ vz_ h0 n0) ({ frames := 1, cells := 0, slots := 0, locals := 13 } : Room).cells ({ frames := 1, cells := 0, slots := 0, locals := 13 } : Room).slots (T3.setTop (mkF m 35 #[lR a, lI f_, lU, lU, lU, lU, lU, lU] [])) := by
    intro w2_ T3 lo3 h3 X3 e3 N3 Z3 K3 F4 F5 F6 F7 F8 F9 F10 hw2
    show own_Go p e below s _ _ _ (T3.setTop (mkF m 35 #[lR a, lI f_, lU, lU, lU, lU, lU, lU] []))
    refine own_via (fun _ k => XS.aloadN X3.here hx rfl (hb hby d13_35) rfl rfl k) ?_
    show own_Go p e below s _ _ _ (T3.setTop (mkF m 36 #[lR a, lI f_, lU, lU, lU, lU, lU, lU] [(.ref a)]))
    refine own_via (fun _ k => XS.dup X3.here hx rfl (hb hby d13_36) rfl rfl k) ?_
    show own_Go p e below s _ _ _ (T3.setTop (mkF m 37 #[lR a, lI f_, lU, lU, lU, lU, lU, lU] [(.ref a), (.ref a)]))
    obtain ⟨T11, X11, e11, st11⟩ := getF X3 hx hZ hown (host := "") (Or.inl (hwi hw 88 rfl)) Via.refl e3 F7 (g := (mkF m 37 #[lR a, lI f_, lU, lU, lU, lU, lU, lU] [(.ref a), (.ref a)])) rfl rfl (hb hby d13_37)
    refine own_via st11 ?_
    show own_Go p e below s _ _ _ (T11.setTop (mkF m 40 #[lR a, lI f_, lU, lU, lU, lU, lU, lU] [(.int (2 : Int32)), (.ref a)]))
    refine own_via (fun _ k => XS.iconst X11.here hx rfl (hb hby d13_40) k) ?_
    show own_Go p e below s _ _ _ (T11.setTop (mkF m 41 #[lR a, lI f_, lU, lU, lU, lU, lU, lU] [(.int (1 : Int32)), (.int (2 : Int32)), (.ref a)]))
    refine own_via (fun _ k => XS.isub X11.here hx rfl (hb hby d13_41) rfl k) ?_
    show own_Go p e below s _ _ _ (T11.setTop (mkF m 42 #[lR a, lI f_, lU, lU, lU, lU, lU, lU] [(.int (1 : Int32)), (.ref a)]))
    obtain ⟨T12, h12, X12, e12, W12, st12⟩ := putF X11 hx hZ hown (host := "") (Or.inl (hwi hw 88 rfl)) Via.refl e11 F7 F4 (Or.inl (hwi hw 89 rfl)) (hwi hw 3 rfl) (ty := .int) (by decide) rfl rfl (g := (mkF m 42 #[lR a, lI f_, lU, lU, lU, lU, lU, lU] [(.int (1 : Int32)), (.ref a)])) rfl rfl (hb hby d13_42)
    have N12 := Fr.snoc X12 N3 g_a
    have Fw12 := F7.same W12
    have Z12 : n0 ≤ h12.size := Nat.le_trans Z3 (Keep.of_wr W12).1
    have K12 : Keep h0 h12 [a, bf_, br_] := K3.wr W12 (Or.inl (List.mem_of_getElem? (i := 0) rfl))
    refine own_via st12 ?_
    show own_Go p e below s _ _ _ (T12.setTop (mkF m 45 #[lR a, lI f_, lU, lU, lU, lU, lU, lU] []))
    refine own_via (fun _ k => XS.aloadN X12.here hx rfl (hb hby d13_45) rfl rfl k) ?_
    show own_Go p e below s _ _ _ (T12.setTop (mkF m 46 #[lR a, lI f_, lU, lU, lU, lU, lU, lU] [(.ref a)]))
    have F13 := (F5.other W12 (Or.inr (sn16 hw)))
    obtain ⟨T14, X14, e14, st14⟩ := getF X12 hx hZ hown (host := "") (Or.inl (hwi hw 61 rfl)) Via.refl e12 F13 (g := (mkF m 46 #[lR a, lI f_, lU, lU, lU, lU, lU, lU] [(.ref a)])) rfl rfl (hb hby d13_46)
    refine own_via st14 ?_
    show own_Go p e below s _ _ _ (T14.setTop (mkF m 49 #[lR a, lI f_, lU, lU, lU, lU, lU, lU] [(.ref bf_)]))
    refine own_via (fun _ k => XS.aloadN X14.here hx rfl (hb hby d13_49) rfl rfl k) ?_
    show own_Go p e below s _ _ _ (T14.setTop (mkF m 50 #[lR a, lI f_, lU, lU, lU, lU, lU, lU] [(.ref a), (.ref bf_)]))
    obtain ⟨T15, X15, e15, st15⟩ := getF X14 hx hZ hown (host := "") (Or.inl (hwi hw 88 rfl)) Via.refl e14 Fw12 (g := (mkF m 50 #[lR a, lI f_, lU, lU, lU, lU, lU, lU] [(.ref a), (.ref bf_)])) rfl rfl (hb hby d13_50)
    refine own_via st15 ?_
    show own_Go p e below s _ _ _ (T15.setTop (mkF m 53 #[lR a, lI f_, lU, lU, lU, lU, lU, lU] [(.int (1 : Int32)), (.ref bf_)]))
    have F17 := (F9.other W12 (Ne.symm ne_a_bf_))
    obtain ⟨cl16, Ar16, q16, S16, M16, H16, G16⟩ := (id F17)
    have hin16 : ¬ ((1 : Int32) < 0 ∨ cl16.slots.size ≤ ((1 : Int32)).toNatClampNeg) := inb_of S16 ⟨by decide, by decide⟩
    have hat16 : cl16.slots[((1 : Int32)).toNatClampNeg]? = some (.double d1_) := Has.at H16 hin16 rfl
    refine own_via (fun _ k => X15.daload hx (j := (1 : Int32)) (v := (.double d1_)) (by rw [e15]; exact Ar16.1) (State.isArrayOf_alike hZ.alike Ar16.2.1) Ar16.2.2 hin16 hat16 (g := (mkF m 53 #[lR a, lI f_, lU, lU, lU, lU, lU, lU] [(.int (1 : Int32)), (.ref bf_)])) rfl rfl (hb hby d13_53) _ k) ?_
    show own_Go p e below s _ _ _ (T15.setTop (mkF m 54 #[lR a, lI f_, lU, lU, lU, lU, lU, lU] [(.double d1_)]))
    refine own_via (fun _ k => XS.dstoreN X15.here hx rfl (hb hby d13_54) rfl (l' := #[lR a, lI f_, lD d1_, lS, lU, lU, lU, lU]) rfl k) ?_
    show own_Go p e below s _ _ _ (T15.setTop (mkF m 55 #[lR a, lI f_, lD d1_, lS, lU, lU, lU, lU] []))
    refine own_via (fun _ k => XS.aloadN X15.here hx rfl (hb hby d13_55) rfl rfl k) ?_
    show own_Go p e below s _ _ _ (T15.setTop (mkF m 56 #[lR a, lI f_, lD d1_, lS, lU, lU, lU, lU] [(.ref a)]))
    have F18 := (F6.other W12 (Or.inr (sn17 hw)))
    obtain ⟨T19, X19, e19, st19⟩ := getF X15 hx hZ hown (host := "") (Or.inl (hwi hw 63 rfl)) Via.refl e15 F18 (g := (mkF m 56 #[lR a, lI f_, lD d1_, lS, lU, lU, lU, lU] [(.ref a)])) rfl rfl (hb hby d13_56)
    refine own_via st19 ?_
    show own_Go p e below s _ _ _ (T19.setTop (mkF m 59 #[lR a, lI f_, lD d1_, lS, lU, lU, lU, lU] [(.ref br_)]))
    refine own_via (fun _ k => XS.aloadN X19.here hx rfl (hb hby d13_59) rfl rfl k) ?_
    show own_Go p e below s _ _ _ (T19.setTop (mkF m 60 #[lR a, lI f_, lD d1_, lS, lU, lU, lU, lU] [(.ref a), (.ref br_)]))
    obtain ⟨T20, X20, e20, st20⟩ := getF X19 hx hZ hown (host := "") (Or.inl (hwi hw 88 rfl)) Via.refl e19 Fw12 (g := (mkF m 60 #[lR a, lI f_, lD d1_, lS, lU, lU, lU, lU] [(.ref a), (.ref br_)])) rfl rfl (hb hby d13_60)
    refine own_via st20 ?_
    show own_Go p e below s _ _ _ (T20.setTop (mkF m 63 #[lR a, lI f_, lD d1_, lS, lU, lU, lU, lU] [(.int (1 : Int32)), (.ref br_)]))
    have F22 := (F10.other W12 (Ne.symm ne_a_br_))
    obtain ⟨cl21, Ar21, q21, S21, M21, H21, G21⟩ := (id F22)
    have hin21 : ¬ ((1 : Int32) < 0 ∨ cl21.slots.size ≤ ((1 : Int32)).toNatClampNeg) := inb_of S21 ⟨by decide, by decide⟩
    have hat21 : cl21.slots[((1 : Int32)).toNatClampNeg]? = some (.long r1_) := Has.at H21 hin21 rfl
    refine own_via (fun _ k => X20.laload hx (j := (1 : Int32)) (v := (.long r1_)) (by rw [e20]; exact Ar21.1) (State.isArrayOf_alike hZ.alike Ar21.2.1) Ar21.2.2 hin21 hat21 (g := (mkF m 63 #[lR a, lI f_, lD d1_, lS, lU, lU, lU, lU] [(.int (1 : Int32)), (.ref br_)])) rfl rfl (hb hby d13_63) _ k) ?_
    show own_Go p e below s _ _ _ (T20.setTop (mkF m 64 #[lR a, lI f_, lD d1_, lS, lU, lU, lU, lU] [(.long r1_)]))
    refine own_via (fun _ k => XS.lstore X20.here hx rfl (hb hby d13_64) rfl (l' := #[lR a, lI f_, lD d1_, lS, lJ r1_, lS, lU, lU]) rfl k) ?_
    show own_Go p e below s _ _ _ (T20.setTop (mkF m 66 #[lR a, lI f_, lD d1_, lS, lJ r1_, lS, lU, lU] []))
    refine own_via (fun _ k => XS.iconst X20.here hx rfl (hb hby d13_66) k) ?_
    show own_Go p e below s _ _ _ (T20.setTop (mkF m 67 #[lR a, lI f_, lD d1_, lS, lJ r1_, lS, lU, lU] [(.int (0 : Int32))]))
    refine own_via (fun _ k => XS.istore X20.here hx rfl (hb hby d13_67) rfl (l' := #[lR a, lI f_, lD d1_, lS, lJ r1_, lS, lI 0, lU]) rfl k) ?_
    show own_Go p e below s _ _ _ (T20.setTop (mkF m 69 #[lR a, lI f_, lD d1_, lS, lJ r1_, lS, lI 0, lU] []))
    refine own_via (fun _ k => XS.iconst X20.here hx rfl (hb hby d13_69) k) ?_
    show own_Go p e below s _ _ _ (T20.setTop (mkF m 70 #[lR a, lI f_, lD d1_, lS, lJ r1_, lS, lI 0, lU] [(.int (1 : Int32))]))
    refine own_via (fun _ k => XS.istore X20.here hx rfl (hb hby d13_70) rfl (l' := #[lR a, lI f_, lD d1_, lS, lJ r1_, lS, lI 0, lI 1]) rfl k) ?_
    show own_Go p e below s _ _ _ (T20.setTop (mkF m 72 #[lR a, lI f_, lD d1_, lS, lJ r1_, lS, lI 0, lI 1] []))
    refine own_via (fun _ k => XS.iload X20.here hx rfl (hb hby d13_72) rfl k) ?_
    show own_Go p e below s _ _ _ (T20.setTop (mkF m 74 #[lR a, lI f_, lD d1_, lS, lJ r1_, lS, lI 0, lI 1] [(.int (1 : Int32))]))
    refine own_via (fun _ k => XS.aloadN X20.here hx rfl (hb hby d13_74) rfl rfl k) ?_
    show own_Go p e below s _ _ _ (T20.setTop (mkF m 75 #[lR a, lI f_, lD d1_, lS, lJ r1_, lS, lI 0, lI 1] [(.ref a), (.int (1 : Int32))]))
    obtain ⟨T23, X23, e23, st23⟩ := getF X20 hx hZ hown (host := "") (Or.inl (hwi hw 88 rfl)) Via.refl e20 Fw12 (g := (mkF m 75 #[lR a, lI f_, lD d1_, lS, lJ r1_, lS, lI 0, lI 1] [(.ref a), (.int (1 : Int32))])) rfl rfl (hb hby d13_75)
    refine own_via st23 ?_
    show own_Go p e below s _ _ _ (T23.setTop (mkF m 78 #[lR a, lI f_, lD d1_, lS, lJ r1_, lS, lI 0, lI 1] [(.int (1 : Int32)), (.int (1 : Int32))]))
    refine own_via (fun _ k => XS.icmpYes X23.here hx rfl (pc0 := 78) (pc' := 202) rfl (hb hby d13_78) rfl (Jvm.Free.XT.ii_ge_t (by decide)) (by decide) (by decide) k) ?_
    show own_Go p e below s _ _ _ (T23.setTop (mkF m 202 #[lR a, lI f_, lD d1_, lS, lJ r1_, lS, lI 0, lI 1] []))
    refine own_via (fun _ k => XS.aloadN X23.here hx rfl (hb hby d13_202) rfl rfl k) ?_
    show own_Go p e below s _ _ _ (T23.setTop (mkF m 203 #[lR a, lI f_, lD d1_, lS, lJ r1_, lS, lI 0, lI 1] [(.ref a)]))
    obtain ⟨T24, X24, e24, st24⟩ := getF X23 hx hZ hown (host := "") (Or.inl (hwi hw 61 rfl)) Via.refl e23 F13 (g := (mkF m 203 #[lR a, lI f_, lD d1_, lS, lJ r1_, lS, lI 0, lI 1] [(.ref a)])) rfl rfl (hb hby d13_203)
    refine own_via st24 ?_
    show own_Go p e below s _ _ _ (T24.setTop (mkF m 206 #[lR a, lI f_, lD d1_, lS, lJ r1_, lS, lI 0, lI 1] [(.ref bf_)]))
    refine own_via (fun _ k => XS.iload X24.here hx rfl (hb hby d13_206) rfl k) ?_
    show own_Go p e below s _ _ _ (T24.setTop (mkF m 208 #[lR a, lI f_, lD d1_, lS, lJ r1_, lS, lI 0, lI 1] [(.int (0 : Int32)), (.ref bf_)]))
    refine own_via (fun _ k => XS.dloadN X24.here hx rfl (hb hby d13_208) rfl k) ?_
    show own_Go p e below s _ _ _ (T24.setTop (mkF m 209 #[lR a, lI f_, lD d1_, lS, lJ r1_, lS, lI 0, lI 1] [(.double d1_), (.int (0 : Int32)), (.ref bf_)]))
    obtain ⟨cl25, Ar25, q25, S25, M25, H25, G25⟩ := (id F17)
    have hin25 : ¬ ((0 : Int32) < 0 ∨ cl25.slots.size ≤ ((0 : Int32)).toNatClampNeg) := inb_of S25 ⟨by decide, by decide⟩
    obtain ⟨T25, h25, X25, e25, W25, st25⟩ := stD X24 hx hZ e24 Ar25 (j := (0 : Int32)) hin25 (g := (mkF m 209 #[lR a, lI f_, lD d1_, lS, lJ r1_, lS, lI 0, lI 1] [(.double d1_), (.int (0 : Int32)), (.ref bf_)])) rfl rfl (hb hby d13_209)
    have V25 : Arv Z h25 bf_ kf_ .double (64 : Int32) [(.double d1_), (.double d1_), (.double (0 : UInt64)), (.double (0 : UInt64))] (.double (0 : UInt64)) := Arv.set Ar25 q25 S25 M25 H25 G25 rfl W25 0 rfl (Nat.le_of_ble_eq_true rfl)
    have N25 := Fr.snoc X25 N12 g_bf_
    have Z25 : n0 ≤ h25.size := Nat.le_trans Z12 (Keep.of_wr W25).1
    have K25 : Keep h0 h25 [a, bf_, br_] := K12.wr W25 (Or.inl (List.mem_of_getElem? (i := 1) rfl))
    refine own_via st25 ?_
    show own_Go p e below s _ _ _ (T25.setTop (mkF m 210 #[lR a, lI f_, lD d1_, lS, lJ r1_, lS, lI 0, lI 1] []))
    refine own_via (fun _ k => XS.aloadN X25.here hx rfl (hb hby d13_210) rfl rfl k) ?_
    show own_Go p e below s _ _ _ (T25.setTop (mkF m 211 #[lR a, lI f_, lD d1_, lS, lJ r1_, lS, lI 0, lI 1] [(.ref a)]))
    have F26 := (F18.other W25 (Or.inl ne_a_bf_))
    obtain ⟨T27, X27, e27, st27⟩ := getF X25 hx hZ hown (host := "") (Or.inl (hwi hw 63 rfl)) Via.refl e25 F26 (g := (mkF m 211 #[lR a, lI f_, lD d1_, lS, lJ r1_, lS, lI 0, lI 1] [(.ref a)])) rfl rfl (hb hby d13_211)
    refine own_via st27 ?_
    show own_Go p e below s _ _ _ (T27.setTop (mkF m 214 #[lR a, lI f_, lD d1_, lS, lJ r1_, lS, lI 0, lI 1] [(.ref br_)]))
    refine own_via (fun _ k => XS.iload X27.here hx rfl (hb hby d13_214) rfl k) ?_
    show own_Go p e below s _ _ _ (T27.setTop (mkF m 216 #[lR a, lI f_, lD d1_, lS, lJ r1_, lS, lI 0, lI 1] [(.int (0 : Int32)), (.ref br_)]))
    refine own_via (fun _ k => XS.lload X27.here hx rfl (hb hby d13_216) rfl k) ?_
    show own_Go p e below s _ _ _ (T27.setTop (mkF m 218 #[lR a, lI f_, lD d1_, lS, lJ r1_, lS, lI 0, lI 1] [(.long r1_), (.int (0 : Int32)), (.ref br_)]))
    have F29 := (F22.other W25 (Ne.symm ne_bf__br_))
    obtain ⟨cl28, Ar28, q28, S28, M28, H28, G28⟩ := (id F29)
    have hin28 : ¬ ((0 : Int32) < 0 ∨ cl28.slots.size ≤ ((0 : Int32)).toNatClampNeg) := inb_of S28 ⟨by decide, by decide⟩
    obtain ⟨T28, h28, X28, e28, W28, st28⟩ := stJ X27 hx hZ e27 Ar28 (j := (0 : Int32)) hin28 (g := (mkF m 218 #[lR a, lI f_, lD d1_, lS, lJ r1_, lS, lI 0, lI 1] [(.long r1_), (.int (0 : Int32)), (.ref br_)])) rfl rfl (hb hby d13_218)
    have V28 : Arv Z h28 br_ kr_ .long (64 : Int32) [(.long r1_), (.long r1_), (.long (0 : Int64)), (.long (0 : Int64))] (.long (0 : Int64)) := Arv.set Ar28 q28 S28 M28 H28 G28 rfl W28 0 rfl (Nat.le_of_ble_eq_true rfl)
    have N28 := Fr.snoc X28 N25 g_br_
    have Z28 : n0 ≤ h28.size := Nat.le_trans Z25 (Keep.of_wr W28).1
    have K28 : Keep h0 h28 [a, bf_, br_] := K25.wr W28 (Or.inl (List.mem_of_getElem? (i := 2) rfl))
    refine own_via st28 ?_
    show own_Go p e below s _ _ _ (T28.setTop (mkF m 219 #[lR a, lI f_, lD d1_, lS, lJ r1_, lS, lI 0, lI 1] []))
    refine own_via (fun _ k => XS.iloadN X28.here hx rfl (hb hby d13_219) rfl k) ?_
    show own_Go p e below s _ _ _ (T28.setTop (mkF m 220 #[lR a, lI f_, lD d1_, lS, lJ r1_, lS, lI 0, lI 1] [(.int f_)]))
    have F30 := (((F4.wr W12).wr W25).wr W28)
    have F31 := (((F8.other W12 (Or.inr (sn25 hw))).other W25 (Or.inl ne_a_bf_)).other W28 (Or.inl ne_a_br_))
    exact own_goI X28 hx Bd.returns (hb hby d13_220) Bd.notSynchronized (by decide) (by decide) (by rw [e28]; exact ⟨rfl, N28, K28, F30, (by rw [← hw2]; exact F31)⟩)
  show own_Go p e below s _ _ _ (T1.setTop (mkF m 8 #[lR a, lI f_, lU, lU, lU, lU, lU, lU] []))
  refine own_via (fun _ k => XS.aloadN X1.here hx rfl (hb hby d13_8) rfl rfl k) ?_
  show own_Go p e below s _ _ _ (T1.setTop (mkF m 9 #[lR a, lI f_, lU, lU, lU, lU, lU, lU] [(.ref a)]))
  obtain ⟨T32, X32, e32, st32⟩ := getF X1 hx hZ hown (host := "") (Or.inl (hwi hw 55 rfl)) Via.refl e1 F_superseded_a (g := (mkF m 9 #[lR a, lI f_, lU, lU, lU, lU, lU, lU] [(.ref a)])) rfl rfl (hb hby d13_9)
  refine own_via st32 ?_
  show own_Go p e below s _ _ _ (T32.setTop (mkF m 12 #[lR a, lI f_, lU, lU, lU, lU, lU, lU] [(.ref bz_)]))
  refine own_via (fun _ k => XS.iloadN X32.here hx rfl (hb hby d13_12) rfl k) ?_
  show own_Go p e below s _ _ _ (T32.setTop (mkF m 13 #[lR a, lI f_, lU, lU, lU, lU, lU, lU] [(.int f_), (.ref bz_)]))
  obtain ⟨cl33, Ar33, q33, S33, M33, H33, G33⟩ := (id V_bz_)
  have hin33 : ¬ (f_ < 0 ∨ cl33.slots.size ≤ (f_).toNatClampNeg) := inb_of S33 hp19
  have hat33 : cl33.slots[(f_).toNatClampNeg]? = some (.int z_) := Has.at H33 hin33 hp20
  refine own_via (fun _ k => X32.baloadBooleans hx (j := f_) (v := (.int z_)) (by rw [e32]; exact Ar33.1) (State.isArrayOf_alike hZ.alike Ar33.2.1) Ar33.2.2 hin33 hat33 (g := (mkF m 13 #[lR a, lI f_, lU, lU, lU, lU, lU, lU] [(.int f_), (.ref bz_)])) rfl rfl (hb hby d13_13) _ k) ?_
  show own_Go p e below s _ _ _ (T32.setTop (mkF m 14 #[lR a, lI f_, lU, lU, lU, lU, lU, lU] [(.int z_)]))
  by_cases hc34 : z_ = (0 : Int32)
  · refine own_via (fun _ k => XS.ifNo X32.here hx rfl (hb hby d13_14) rfl (Jvm.Free.XT.i0_ne_f hc34) k) ?_
    show own_Go p e below s _ _ _ (T32.setTop (mkF m 17 #[lR a, lI f_, lU, lU, lU, lU, lU, lU] []))
    refine own_via (fun _ k => XS.aloadN X32.here hx rfl (hb hby d13_17) rfl rfl k) ?_
    show own_Go p e below s _ _ _ (T32.setTop (mkF m 18 #[lR a, lI f_, lU, lU, lU, lU, lU, lU] [(.ref a)]))
    refine own_via (fun _ k => XS.iloadN X32.here hx rfl (hb hby d13_18) rfl k) ?_
    show own_Go p e below s _ _ _ (T32.setTop (mkF m 19 #[lR a, lI f_, lU, lU, lU, lU, lU, lU] [(.int f_), (.ref a)]))
    obtain ⟨cq35, kq35, qa35, qb35, qc35⟩ := isOf hZ e32 E_a
    obtain ⟨_, _, ⟨T35, L35, k35, n35⟩, -, X35, ⟨Lc35, hQ35, l35, y35, z35⟩, st35⟩ := X32.virtualBack hx (y := (⟨"com/example/trajectory/trajectory/search/Nodes", "isWithinLimit", "(I)Z"⟩ : MethodName)) (z := (⟨"com/example/trajectory/trajectory/search/Nodes", "isWithinLimit", "(I)Z"⟩ : MethodName)) hown (mvT hZ (hwi hw 90 rfl)) (mvT hZ (hwi hw 91 rfl)) (notFace_of_selects (args := #[]) (mvT hZ (hwi hw 93 rfl))) (mvT hZ (hwi hw 93 rfl)) (mvT hZ (hwi hw 92 rfl)) (by decide) (backOf (W := 0) (rm11 l Z a0 hw [] a f_ bl_ ll_ kl_ vbl_ u_ h0 n0 Z0 F_lengths_a F_lengthLimit_a V_bl_ hp19 hp21) hZ (hwi hw 94 rfl) (hwi hw 4 rfl) (by decide) (by decide)) qa35 qc35 (g := (mkF m 19 #[lR a, lI f_, lU, lU, lU, lU, lU, lU] [(.int f_), (.ref a)])) rfl (by rw [hml]; rfl) (Steps.refl _) (argsL := [(.int f_)]) (rest := []) (lenOf pd_3 rfl) rfl (by show 2 * 0 + _ ≤ _; exact Nat.le_of_eq rfl) (hb hby d13_19) (fun _ _ => ⟨rfl, e32, (by decide : 0 + 0 ≤ _), (by decide : 0 + 0 ≤ _)⟩)
    dsimp only [Pt.U, Pt.locs, Pt.cells, Pt.slots] at X35 l35 y35 z35 st35 hQ35
    subst l35 y35 z35
    obtain ⟨rfl, N35q, e35⟩ := hQ35
    have N35 := Fr.app N0 N35q
    refine own_viaT st35 ?_
    show own_Go p e below s _ _ _ (T35.setTop (mkF m 22 #[lR a, lI f_, lU, lU, lU, lU, lU, lU] [(.int (own_w u_ ll_))]))
    by_cases hc36 : (own_w u_ ll_) = (0 : Int32)
    · refine own_via (fun _ k => XS.ifYes X35.here hx rfl (pc0 := 22) (pc' := 35) rfl (hb hby d13_22) rfl (Jvm.Free.XT.i0_eq_t hc36) (by decide) (by decide) k) ?_
      show own_Go p e below s _ _ _ (T35.setTop (mkF m 35 #[lR a, lI f_, lU, lU, lU, lU, lU, lU] []))
      exact jp ww_ _ _ _ X35 e35 N35 Z0 K0 E_a F_frontierCosts_a F_frontierRanks_a F_waiting_a F_waitingWithin_a V_bf_ V_br_ (by rw [own_pol, if_pos hc34, own_dec, if_pos hc36])
    · refine own_via (fun _ k => XS.ifNo X35.here hx rfl (hb hby d13_22) rfl (Jvm.Free.XT.i0_eq_f hc36) k) ?_
      show own_Go p e below s _ _ _ (T35.setTop (mkF m 25 #[lR a, lI f_, lU, lU, lU, lU, lU, lU] []))
      refine own_via (fun _ k => XS.aloadN X35.here hx rfl (hb hby d13_25) rfl rfl k) ?_
      show own_Go p e below s _ _ _ (T35.setTop (mkF m 26 #[lR a, lI f_, lU, lU, lU, lU, lU, lU] [(.ref a)]))
      refine own_via (fun _ k => XS.dup X35.here hx rfl (hb hby d13_26) rfl rfl k) ?_
      show own_Go p e below s _ _ _ (T35.setTop (mkF m 27 #[lR a, lI f_, lU, lU, lU, lU, lU, lU] [(.ref a), (.ref a)]))
      obtain ⟨T37, X37, e37, st37⟩ := getF X35 hx hZ hown (host := "") (Or.inl (hwi hw 81 rfl)) Via.refl e35 F_waitingWithin_a (g := (mkF m 27 #[lR a, lI f_, lU, lU, lU, lU, lU, lU] [(.ref a), (.ref a)])) rfl rfl (hb hby d13_27)
      refine own_via st37 ?_
      show own_Go p e below s _ _ _ (T37.setTop (mkF m 30 #[lR a, lI f_, lU, lU, lU, lU, lU, lU] [(.long ww_), (.ref a)]))
      refine own_via (fun _ k => XS.lconst X37.here hx rfl (hb hby d13_30) k) ?_
      show own_Go p e below s _ _ _ (T37.setTop (mkF m 31 #[lR a, lI f_, lU, lU, lU, lU, lU, lU] [(.long (1 : Int64)), (.long ww_), (.ref a)]))
      refine own_via (fun _ k => XS.lsub X37.here hx rfl (hb hby d13_31) rfl k) ?_
      show own_Go p e below s _ _ _ (T37.setTop (mkF m 32 #[lR a, lI f_, lU, lU, lU, lU, lU, lU] [(.long (ww_ - (1 : Int64))), (.ref a)]))
      obtain ⟨T38, h38, X38, e38, W38, st38⟩ := putF X37 hx hZ hown (host := "") (Or.inl (hwi hw 81 rfl)) Via.refl e37 F_waitingWithin_a E_a (Or.inl (hwi hw 82 rfl)) (hwi hw 3 rfl) (ty := .long) (by decide) rfl rfl (g := (mkF m 32 #[lR a, lI f_, lU, lU, lU, lU, lU, lU] [(.long (ww_ - (1 : Int64))), (.ref a)])) rfl rfl (hb hby d13_32)
      have N38 := Fr.snoc X38 N35 g_a
      have Fw38 := F_waitingWithin_a.same W38
      have Z38 : n0 ≤ h38.size := Nat.le_trans Z0 (Keep.of_wr W38).1
      have K38 : Keep h0 h38 [a, bf_, br_] := K0.wr W38 (Or.inl (List.mem_of_getElem? (i := 0) rfl))
      refine own_via st38 ?_
      show own_Go p e below s _ _ _ (T38.setTop (mkF m 35 #[lR a, lI f_, lU, lU, lU, lU, lU, lU] []))
      have F39 := (E_a.wr W38)
      have F40 := (F_frontierCosts_a.other W38 (Or.inr (sn34 hw)))
      have F41 := (F_frontierRanks_a.other W38 (Or.inr (sn35 hw)))
      have F42 := (F_waiting_a.other W38 (Or.inr (sn36 hw)))
      have F43 := (V_bf_.other W38 (Ne.symm ne_a_bf_))
      have F44 := (V_br_.other W38 (Ne.symm ne_a_br_))
      exact jp (ww_ - (1 : Int64)) _ _ _ X38 e38 N38 Z38 K38 F39 F40 F41 F42 Fw38 F43 F44 (by rw [own_pol, if_pos hc34, own_dec, if_neg hc36])
  · refine own_via (fun _ k => XS.ifYes X32.here hx rfl (pc0 := 14) (pc' := 35) rfl (hb hby d13_14) rfl (Jvm.Free.XT.i0_ne_t hc34) (by decide) (by decide) k) ?_
    show own_Go p e below s _ _ _ (T32.setTop (mkF m 35 #[lR a, lI f_, lU, lU, lU, lU, lU, lU] []))
    exact jp ww_ _ _ _ X32 e32 N0 Z0 K0 E_a F_frontierCosts_a F_frontierRanks_a F_waiting_a F_waitingWithin_a V_bf_ V_br_ (by rw [own_pol, if_neg hc34])
theorem d9_0 : decode prog_59_method_22_code 0 = .ok (.aload_n 0, 1) := by decide +kernel
theorem d9_1 : decode prog_59_method_22_code 1 = .ok (.getfield 134, 3) := by decide +kernel
theorem d9_4 : decode prog_59_method_22_code 4 = .ok (.lconst 0, 1) := by decide +kernel
theorem d9_5 : decode prog_59_method_22_code 5 = .ok (.lcmp, 1) := by decide +kernel
theorem d9_6 : decode prog_59_method_22_code 6 = .ok (.ifCond .le 7, 3) := by decide +kernel
theorem d9_9 : decode prog_59_method_22_code 9 = .ok (.iconst 1, 1) := by decide +kernel
theorem d9_10 : decode prog_59_method_22_code 10 = .ok (.goto 4, 3) := by decide +kernel
theorem d9_14 : decode prog_59_method_22_code 14 = .ok (.ireturn, 1) := by decide +kernel
theorem d9_13 : decode prog_59_method_22_code 13 = .ok (.iconst 0, 1) := by decide +kernel
def own_any (ww_ : Int64) : Int32 := (if (0 : Int64) < ww_ then (1 : Int32) else (0 : Int32))
theorem ef_9 (m : MethodId) (x0 : Addr) : entryFrame m #[(.ref x0)] 1 = mkF m 0 #[.val (.ref x0)] [] := by first | (simp [entryFrame, mkF, argsToLocals, Value.category]; done) | rfl
def Q9 (Z : State) (a : Addr) (ww_ : Int64) (h0 : Heap) (n0 : Nat) (v : Option Value) (h : Heap) (L : List Loc) : Prop := v = some (.int (own_any ww_)) ∧ Fr n0 L ∧ h = h0
set_option maxRecDepth 65536 in
set_option maxHeartbeats 40000000 in
theorem rm9 (l : Launch) (Z : State) (a0 : Array Value) (hw : ∀ d ∈ tables_1, d.before a0 Z = true) (ws : List Jvm.Cond) (a : Addr) (ww_ : Int64) (h0 : Heap) (n0 : Nat) (Z0 : n0 ≤ h0.size) (F_waitingWithin_a : Fld Z h0 a "com/example/trajectory/trajectory/search/Nodes" "waitingWithin" "J" (.long ww_)) :
    MetFree l (⟨"com/example/trajectory/trajectory/search/Nodes", "isAnyWaitingWithinLimit", "()Z"⟩ : MethodName) (head1 (Jvm.Cond.code (⟨"com/example/trajectory/trajectory/search/Nodes", "isAnyWaitingWithinLimit", "()Z"⟩ : MethodName) prog_59_method_22_code 1 (some .boolean) :: ws) ({ frames := 0, cells := 0, slots := 0, locals := 0 } : Room)) (fun q_ U => q_ = #[(.ref a)] ∧ Z.Warmed39 U.vm ∧ U.heap = h0) (fun _ _ _ _ _ => True) (fun _ U o U' => ∃ v L, o = .returned v ∧ Q9 Z a ww_ h0 n0 v U'.heap L ∧ FrameEnd U o U' L ({ frames := 0, cells := 0, slots := 0, locals := 0 } : Room).cells ({ frames := 0, cells := 0, slots := 0, locals := 0 } : Room).slots) := by
  refine MetFree.of_bodySF (plainFor_of_name pn_1) hisR ?_
  intro p e s m args below meth c s₁ Bd hml0 hP hK
  obtain ⟨rfl, hZ, hh⟩ := hP
  have hx := Bd.exec
  have hby := Bd.bytes
  have hml : c.maxLocals = 1 := hml0
  have hown : s.vm.findClass "com/example/trajectory/trajectory/search/Nodes" = some m.cls := findClass_of_methodNamed Bd.named
  have hnm := (name_of_methodNamed Bd.named Bd.method).1
  have X0 : Stand p l e ({ frames := 0, cells := 0, slots := 0, locals := 0 } : Room) s m #[(.ref a)] below meth c s₁ [] 0 0 := Stand.of_body Bd
  have e0 : s₁.heap = h0 := by rw [← hh, Bd.state]; rfl
  have N0 := Fr.nil n0
  show own_Go p e below s (Q9 Z a ww_ h0 n0) ({ frames := 0, cells := 0, slots := 0, locals := 0 } : Room).cells ({ frames := 0, cells := 0, slots := 0, locals := 0 } : Room).slots (s₁.setTop (entryFrame m #[(.ref a)] 1))
  refine own_via (fun t k => castTop (ef_9 m a) k) ?_
  show own_Go p e below s _ _ _ (s₁.setTop (mkF m 0 #[lR a] []))
  refine own_via (fun _ k => XS.aloadN X0.here hx rfl (hb hby d9_0) rfl rfl k) ?_
  show own_Go p e below s _ _ _ (s₁.setTop (mkF m 1 #[lR a] [(.ref a)]))
  obtain ⟨T1, X1, e1, st1⟩ := getF X0 hx hZ hown (host := "") (Or.inl (hwi hw 81 rfl)) Via.refl e0 F_waitingWithin_a (g := (mkF m 1 #[lR a] [(.ref a)])) rfl rfl (hb hby d9_1)
  refine own_via st1 ?_
  show own_Go p e below s _ _ _ (T1.setTop (mkF m 4 #[lR a] [(.long ww_)]))
  refine own_via (fun _ k => XS.lconst X1.here hx rfl (hb hby d9_4) k) ?_
  show own_Go p e below s _ _ _ (T1.setTop (mkF m 5 #[lR a] [(.long (0 : Int64)), (.long ww_)]))
  refine own_via (fun _ k => XS.lcmp X1.here hx rfl (hb hby d9_5) rfl k) ?_
  show own_Go p e below s _ _ _ (T1.setTop (mkF m 6 #[lR a] [(.int (lcmpW ww_ (0 : Int64)))]))
  by_cases hc2 : (0 : Int64) < ww_
  · refine own_via (fun _ k => XS.ifNo X1.here hx rfl (hb hby d9_6) rfl (Jvm.Free.XT.ll_le_f hc2) k) ?_
    show own_Go p e below s _ _ _ (T1.setTop (mkF m 9 #[lR a] []))
    refine own_via (fun _ k => XS.iconst X1.here hx rfl (hb hby d9_9) k) ?_
    show own_Go p e below s _ _ _ (T1.setTop (mkF m 10 #[lR a] [(.int (1 : Int32))]))
    refine own_via (fun _ k => XS.goto X1.here hx rfl (pc0 := 10) (pc' := 14) rfl (hb hby d9_10) (by decide) (by decide) k) ?_
    show own_Go p e below s _ _ _ (T1.setTop (mkF m 14 #[lR a] [(.int (1 : Int32))]))
    exact own_goN X1 hx (t := .boolean) Bd.returns (by simp) (hb hby d9_14) Bd.notSynchronized (by decide) (by decide) (by rw [e1]; exact ⟨by rw [own_any, if_pos hc2] <;> rfl, N0, rfl⟩)
  · refine own_via (fun _ k => XS.ifYes X1.here hx rfl (pc0 := 6) (pc' := 13) rfl (hb hby d9_6) rfl (Jvm.Free.XT.ll_le_t hc2) (by decide) (by decide) k) ?_
    show own_Go p e below s _ _ _ (T1.setTop (mkF m 13 #[lR a] []))
    refine own_via (fun _ k => XS.iconst X1.here hx rfl (hb hby d9_13) k) ?_
    show own_Go p e below s _ _ _ (T1.setTop (mkF m 14 #[lR a] [(.int (0 : Int32))]))
    exact own_goN X1 hx (t := .boolean) Bd.returns (by simp) (hb hby d9_14) Bd.notSynchronized (by decide) (by decide) (by rw [e1]; exact ⟨by rw [own_any, if_neg hc2] <;> rfl, N0, rfl⟩)

def own_exp (z5 z6 z19 z22 : Int32) (l : Int64) : Int32 := if (if z5 = (0 : Int32) then (0 : Int32) else (if l < (0 : Int64) then (0 : Int32) else (if z22 = (0 : Int32) then (0 : Int32) else (1 : Int32)))) = (0 : Int32) then (if (if z6 = (0 : Int32) then (0 : Int32) else (if l < (1 : Int64) then (0 : Int32) else (if z19 = (0 : Int32) then (if z22 = (1 : Int32) then (0 : Int32) else (1 : Int32)) else (0 : Int32)))) = (0 : Int32) then (0 : Int32) else (1 : Int32)) else (1 : Int32)
theorem own_l3 (l : Int64) : (l < (0 : Int64) ∧ l < (1 : Int64)) ∨ (¬ l < (0 : Int64) ∧ l < (1 : Int64)) ∨ (¬ l < (0 : Int64) ∧ ¬ l < (1 : Int64)) := by
  simp only [Int64.lt_iff_toInt_lt]
  have o0 : (0 : Int64).toInt = 0 := rfl
  have o1 : (1 : Int64).toInt = 1 := rfl
  omega
theorem own_w0 (l : Int64) : own_w (0 : Int32) l = if l < (0 : Int64) then (0 : Int32) else (1 : Int32) := by unfold own_w; rfl
theorem own_w1 (l : Int64) : own_w (1 : Int32) l = if l < (1 : Int64) then (0 : Int32) else (1 : Int32) := by unfold own_w; rfl

theorem pd_8 : parseMethodDescriptor "(IIJD)V" = some ⟨[.int, .int, .long, .double], none⟩ := by decide +kernel
theorem pd_9 : parseMethodDescriptor "([JDDII)I" = some ⟨[(.array .long), .double, .double, .int, .int], some .int⟩ := by decide +kernel
theorem pd_10 : parseMethodDescriptor "()Z" = some ⟨[], some .boolean⟩ := by decide +kernel
theorem pd_11 : parseMethodDescriptor "()I" = some ⟨[], some .int⟩ := by decide +kernel
theorem pd_12 : parseMethodDescriptor "([J)I" = some ⟨[(.array .long)], some .int⟩ := by decide +kernel
theorem pd_13 : parseMethodDescriptor "(II)V" = some ⟨[.int, .int], none⟩ := by decide +kernel
theorem pn_2 : plainName "com/example/trajectory/trajectory/search/NodesIsAnyWaitingWithinLimitPinLaw" = true := by first | (simp [plainName, overriddenIn]; done) | decide +kernel
theorem ef_0 (m : MethodId) (x0 : Int32) (x1 : Int32) (x2 : Int32) (x3 : Int64) : entryFrame m #[(.int x0), (.int x1), (.int x2), (.long x3)] maxLocals = mkF m 0 #[.val (.int x0), .val (.int x1), .val (.int x2), .val (.long x3), .second, .unset, .unset, .unset, .unset, .unset, .unset, .unset, .unset, .unset, .unset, .unset, .unset, .unset, .unset, .unset, .unset, .unset, .unset, .unset, .unset, .unset] [] := by first | (simp [entryFrame, mkF, argsToLocals, Value.category, maxLocals]; done) | rfl
def Q0 (Z : State) (p0 : Int32) (p1 : Int32) (p2 : Int32) (p3 : Int64) (h0 : Heap) (n0 : Nat) (v : Option Value) (h : Heap) (L : List Loc) : Prop := v = some (.int 1) ∧ Fr n0 L
set_option maxRecDepth 65536 in
set_option maxHeartbeats 40000000 in
theorem rm0 (l : Launch) (Z : State) (a0 : Array Value) (hw : ∀ d ∈ tables_1, d.before a0 Z = true) (ws : List Jvm.Cond) (p0 : Int32) (p1 : Int32) (p2 : Int32) (p3 : Int64) (h0 : Heap) (n0 : Nat) (Z0 : n0 ≤ h0.size) :
    MetFree l x (head1 (Jvm.Cond.code x code maxLocals ret :: ws) room_1) (fun q_ U => q_ = #[(.int p0), (.int p1), (.int p2), (.long p3)] ∧ Z.Warmed39 U.vm ∧ U.heap = h0) (fun _ _ _ _ _ => True) (fun _ U o U' => ∃ v L, o = .returned v ∧ Q0 Z p0 p1 p2 p3 h0 n0 v U'.heap L ∧ FrameEnd U o U' L room_1.cells room_1.slots) := by
  refine MetFree.of_bodySF (plainFor_of_name pn_2) hisR ?_
  intro p e s m args below meth c s₁ Bd hml0 hP hK
  obtain ⟨rfl, hZ, hh⟩ := hP
  have hx := Bd.exec
  have hby := Bd.bytes
  have hml : c.maxLocals = 26 := hml0
  have hown : s.vm.findClass "com/example/trajectory/trajectory/search/NodesIsAnyWaitingWithinLimitPinLaw" = some m.cls := findClass_of_methodNamed Bd.named
  have hnm := (name_of_methodNamed Bd.named Bd.method).1
  have X0 : Stand p l e room_1 s m #[(.int p0), (.int p1), (.int p2), (.long p3)] below meth c s₁ [] 0 0 := Stand.of_body Bd
  have e0 : s₁.heap = h0 := by rw [← hh, Bd.state]; rfl
  have N0 := Fr.nil n0
  show own_Go p e below s (Q0 Z p0 p1 p2 p3 h0 n0) room_1.cells room_1.slots (s₁.setTop (entryFrame m #[(.int p0), (.int p1), (.int p2), (.long p3)] maxLocals))
  refine own_via (fun t k => castTop (ef_0 m p0 p1 p2 p3) k) ?_
  show own_Go p e below s _ _ _ (s₁.setTop (mkF m 0 #[lI p0, lI p1, lI p2, lJ p3, lS, lU, lU, lU, lU, lU, lU, lU, lU, lU, lU, lU, lU, lU, lU, lU, lU, lU, lU, lU, lU, lU] []))
  have st1 : ∀ t, Steps p.tables e below (s₁.setTop (mkF m 11 #[lI p0, lI p1, lI p2, lJ p3, lS, lU, lU, lU, lU, lU, lU, lU, lU, lU, lU, lU, lU, lU, lU, lU, lU, lU, lU, lU, lU, lU] [(.int (if (p0 &&& (1 : Int32)) = (0 : Int32) then (0 : Int32) else (1 : Int32)))])) t → Steps p.tables e below (s₁.setTop (mkF m 0 #[lI p0, lI p1, lI p2, lJ p3, lS, lU, lU, lU, lU, lU, lU, lU, lU, lU, lU, lU, lU, lU, lU, lU, lU, lU, lU, lU, lU, lU] [])) t := by
    intro t k
    refine XS.iloadN X0.here hx rfl (hb hby at_0) rfl ?_
    show Steps p.tables e below (s₁.setTop (mkF m 1 #[lI p0, lI p1, lI p2, lJ p3, lS, lU, lU, lU, lU, lU, lU, lU, lU, lU, lU, lU, lU, lU, lU, lU, lU, lU, lU, lU, lU, lU] [(.int p0)])) t
    refine XS.iconst X0.here hx rfl (hb hby at_1) ?_
    show Steps p.tables e below (s₁.setTop (mkF m 2 #[lI p0, lI p1, lI p2, lJ p3, lS, lU, lU, lU, lU, lU, lU, lU, lU, lU, lU, lU, lU, lU, lU, lU, lU, lU, lU, lU, lU, lU] [(.int (1 : Int32)), (.int p0)])) t
    refine XS.iand X0.here hx rfl (hb hby at_2) rfl ?_
    show Steps p.tables e below (s₁.setTop (mkF m 3 #[lI p0, lI p1, lI p2, lJ p3, lS, lU, lU, lU, lU, lU, lU, lU, lU, lU, lU, lU, lU, lU, lU, lU, lU, lU, lU, lU, lU, lU] [(.int (p0 &&& (1 : Int32)))])) t
    by_cases hq2 : (p0 &&& (1 : Int32)) = (0 : Int32)
    · refine XS.ifYes X0.here hx rfl (pc0 := 3) (pc' := 10) rfl (hb hby at_3) rfl (Jvm.Free.XT.i0_eq_t hq2) (by decide) (by decide) ?_
      show Steps p.tables e below (s₁.setTop (mkF m 10 #[lI p0, lI p1, lI p2, lJ p3, lS, lU, lU, lU, lU, lU, lU, lU, lU, lU, lU, lU, lU, lU, lU, lU, lU, lU, lU, lU, lU, lU] [])) t
      refine XS.iconst X0.here hx rfl (hb hby at_10) ?_
      show Steps p.tables e below (s₁.setTop (mkF m 11 #[lI p0, lI p1, lI p2, lJ p3, lS, lU, lU, lU, lU, lU, lU, lU, lU, lU, lU, lU, lU, lU, lU, lU, lU, lU, lU, lU, lU, lU] [(.int (0 : Int32))])) t
      try simp only [if_pos hq2] at k
      exact k
    · refine XS.ifNo X0.here hx rfl (hb hby at_3) rfl (Jvm.Free.XT.i0_eq_f hq2) ?_
      show Steps p.tables e below (s₁.setTop (mkF m 6 #[lI p0, lI p1, lI p2, lJ p3, lS, lU, lU, lU, lU, lU, lU, lU, lU, lU, lU, lU, lU, lU, lU, lU, lU, lU, lU, lU, lU, lU] [])) t
      refine XS.iconst X0.here hx rfl (hb hby at_6) ?_
      show Steps p.tables e below (s₁.setTop (mkF m 7 #[lI p0, lI p1, lI p2, lJ p3, lS, lU, lU, lU, lU, lU, lU, lU, lU, lU, lU, lU, lU, lU, lU, lU, lU, lU, lU, lU, lU, lU] [(.int (1 : Int32))])) t
      refine XS.goto X0.here hx rfl (pc0 := 7) (pc' := 11) rfl (hb hby at_7) (by decide) (by decide) ?_
      show Steps p.tables e below (s₁.setTop (mkF m 11 #[lI p0, lI p1, lI p2, lJ p3, lS, lU, lU, lU, lU, lU, lU, lU, lU, lU, lU, lU, lU, lU, lU, lU, lU, lU, lU, lU, lU, lU] [(.int (1 : Int32))])) t
      try simp only [if_neg hq2] at k
      exact k
  refine own_via st1 ?_
  show own_Go p e below s _ _ _ (s₁.setTop (mkF m 11 #[lI p0, lI p1, lI p2, lJ p3, lS, lU, lU, lU, lU, lU, lU, lU, lU, lU, lU, lU, lU, lU, lU, lU, lU, lU, lU, lU, lU, lU] [(.int (if (p0 &&& (1 : Int32)) = (0 : Int32) then (0 : Int32) else (1 : Int32)))]))
  refine own_via (fun _ k => XS.istore X0.here hx rfl (hb hby at_11) rfl (l' := #[lI p0, lI p1, lI p2, lJ p3, lS, lI (if (p0 &&& (1 : Int32)) = (0 : Int32) then (0 : Int32) else (1 : Int32)), lU, lU, lU, lU, lU, lU, lU, lU, lU, lU, lU, lU, lU, lU, lU, lU, lU, lU, lU, lU]) rfl k) ?_
  show own_Go p e below s _ _ _ (s₁.setTop (mkF m 13 #[lI p0, lI p1, lI p2, lJ p3, lS, lI (if (p0 &&& (1 : Int32)) = (0 : Int32) then (0 : Int32) else (1 : Int32)), lU, lU, lU, lU, lU, lU, lU, lU, lU, lU, lU, lU, lU, lU, lU, lU, lU, lU, lU, lU] []))
  generalize hv3 : (if (p0 &&& (1 : Int32)) = (0 : Int32) then (0 : Int32) else (1 : Int32)) = v3
  show own_Go p e below s _ _ _ (s₁.setTop (mkF m 13 #[lI p0, lI p1, lI p2, lJ p3, lS, lI v3, lU, lU, lU, lU, lU, lU, lU, lU, lU, lU, lU, lU, lU, lU, lU, lU, lU, lU, lU, lU] []))
  have st4 : ∀ t, Steps p.tables e below (s₁.setTop (mkF m 24 #[lI p0, lI p1, lI p2, lJ p3, lS, lI v3, lU, lU, lU, lU, lU, lU, lU, lU, lU, lU, lU, lU, lU, lU, lU, lU, lU, lU, lU, lU] [(.int (if (p0 &&& (2 : Int32)) = (0 : Int32) then (0 : Int32) else (1 : Int32)))])) t → Steps p.tables e below (s₁.setTop (mkF m 13 #[lI p0, lI p1, lI p2, lJ p3, lS, lI v3, lU, lU, lU, lU, lU, lU, lU, lU, lU, lU, lU, lU, lU, lU, lU, lU, lU, lU, lU, lU] [])) t := by
    intro t k
    refine XS.iloadN X0.here hx rfl (hb hby at_13) rfl ?_
    show Steps p.tables e below (s₁.setTop (mkF m 14 #[lI p0, lI p1, lI p2, lJ p3, lS, lI v3, lU, lU, lU, lU, lU, lU, lU, lU, lU, lU, lU, lU, lU, lU, lU, lU, lU, lU, lU, lU] [(.int p0)])) t
    refine XS.iconst X0.here hx rfl (hb hby at_14) ?_
    show Steps p.tables e below (s₁.setTop (mkF m 15 #[lI p0, lI p1, lI p2, lJ p3, lS, lI v3, lU, lU, lU, lU, lU, lU, lU, lU, lU, lU, lU, lU, lU, lU, lU, lU, lU, lU, lU, lU] [(.int (2 : Int32)), (.int p0)])) t
    refine XS.iand X0.here hx rfl (hb hby at_15) rfl ?_
    show Steps p.tables e below (s₁.setTop (mkF m 16 #[lI p0, lI p1, lI p2, lJ p3, lS, lI v3, lU, lU, lU, lU, lU, lU, lU, lU, lU, lU, lU, lU, lU, lU, lU, lU, lU, lU, lU, lU] [(.int (p0 &&& (2 : Int32)))])) t
    by_cases hq5 : (p0 &&& (2 : Int32)) = (0 : Int32)
    · refine XS.ifYes X0.here hx rfl (pc0 := 16) (pc' := 23) rfl (hb hby at_16) rfl (Jvm.Free.XT.i0_eq_t hq5) (by decide) (by decide) ?_
      show Steps p.tables e below (s₁.setTop (mkF m 23 #[lI p0, lI p1, lI p2, lJ p3, lS, lI v3, lU, lU, lU, lU, lU, lU, lU, lU, lU, lU, lU, lU, lU, lU, lU, lU, lU, lU, lU, lU] [])) t
      refine XS.iconst X0.here hx rfl (hb hby at_23) ?_
      show Steps p.tables e below (s₁.setTop (mkF m 24 #[lI p0, lI p1, lI p2, lJ p3, lS, lI v3, lU, lU, lU, lU, lU, lU, lU, lU, lU, lU, lU, lU, lU, lU, lU, lU, lU, lU, lU, lU] [(.int (0 : Int32))])) t
      try simp only [if_pos hq5] at k
      exact k
    · refine XS.ifNo X0.here hx rfl (hb hby at_16) rfl (Jvm.Free.XT.i0_eq_f hq5) ?_
      show Steps p.tables e below (s₁.setTop (mkF m 19 #[lI p0, lI p1, lI p2, lJ p3, lS, lI v3, lU, lU, lU, lU, lU, lU, lU, lU, lU, lU, lU, lU, lU, lU, lU, lU, lU, lU, lU, lU] [])) t
      refine XS.iconst X0.here hx rfl (hb hby at_19) ?_
      show Steps p.tables e below (s₁.setTop (mkF m 20 #[lI p0, lI p1, lI p2, lJ p3, lS, lI v3, lU, lU, lU, lU, lU, lU, lU, lU, lU, lU, lU, lU, lU, lU, lU, lU, lU, lU, lU, lU] [(.int (1 : Int32))])) t
      refine XS.goto X0.here hx rfl (pc0 := 20) (pc' := 24) rfl (hb hby at_20) (by decide) (by decide) ?_
      show Steps p.tables e below (s₁.setTop (mkF m 24 #[lI p0, lI p1, lI p2, lJ p3, lS, lI v3, lU, lU, lU, lU, lU, lU, lU, lU, lU, lU, lU, lU, lU, lU, lU, lU, lU, lU, lU, lU] [(.int (1 : Int32))])) t
      try simp only [if_neg hq5] at k
      exact k
  refine own_via st4 ?_
  show own_Go p e below s _ _ _ (s₁.setTop (mkF m 24 #[lI p0, lI p1, lI p2, lJ p3, lS, lI v3, lU, lU, lU, lU, lU, lU, lU, lU, lU, lU, lU, lU, lU, lU, lU, lU, lU, lU, lU, lU] [(.int (if (p0 &&& (2 : Int32)) = (0 : Int32) then (0 : Int32) else (1 : Int32)))]))
  refine own_via (fun _ k => XS.istore X0.here hx rfl (hb hby at_24) rfl (l' := #[lI p0, lI p1, lI p2, lJ p3, lS, lI v3, lI (if (p0 &&& (2 : Int32)) = (0 : Int32) then (0 : Int32) else (1 : Int32)), lU, lU, lU, lU, lU, lU, lU, lU, lU, lU, lU, lU, lU, lU, lU, lU, lU, lU, lU]) rfl k) ?_
  show own_Go p e below s _ _ _ (s₁.setTop (mkF m 26 #[lI p0, lI p1, lI p2, lJ p3, lS, lI v3, lI (if (p0 &&& (2 : Int32)) = (0 : Int32) then (0 : Int32) else (1 : Int32)), lU, lU, lU, lU, lU, lU, lU, lU, lU, lU, lU, lU, lU, lU, lU, lU, lU, lU, lU] []))
  generalize hv6 : (if (p0 &&& (2 : Int32)) = (0 : Int32) then (0 : Int32) else (1 : Int32)) = v6
  show own_Go p e below s _ _ _ (s₁.setTop (mkF m 26 #[lI p0, lI p1, lI p2, lJ p3, lS, lI v3, lI v6, lU, lU, lU, lU, lU, lU, lU, lU, lU, lU, lU, lU, lU, lU, lU, lU, lU, lU, lU] []))
  have st7 : ∀ t, Steps p.tables e below (s₁.setTop (mkF m 37 #[lI p0, lI p1, lI p2, lJ p3, lS, lI v3, lI v6, lU, lU, lU, lU, lU, lU, lU, lU, lU, lU, lU, lU, lU, lU, lU, lU, lU, lU, lU] [(.int (if (p0 &&& (4 : Int32)) = (0 : Int32) then (0 : Int32) else (1 : Int32)))])) t → Steps p.tables e below (s₁.setTop (mkF m 26 #[lI p0, lI p1, lI p2, lJ p3, lS, lI v3, lI v6, lU, lU, lU, lU, lU, lU, lU, lU, lU, lU, lU, lU, lU, lU, lU, lU, lU, lU, lU] [])) t := by
    intro t k
    refine XS.iloadN X0.here hx rfl (hb hby at_26) rfl ?_
    show Steps p.tables e below (s₁.setTop (mkF m 27 #[lI p0, lI p1, lI p2, lJ p3, lS, lI v3, lI v6, lU, lU, lU, lU, lU, lU, lU, lU, lU, lU, lU, lU, lU, lU, lU, lU, lU, lU, lU] [(.int p0)])) t
    refine XS.iconst X0.here hx rfl (hb hby at_27) ?_
    show Steps p.tables e below (s₁.setTop (mkF m 28 #[lI p0, lI p1, lI p2, lJ p3, lS, lI v3, lI v6, lU, lU, lU, lU, lU, lU, lU, lU, lU, lU, lU, lU, lU, lU, lU, lU, lU, lU, lU] [(.int (4 : Int32)), (.int p0)])) t
    refine XS.iand X0.here hx rfl (hb hby at_28) rfl ?_
    show Steps p.tables e below (s₁.setTop (mkF m 29 #[lI p0, lI p1, lI p2, lJ p3, lS, lI v3, lI v6, lU, lU, lU, lU, lU, lU, lU, lU, lU, lU, lU, lU, lU, lU, lU, lU, lU, lU, lU] [(.int (p0 &&& (4 : Int32)))])) t
    by_cases hq8 : (p0 &&& (4 : Int32)) = (0 : Int32)
    · refine XS.ifYes X0.here hx rfl (pc0 := 29) (pc' := 36) rfl (hb hby at_29) rfl (Jvm.Free.XT.i0_eq_t hq8) (by decide) (by decide) ?_
      show Steps p.tables e below (s₁.setTop (mkF m 36 #[lI p0, lI p1, lI p2, lJ p3, lS, lI v3, lI v6, lU, lU, lU, lU, lU, lU, lU, lU, lU, lU, lU, lU, lU, lU, lU, lU, lU, lU, lU] [])) t
      refine XS.iconst X0.here hx rfl (hb hby at_36) ?_
      show Steps p.tables e below (s₁.setTop (mkF m 37 #[lI p0, lI p1, lI p2, lJ p3, lS, lI v3, lI v6, lU, lU, lU, lU, lU, lU, lU, lU, lU, lU, lU, lU, lU, lU, lU, lU, lU, lU, lU] [(.int (0 : Int32))])) t
      try simp only [if_pos hq8] at k
      exact k
    · refine XS.ifNo X0.here hx rfl (hb hby at_29) rfl (Jvm.Free.XT.i0_eq_f hq8) ?_
      show Steps p.tables e below (s₁.setTop (mkF m 32 #[lI p0, lI p1, lI p2, lJ p3, lS, lI v3, lI v6, lU, lU, lU, lU, lU, lU, lU, lU, lU, lU, lU, lU, lU, lU, lU, lU, lU, lU, lU] [])) t
      refine XS.iconst X0.here hx rfl (hb hby at_32) ?_
      show Steps p.tables e below (s₁.setTop (mkF m 33 #[lI p0, lI p1, lI p2, lJ p3, lS, lI v3, lI v6, lU, lU, lU, lU, lU, lU, lU, lU, lU, lU, lU, lU, lU, lU, lU, lU, lU, lU, lU] [(.int (1 : Int32))])) t
      refine XS.goto X0.here hx rfl (pc0 := 33) (pc' := 37) rfl (hb hby at_33) (by decide) (by decide) ?_
      show Steps p.tables e below (s₁.setTop (mkF m 37 #[lI p0, lI p1, lI p2, lJ p3, lS, lI v3, lI v6, lU, lU, lU, lU, lU, lU, lU, lU, lU, lU, lU, lU, lU, lU, lU, lU, lU, lU, lU] [(.int (1 : Int32))])) t
      try simp only [if_neg hq8] at k
      exact k
  refine own_via st7 ?_
  show own_Go p e below s _ _ _ (s₁.setTop (mkF m 37 #[lI p0, lI p1, lI p2, lJ p3, lS, lI v3, lI v6, lU, lU, lU, lU, lU, lU, lU, lU, lU, lU, lU, lU, lU, lU, lU, lU, lU, lU, lU] [(.int (if (p0 &&& (4 : Int32)) = (0 : Int32) then (0 : Int32) else (1 : Int32)))]))
  refine own_via (fun _ k => XS.istore X0.here hx rfl (hb hby at_37) rfl (l' := #[lI p0, lI p1, lI p2, lJ p3, lS, lI v3, lI v6, lI (if (p0 &&& (4 : Int32)) = (0 : Int32) then (0 : Int32) else (1 : Int32)), lU, lU, lU, lU, lU, lU, lU, lU, lU, lU, lU, lU, lU, lU, lU, lU, lU, lU]) rfl k) ?_
  show own_Go p e below s _ _ _ (s₁.setTop (mkF m 39 #[lI p0, lI p1, lI p2, lJ p3, lS, lI v3, lI v6, lI (if (p0 &&& (4 : Int32)) = (0 : Int32) then (0 : Int32) else (1 : Int32)), lU, lU, lU, lU, lU, lU, lU, lU, lU, lU, lU, lU, lU, lU, lU, lU, lU, lU] []))
  generalize hv9 : (if (p0 &&& (4 : Int32)) = (0 : Int32) then (0 : Int32) else (1 : Int32)) = v9
  show own_Go p e below s _ _ _ (s₁.setTop (mkF m 39 #[lI p0, lI p1, lI p2, lJ p3, lS, lI v3, lI v6, lI v9, lU, lU, lU, lU, lU, lU, lU, lU, lU, lU, lU, lU, lU, lU, lU, lU, lU, lU] []))
  have st10 : ∀ t, Steps p.tables e below (s₁.setTop (mkF m 51 #[lI p0, lI p1, lI p2, lJ p3, lS, lI v3, lI v6, lI v9, lU, lU, lU, lU, lU, lU, lU, lU, lU, lU, lU, lU, lU, lU, lU, lU, lU, lU] [(.int (if (p0 &&& (8 : Int32)) = (0 : Int32) then (0 : Int32) else (1 : Int32)))])) t → Steps p.tables e below (s₁.setTop (mkF m 39 #[lI p0, lI p1, lI p2, lJ p3, lS, lI v3, lI v6, lI v9, lU, lU, lU, lU, lU, lU, lU, lU, lU, lU, lU, lU, lU, lU, lU, lU, lU, lU] [])) t := by
    intro t k
    refine XS.iloadN X0.here hx rfl (hb hby at_39) rfl ?_
    show Steps p.tables e below (s₁.setTop (mkF m 40 #[lI p0, lI p1, lI p2, lJ p3, lS, lI v3, lI v6, lI v9, lU, lU, lU, lU, lU, lU, lU, lU, lU, lU, lU, lU, lU, lU, lU, lU, lU, lU] [(.int p0)])) t
    refine XS.bipush X0.here hx rfl (hb hby at_40) ?_
    show Steps p.tables e below (s₁.setTop (mkF m 42 #[lI p0, lI p1, lI p2, lJ p3, lS, lI v3, lI v6, lI v9, lU, lU, lU, lU, lU, lU, lU, lU, lU, lU, lU, lU, lU, lU, lU, lU, lU, lU] [(.int (8 : Int32)), (.int p0)])) t
    refine XS.iand X0.here hx rfl (hb hby at_42) rfl ?_
    show Steps p.tables e below (s₁.setTop (mkF m 43 #[lI p0, lI p1, lI p2, lJ p3, lS, lI v3, lI v6, lI v9, lU, lU, lU, lU, lU, lU, lU, lU, lU, lU, lU, lU, lU, lU, lU, lU, lU, lU] [(.int (p0 &&& (8 : Int32)))])) t
    by_cases hq11 : (p0 &&& (8 : Int32)) = (0 : Int32)
    · refine XS.ifYes X0.here hx rfl (pc0 := 43) (pc' := 50) rfl (hb hby at_43) rfl (Jvm.Free.XT.i0_eq_t hq11) (by decide) (by decide) ?_
      show Steps p.tables e below (s₁.setTop (mkF m 50 #[lI p0, lI p1, lI p2, lJ p3, lS, lI v3, lI v6, lI v9, lU, lU, lU, lU, lU, lU, lU, lU, lU, lU, lU, lU, lU, lU, lU, lU, lU, lU] [])) t
      refine XS.iconst X0.here hx rfl (hb hby at_50) ?_
      show Steps p.tables e below (s₁.setTop (mkF m 51 #[lI p0, lI p1, lI p2, lJ p3, lS, lI v3, lI v6, lI v9, lU, lU, lU, lU, lU, lU, lU, lU, lU, lU, lU, lU, lU, lU, lU, lU, lU, lU] [(.int (0 : Int32))])) t
      try simp only [if_pos hq11] at k
      exact k
    · refine XS.ifNo X0.here hx rfl (hb hby at_43) rfl (Jvm.Free.XT.i0_eq_f hq11) ?_
      show Steps p.tables e below (s₁.setTop (mkF m 46 #[lI p0, lI p1, lI p2, lJ p3, lS, lI v3, lI v6, lI v9, lU, lU, lU, lU, lU, lU, lU, lU, lU, lU, lU, lU, lU, lU, lU, lU, lU, lU] [])) t
      refine XS.iconst X0.here hx rfl (hb hby at_46) ?_
      show Steps p.tables e below (s₁.setTop (mkF m 47 #[lI p0, lI p1, lI p2, lJ p3, lS, lI v3, lI v6, lI v9, lU, lU, lU, lU, lU, lU, lU, lU, lU, lU, lU, lU, lU, lU, lU, lU, lU, lU] [(.int (1 : Int32))])) t
      refine XS.goto X0.here hx rfl (pc0 := 47) (pc' := 51) rfl (hb hby at_47) (by decide) (by decide) ?_
      show Steps p.tables e below (s₁.setTop (mkF m 51 #[lI p0, lI p1, lI p2, lJ p3, lS, lI v3, lI v6, lI v9, lU, lU, lU, lU, lU, lU, lU, lU, lU, lU, lU, lU, lU, lU, lU, lU, lU, lU] [(.int (1 : Int32))])) t
      try simp only [if_neg hq11] at k
      exact k
  refine own_via st10 ?_
  show own_Go p e below s _ _ _ (s₁.setTop (mkF m 51 #[lI p0, lI p1, lI p2, lJ p3, lS, lI v3, lI v6, lI v9, lU, lU, lU, lU, lU, lU, lU, lU, lU, lU, lU, lU, lU, lU, lU, lU, lU, lU] [(.int (if (p0 &&& (8 : Int32)) = (0 : Int32) then (0 : Int32) else (1 : Int32)))]))
  refine own_via (fun _ k => XS.istore X0.here hx rfl (hb hby at_51) rfl (l' := #[lI p0, lI p1, lI p2, lJ p3, lS, lI v3, lI v6, lI v9, lI (if (p0 &&& (8 : Int32)) = (0 : Int32) then (0 : Int32) else (1 : Int32)), lU, lU, lU, lU, lU, lU, lU, lU, lU, lU, lU, lU, lU, lU, lU, lU, lU]) rfl k) ?_
  show own_Go p e below s _ _ _ (s₁.setTop (mkF m 53 #[lI p0, lI p1, lI p2, lJ p3, lS, lI v3, lI v6, lI v9, lI (if (p0 &&& (8 : Int32)) = (0 : Int32) then (0 : Int32) else (1 : Int32)), lU, lU, lU, lU, lU, lU, lU, lU, lU, lU, lU, lU, lU, lU, lU, lU, lU] []))
  generalize hv12 : (if (p0 &&& (8 : Int32)) = (0 : Int32) then (0 : Int32) else (1 : Int32)) = v12
  show own_Go p e below s _ _ _ (s₁.setTop (mkF m 53 #[lI p0, lI p1, lI p2, lJ p3, lS, lI v3, lI v6, lI v9, lI v12, lU, lU, lU, lU, lU, lU, lU, lU, lU, lU, lU, lU, lU, lU, lU, lU, lU] []))
  have st13 : ∀ t, Steps p.tables e below (s₁.setTop (mkF m 69 #[lI p0, lI p1, lI p2, lJ p3, lS, lI v3, lI v6, lI v9, lI v12, lU, lU, lU, lU, lU, lU, lU, lU, lU, lU, lU, lU, lU, lU, lU, lU, lU] [(.long (if (p0 &&& (16 : Int32)) = (0 : Int32) then (o_lrem p3 (3 : Int64)) else p3))])) t → Steps p.tables e below (s₁.setTop (mkF m 53 #[lI p0, lI p1, lI p2, lJ p3, lS, lI v3, lI v6, lI v9, lI v12, lU, lU, lU, lU, lU, lU, lU, lU, lU, lU, lU, lU, lU, lU, lU, lU, lU] [])) t := by
    intro t k
    refine XS.iloadN X0.here hx rfl (hb hby at_53) rfl ?_
    show Steps p.tables e below (s₁.setTop (mkF m 54 #[lI p0, lI p1, lI p2, lJ p3, lS, lI v3, lI v6, lI v9, lI v12, lU, lU, lU, lU, lU, lU, lU, lU, lU, lU, lU, lU, lU, lU, lU, lU, lU] [(.int p0)])) t
    refine XS.bipush X0.here hx rfl (hb hby at_54) ?_
    show Steps p.tables e below (s₁.setTop (mkF m 56 #[lI p0, lI p1, lI p2, lJ p3, lS, lI v3, lI v6, lI v9, lI v12, lU, lU, lU, lU, lU, lU, lU, lU, lU, lU, lU, lU, lU, lU, lU, lU, lU] [(.int (16 : Int32)), (.int p0)])) t
    refine XS.iand X0.here hx rfl (hb hby at_56) rfl ?_
    show Steps p.tables e below (s₁.setTop (mkF m 57 #[lI p0, lI p1, lI p2, lJ p3, lS, lI v3, lI v6, lI v9, lI v12, lU, lU, lU, lU, lU, lU, lU, lU, lU, lU, lU, lU, lU, lU, lU, lU, lU] [(.int (p0 &&& (16 : Int32)))])) t
    by_cases hq14 : (p0 &&& (16 : Int32)) = (0 : Int32)
    · refine XS.ifYes X0.here hx rfl (pc0 := 57) (pc' := 64) rfl (hb hby at_57) rfl (Jvm.Free.XT.i0_eq_t hq14) (by decide) (by decide) ?_
      show Steps p.tables e below (s₁.setTop (mkF m 64 #[lI p0, lI p1, lI p2, lJ p3, lS, lI v3, lI v6, lI v9, lI v12, lU, lU, lU, lU, lU, lU, lU, lU, lU, lU, lU, lU, lU, lU, lU, lU, lU] [])) t
      refine XS.lloadN X0.here hx rfl (hb hby at_64) rfl ?_
      show Steps p.tables e below (s₁.setTop (mkF m 65 #[lI p0, lI p1, lI p2, lJ p3, lS, lI v3, lI v6, lI v9, lI v12, lU, lU, lU, lU, lU, lU, lU, lU, lU, lU, lU, lU, lU, lU, lU, lU, lU] [(.long p3)])) t
      refine X0.ldc2Long hx hown (mvT hZ (hwi hw 0 rfl)) (g := (mkF m 65 #[lI p0, lI p1, lI p2, lJ p3, lS, lI v3, lI v6, lI v9, lI v12, lU, lU, lU, lU, lU, lU, lU, lU, lU, lU, lU, lU, lU, lU, lU, lU, lU] [(.long p3)])) rfl (hb hby at_65) _ ?_
      show Steps p.tables e below (s₁.setTop (mkF m 68 #[lI p0, lI p1, lI p2, lJ p3, lS, lI v3, lI v6, lI v9, lI v12, lU, lU, lU, lU, lU, lU, lU, lU, lU, lU, lU, lU, lU, lU, lU, lU, lU] [(.long (3 : Int64)), (.long p3)])) t
      refine XS.lrem X0.here hx rfl (hb hby at_68) rfl (by decide) ?_
      show Steps p.tables e below (s₁.setTop (mkF m 69 #[lI p0, lI p1, lI p2, lJ p3, lS, lI v3, lI v6, lI v9, lI v12, lU, lU, lU, lU, lU, lU, lU, lU, lU, lU, lU, lU, lU, lU, lU, lU, lU] [(.long (o_lrem p3 (3 : Int64)))])) t
      try simp only [if_pos hq14] at k
      exact k
    · refine XS.ifNo X0.here hx rfl (hb hby at_57) rfl (Jvm.Free.XT.i0_eq_f hq14) ?_
      show Steps p.tables e below (s₁.setTop (mkF m 60 #[lI p0, lI p1, lI p2, lJ p3, lS, lI v3, lI v6, lI v9, lI v12, lU, lU, lU, lU, lU, lU, lU, lU, lU, lU, lU, lU, lU, lU, lU, lU, lU] [])) t
      refine XS.lloadN X0.here hx rfl (hb hby at_60) rfl ?_
      show Steps p.tables e below (s₁.setTop (mkF m 61 #[lI p0, lI p1, lI p2, lJ p3, lS, lI v3, lI v6, lI v9, lI v12, lU, lU, lU, lU, lU, lU, lU, lU, lU, lU, lU, lU, lU, lU, lU, lU, lU] [(.long p3)])) t
      refine XS.goto X0.here hx rfl (pc0 := 61) (pc' := 69) rfl (hb hby at_61) (by decide) (by decide) ?_
      show Steps p.tables e below (s₁.setTop (mkF m 69 #[lI p0, lI p1, lI p2, lJ p3, lS, lI v3, lI v6, lI v9, lI v12, lU, lU, lU, lU, lU, lU, lU, lU, lU, lU, lU, lU, lU, lU, lU, lU, lU] [(.long p3)])) t
      try simp only [if_neg hq14] at k
      exact k
  refine own_via st13 ?_
  show own_Go p e below s _ _ _ (s₁.setTop (mkF m 69 #[lI p0, lI p1, lI p2, lJ p3, lS, lI v3, lI v6, lI v9, lI v12, lU, lU, lU, lU, lU, lU, lU, lU, lU, lU, lU, lU, lU, lU, lU, lU, lU] [(.long (if (p0 &&& (16 : Int32)) = (0 : Int32) then (o_lrem p3 (3 : Int64)) else p3))]))
  refine own_via (fun _ k => XS.lstore X0.here hx rfl (hb hby at_69) rfl (l' := #[lI p0, lI p1, lI p2, lJ p3, lS, lI v3, lI v6, lI v9, lI v12, lJ (if (p0 &&& (16 : Int32)) = (0 : Int32) then (o_lrem p3 (3 : Int64)) else p3), lS, lU, lU, lU, lU, lU, lU, lU, lU, lU, lU, lU, lU, lU, lU, lU]) rfl k) ?_
  show own_Go p e below s _ _ _ (s₁.setTop (mkF m 71 #[lI p0, lI p1, lI p2, lJ p3, lS, lI v3, lI v6, lI v9, lI v12, lJ (if (p0 &&& (16 : Int32)) = (0 : Int32) then (o_lrem p3 (3 : Int64)) else p3), lS, lU, lU, lU, lU, lU, lU, lU, lU, lU, lU, lU, lU, lU, lU, lU] []))
  generalize hv15 : (if (p0 &&& (16 : Int32)) = (0 : Int32) then (o_lrem p3 (3 : Int64)) else p3) = v15
  show own_Go p e below s _ _ _ (s₁.setTop (mkF m 71 #[lI p0, lI p1, lI p2, lJ p3, lS, lI v3, lI v6, lI v9, lI v12, lJ v15, lS, lU, lU, lU, lU, lU, lU, lU, lU, lU, lU, lU, lU, lU, lU, lU] []))
  refine own_via (fun _ k => XS.iloadN X0.here hx rfl (hb hby at_71) rfl k) ?_
  show own_Go p e below s _ _ _ (s₁.setTop (mkF m 72 #[lI p0, lI p1, lI p2, lJ p3, lS, lI v3, lI v6, lI v9, lI v12, lJ v15, lS, lU, lU, lU, lU, lU, lU, lU, lU, lU, lU, lU, lU, lU, lU, lU] [(.int p1)]))
  refine own_via (fun _ k => XS.bipush X0.here hx rfl (hb hby at_72) k) ?_
  show own_Go p e below s _ _ _ (s₁.setTop (mkF m 74 #[lI p0, lI p1, lI p2, lJ p3, lS, lI v3, lI v6, lI v9, lI v12, lJ v15, lS, lU, lU, lU, lU, lU, lU, lU, lU, lU, lU, lU, lU, lU, lU, lU] [(.int (7 : Int32)), (.int p1)]))
  refine own_via (fun _ k => XS.iand X0.here hx rfl (hb hby at_74) rfl k) ?_
  show own_Go p e below s _ _ _ (s₁.setTop (mkF m 75 #[lI p0, lI p1, lI p2, lJ p3, lS, lI v3, lI v6, lI v9, lI v12, lJ v15, lS, lU, lU, lU, lU, lU, lU, lU, lU, lU, lU, lU, lU, lU, lU, lU] [(.int (p1 &&& (7 : Int32)))]))
  refine own_via (fun _ k => XS.istore X0.here hx rfl (hb hby at_75) rfl (l' := #[lI p0, lI p1, lI p2, lJ p3, lS, lI v3, lI v6, lI v9, lI v12, lJ v15, lS, lI (p1 &&& (7 : Int32)), lU, lU, lU, lU, lU, lU, lU, lU, lU, lU, lU, lU, lU, lU]) rfl k) ?_
  show own_Go p e below s _ _ _ (s₁.setTop (mkF m 77 #[lI p0, lI p1, lI p2, lJ p3, lS, lI v3, lI v6, lI v9, lI v12, lJ v15, lS, lI (p1 &&& (7 : Int32)), lU, lU, lU, lU, lU, lU, lU, lU, lU, lU, lU, lU, lU, lU] []))
  generalize hv16 : (p1 &&& (7 : Int32)) = v16
  show own_Go p e below s _ _ _ (s₁.setTop (mkF m 77 #[lI p0, lI p1, lI p2, lJ p3, lS, lI v3, lI v6, lI v9, lI v12, lJ v15, lS, lI v16, lU, lU, lU, lU, lU, lU, lU, lU, lU, lU, lU, lU, lU, lU] []))
  refine own_via (fun _ k => XS.iloadN X0.here hx rfl (hb hby at_77) rfl k) ?_
  show own_Go p e below s _ _ _ (s₁.setTop (mkF m 78 #[lI p0, lI p1, lI p2, lJ p3, lS, lI v3, lI v6, lI v9, lI v12, lJ v15, lS, lI v16, lU, lU, lU, lU, lU, lU, lU, lU, lU, lU, lU, lU, lU, lU] [(.int p2)]))
  refine own_via (fun _ k => XS.bipush X0.here hx rfl (hb hby at_78) k) ?_
  show own_Go p e below s _ _ _ (s₁.setTop (mkF m 80 #[lI p0, lI p1, lI p2, lJ p3, lS, lI v3, lI v6, lI v9, lI v12, lJ v15, lS, lI v16, lU, lU, lU, lU, lU, lU, lU, lU, lU, lU, lU, lU, lU, lU] [(.int (7 : Int32)), (.int p2)]))
  refine own_via (fun _ k => XS.iand X0.here hx rfl (hb hby at_80) rfl k) ?_
  show own_Go p e below s _ _ _ (s₁.setTop (mkF m 81 #[lI p0, lI p1, lI p2, lJ p3, lS, lI v3, lI v6, lI v9, lI v12, lJ v15, lS, lI v16, lU, lU, lU, lU, lU, lU, lU, lU, lU, lU, lU, lU, lU, lU] [(.int (p2 &&& (7 : Int32)))]))
  refine own_via (fun _ k => XS.iconst X0.here hx rfl (hb hby at_81) k) ?_
  show own_Go p e below s _ _ _ (s₁.setTop (mkF m 82 #[lI p0, lI p1, lI p2, lJ p3, lS, lI v3, lI v6, lI v9, lI v12, lJ v15, lS, lI v16, lU, lU, lU, lU, lU, lU, lU, lU, lU, lU, lU, lU, lU, lU] [(.int (1 : Int32)), (.int (p2 &&& (7 : Int32)))]))
  refine own_via (fun _ k => XS.iadd X0.here hx rfl (hb hby at_82) rfl k) ?_
  show own_Go p e below s _ _ _ (s₁.setTop (mkF m 83 #[lI p0, lI p1, lI p2, lJ p3, lS, lI v3, lI v6, lI v9, lI v12, lJ v15, lS, lI v16, lU, lU, lU, lU, lU, lU, lU, lU, lU, lU, lU, lU, lU, lU] [(.int ((p2 &&& (7 : Int32)) + (1 : Int32)))]))
  refine own_via (fun _ k => XS.istore X0.here hx rfl (hb hby at_83) rfl (l' := #[lI p0, lI p1, lI p2, lJ p3, lS, lI v3, lI v6, lI v9, lI v12, lJ v15, lS, lI v16, lI ((p2 &&& (7 : Int32)) + (1 : Int32)), lU, lU, lU, lU, lU, lU, lU, lU, lU, lU, lU, lU, lU]) rfl k) ?_
  show own_Go p e below s _ _ _ (s₁.setTop (mkF m 85 #[lI p0, lI p1, lI p2, lJ p3, lS, lI v3, lI v6, lI v9, lI v12, lJ v15, lS, lI v16, lI ((p2 &&& (7 : Int32)) + (1 : Int32)), lU, lU, lU, lU, lU, lU, lU, lU, lU, lU, lU, lU, lU] []))
  generalize hv17 : ((p2 &&& (7 : Int32)) + (1 : Int32)) = v17
  show own_Go p e below s _ _ _ (s₁.setTop (mkF m 85 #[lI p0, lI p1, lI p2, lJ p3, lS, lI v3, lI v6, lI v9, lI v12, lJ v15, lS, lI v16, lI v17, lU, lU, lU, lU, lU, lU, lU, lU, lU, lU, lU, lU, lU] []))
  refine own_via (fun _ k => XS.iconst X0.here hx rfl (hb hby at_85) k) ?_
  show own_Go p e below s _ _ _ (s₁.setTop (mkF m 86 #[lI p0, lI p1, lI p2, lJ p3, lS, lI v3, lI v6, lI v9, lI v12, lJ v15, lS, lI v16, lI v17, lU, lU, lU, lU, lU, lU, lU, lU, lU, lU, lU, lU, lU] [(.int (1 : Int32))]))
  obtain ⟨T18, h18, k18, X18, e18, E18, A18, st18⟩ := newP X0 hx hZ (hwi hw 1 rfl) e0 (g := (mkF m 86 #[lI p0, lI p1, lI p2, lJ p3, lS, lI v3, lI v6, lI v9, lI v12, lJ v15, lS, lI v16, lI v17, lU, lU, lU, lU, lU, lU, lU, lU, lU, lU, lU, lU, lU] [(.int (1 : Int32))])) rfl (hb hby at_86) rfl (by decide) (cap := 1) (by decide) (by decide) (by decide) (by decide)
  obtain ⟨b18, gg18⟩ : ∃ z, z = h0.size := ⟨_, rfl⟩
  rw [← gg18] at A18 st18
  have g_b18 : n0 ≤ b18 := Nat.le_trans Z0 (Nat.le_of_eq gg18.symm)
  have Z18 : n0 ≤ h18.size := Nat.le_trans Z0 E18.1
  have V18 : Arv Z h18 b18 k18 .long (1 : Int32) [(.long (0 : Int64))] (.long (0 : Int64)) := (Arv.new A18 (by decide)).pad (pad_rep [] (.long (0 : Int64)) 1)
  refine own_via st18 ?_
  show own_Go p e below s _ _ _ (T18.setTop (mkF m 88 #[lI p0, lI p1, lI p2, lJ p3, lS, lI v3, lI v6, lI v9, lI v12, lJ v15, lS, lI v16, lI v17, lU, lU, lU, lU, lU, lU, lU, lU, lU, lU, lU, lU, lU] [(.ref b18)]))
  refine own_via (fun _ k => XS.dup X18.here hx rfl (hb hby at_88) rfl rfl k) ?_
  show own_Go p e below s _ _ _ (T18.setTop (mkF m 89 #[lI p0, lI p1, lI p2, lJ p3, lS, lI v3, lI v6, lI v9, lI v12, lJ v15, lS, lI v16, lI v17, lU, lU, lU, lU, lU, lU, lU, lU, lU, lU, lU, lU, lU] [(.ref b18), (.ref b18)]))
  refine own_via (fun _ k => XS.iconst X18.here hx rfl (hb hby at_89) k) ?_
  show own_Go p e below s _ _ _ (T18.setTop (mkF m 90 #[lI p0, lI p1, lI p2, lJ p3, lS, lI v3, lI v6, lI v9, lI v12, lJ v15, lS, lI v16, lI v17, lU, lU, lU, lU, lU, lU, lU, lU, lU, lU, lU, lU, lU] [(.int (0 : Int32)), (.ref b18), (.ref b18)]))
  refine own_via (fun _ k => XS.lconst X18.here hx rfl (hb hby at_90) k) ?_
  show own_Go p e below s _ _ _ (T18.setTop (mkF m 91 #[lI p0, lI p1, lI p2, lJ p3, lS, lI v3, lI v6, lI v9, lI v12, lJ v15, lS, lI v16, lI v17, lU, lU, lU, lU, lU, lU, lU, lU, lU, lU, lU, lU, lU] [(.long (0 : Int64)), (.int (0 : Int32)), (.ref b18), (.ref b18)]))
  obtain ⟨cl19, Ar19, q19, S19, M19, H19, G19⟩ := (id V18)
  have hin19 : ¬ ((0 : Int32) < 0 ∨ cl19.slots.size ≤ ((0 : Int32)).toNatClampNeg) := inb_of S19 ⟨by decide, by decide⟩
  obtain ⟨T19, h19, X19, e19, W19, st19⟩ := stJ X18 hx hZ e18 Ar19 (j := (0 : Int32)) hin19 (g := (mkF m 91 #[lI p0, lI p1, lI p2, lJ p3, lS, lI v3, lI v6, lI v9, lI v12, lJ v15, lS, lI v16, lI v17, lU, lU, lU, lU, lU, lU, lU, lU, lU, lU, lU, lU, lU] [(.long (0 : Int64)), (.int (0 : Int32)), (.ref b18), (.ref b18)])) rfl rfl (hb hby at_91)
  have V19 : Arv Z h19 b18 k18 .long (1 : Int32) [(.long (0 : Int64))] (.long (0 : Int64)) := Arv.set Ar19 q19 S19 M19 H19 G19 rfl W19 0 rfl (Nat.le_of_ble_eq_true rfl)
  have N19 := Fr.snoc X19 N0 g_b18
  have Z19 : n0 ≤ h19.size := Nat.le_trans Z18 (Keep.of_wr W19).1
  refine own_via st19 ?_
  show own_Go p e below s _ _ _ (T19.setTop (mkF m 92 #[lI p0, lI p1, lI p2, lJ p3, lS, lI v3, lI v6, lI v9, lI v12, lJ v15, lS, lI v16, lI v17, lU, lU, lU, lU, lU, lU, lU, lU, lU, lU, lU, lU, lU] [(.ref b18)]))
  refine own_via (fun _ k => XS.astore X19.here hx rfl (hb hby at_92) rfl rfl (l' := #[lI p0, lI p1, lI p2, lJ p3, lS, lI v3, lI v6, lI v9, lI v12, lJ v15, lS, lI v16, lI v17, lR b18, lU, lU, lU, lU, lU, lU, lU, lU, lU, lU, lU, lU]) rfl k) ?_
  show own_Go p e below s _ _ _ (T19.setTop (mkF m 94 #[lI p0, lI p1, lI p2, lJ p3, lS, lI v3, lI v6, lI v9, lI v12, lJ v15, lS, lI v16, lI v17, lR b18, lU, lU, lU, lU, lU, lU, lU, lU, lU, lU, lU, lU] []))
  refine own_via (fun _ k => XS.iconst X19.here hx rfl (hb hby at_94) k) ?_
  show own_Go p e below s _ _ _ (T19.setTop (mkF m 95 #[lI p0, lI p1, lI p2, lJ p3, lS, lI v3, lI v6, lI v9, lI v12, lJ v15, lS, lI v16, lI v17, lR b18, lU, lU, lU, lU, lU, lU, lU, lU, lU, lU, lU, lU] [(.int (1 : Int32))]))
  obtain ⟨T20, h20, k20, X20, e20, E20, A20, st20⟩ := newP X19 hx hZ (hwi hw 1 rfl) e19 (g := (mkF m 95 #[lI p0, lI p1, lI p2, lJ p3, lS, lI v3, lI v6, lI v9, lI v12, lJ v15, lS, lI v16, lI v17, lR b18, lU, lU, lU, lU, lU, lU, lU, lU, lU, lU, lU, lU] [(.int (1 : Int32))])) rfl (hb hby at_95) rfl (by decide) (cap := 1) (by decide) (by decide) (by decide) (by decide)
  obtain ⟨b20, gg20⟩ : ∃ z, z = h19.size := ⟨_, rfl⟩
  rw [← gg20] at A20 st20
  have ne_b18_b20 : b18 ≠ b20 := Nat.ne_of_lt (Nat.lt_of_lt_of_le V19.lt (Nat.le_of_eq gg20.symm))
  have g_b20 : n0 ≤ b20 := Nat.le_trans Z19 (Nat.le_of_eq gg20.symm)
  have Z20 : n0 ≤ h20.size := Nat.le_trans Z19 E20.1
  have V20 : Arv Z h20 b20 k20 .long (1 : Int32) [(.long (0 : Int64))] (.long (0 : Int64)) := (Arv.new A20 (by decide)).pad (pad_rep [] (.long (0 : Int64)) 1)
  refine own_via st20 ?_
  show own_Go p e below s _ _ _ (T20.setTop (mkF m 97 #[lI p0, lI p1, lI p2, lJ p3, lS, lI v3, lI v6, lI v9, lI v12, lJ v15, lS, lI v16, lI v17, lR b18, lU, lU, lU, lU, lU, lU, lU, lU, lU, lU, lU, lU] [(.ref b20)]))
  refine own_via (fun _ k => XS.dup X20.here hx rfl (hb hby at_97) rfl rfl k) ?_
  show own_Go p e below s _ _ _ (T20.setTop (mkF m 98 #[lI p0, lI p1, lI p2, lJ p3, lS, lI v3, lI v6, lI v9, lI v12, lJ v15, lS, lI v16, lI v17, lR b18, lU, lU, lU, lU, lU, lU, lU, lU, lU, lU, lU, lU] [(.ref b20), (.ref b20)]))
  refine own_via (fun _ k => XS.iconst X20.here hx rfl (hb hby at_98) k) ?_
  show own_Go p e below s _ _ _ (T20.setTop (mkF m 99 #[lI p0, lI p1, lI p2, lJ p3, lS, lI v3, lI v6, lI v9, lI v12, lJ v15, lS, lI v16, lI v17, lR b18, lU, lU, lU, lU, lU, lU, lU, lU, lU, lU, lU, lU] [(.int (0 : Int32)), (.ref b20), (.ref b20)]))
  refine own_via (fun _ k => XS.lconst X20.here hx rfl (hb hby at_99) k) ?_
  show own_Go p e below s _ _ _ (T20.setTop (mkF m 100 #[lI p0, lI p1, lI p2, lJ p3, lS, lI v3, lI v6, lI v9, lI v12, lJ v15, lS, lI v16, lI v17, lR b18, lU, lU, lU, lU, lU, lU, lU, lU, lU, lU, lU, lU] [(.long (1 : Int64)), (.int (0 : Int32)), (.ref b20), (.ref b20)]))
  obtain ⟨cl21, Ar21, q21, S21, M21, H21, G21⟩ := (id V20)
  have hin21 : ¬ ((0 : Int32) < 0 ∨ cl21.slots.size ≤ ((0 : Int32)).toNatClampNeg) := inb_of S21 ⟨by decide, by decide⟩
  obtain ⟨T21, h21, X21, e21, W21, st21⟩ := stJ X20 hx hZ e20 Ar21 (j := (0 : Int32)) hin21 (g := (mkF m 100 #[lI p0, lI p1, lI p2, lJ p3, lS, lI v3, lI v6, lI v9, lI v12, lJ v15, lS, lI v16, lI v17, lR b18, lU, lU, lU, lU, lU, lU, lU, lU, lU, lU, lU, lU] [(.long (1 : Int64)), (.int (0 : Int32)), (.ref b20), (.ref b20)])) rfl rfl (hb hby at_100)
  have V21 : Arv Z h21 b20 k20 .long (1 : Int32) [(.long (1 : Int64))] (.long (0 : Int64)) := Arv.set Ar21 q21 S21 M21 H21 G21 rfl W21 0 rfl (Nat.le_of_ble_eq_true rfl)
  have N21 := Fr.snoc X21 N19 g_b20
  have Z21 : n0 ≤ h21.size := Nat.le_trans Z20 (Keep.of_wr W21).1
  refine own_via st21 ?_
  show own_Go p e below s _ _ _ (T21.setTop (mkF m 101 #[lI p0, lI p1, lI p2, lJ p3, lS, lI v3, lI v6, lI v9, lI v12, lJ v15, lS, lI v16, lI v17, lR b18, lU, lU, lU, lU, lU, lU, lU, lU, lU, lU, lU, lU] [(.ref b20)]))
  refine own_via (fun _ k => XS.astore X21.here hx rfl (hb hby at_101) rfl rfl (l' := #[lI p0, lI p1, lI p2, lJ p3, lS, lI v3, lI v6, lI v9, lI v12, lJ v15, lS, lI v16, lI v17, lR b18, lR b20, lU, lU, lU, lU, lU, lU, lU, lU, lU, lU, lU]) rfl k) ?_
  show own_Go p e below s _ _ _ (T21.setTop (mkF m 103 #[lI p0, lI p1, lI p2, lJ p3, lS, lI v3, lI v6, lI v9, lI v12, lJ v15, lS, lI v16, lI v17, lR b18, lR b20, lU, lU, lU, lU, lU, lU, lU, lU, lU, lU, lU] []))
  obtain ⟨T22, h22, X22, e22, E22, A22, D22, -, st22⟩ := newO X21 hx hZ hown (hwi hw 2 rfl) (hwi hw 3 rfl) (hwi hw 4 rfl) e21 (g := (mkF m 103 #[lI p0, lI p1, lI p2, lJ p3, lS, lI v3, lI v6, lI v9, lI v12, lJ v15, lS, lI v16, lI v17, lR b18, lR b20, lU, lU, lU, lU, lU, lU, lU, lU, lU, lU, lU] [])) rfl (hb hby at_103) (by decide) (by decide)
  obtain ⟨b22, gg22⟩ : ∃ z, z = h21.size := ⟨_, rfl⟩
  rw [← gg22] at A22 D22 st22
  have ne_b18_b22 : b18 ≠ b22 := Nat.ne_of_lt (Nat.lt_of_lt_of_le ((V19.ext E20).other W21 ne_b18_b20).lt (Nat.le_of_eq gg22.symm))
  have ne_b20_b22 : b20 ≠ b22 := Nat.ne_of_lt (Nat.lt_of_lt_of_le V21.lt (Nat.le_of_eq gg22.symm))
  have g_b22 : n0 ≤ b22 := Nat.le_trans Z21 (Nat.le_of_eq gg22.symm)
  have Z22 : n0 ≤ h22.size := Nat.le_trans Z21 E22.1
  have F23 : Fld Z h22 b22 "com/example/trajectory/trajectory/search/Nodes" "width" "I" (.int (0 : Int32)) := D22 (Or.inr (hwi hw 12 rfl)) (ty := .int) (by decide)
  have F24 : Fld Z h22 b22 "com/example/trajectory/trajectory/search/Nodes" "lengthLimit" "J" (.long (0 : Int64)) := D22 (Or.inr (hwi hw 14 rfl)) (ty := .long) (by decide)
  have F25 : Fld Z h22 b22 "com/example/trajectory/trajectory/search/Nodes" "longestWithin" "J" (.long (0 : Int64)) := D22 (Or.inr (hwi hw 21 rfl)) (ty := .long) (by decide)
  have F26 : Fld Z h22 b22 "com/example/trajectory/trajectory/search/Nodes" "dearestStep" "D" (.double (0 : UInt64)) := D22 (Or.inr (hwi hw 23 rfl)) (ty := .double) (by decide)
  have F27 : Fld Z h22 b22 "com/example/trajectory/trajectory/search/Nodes" "states" "[J" .null := D22 (Or.inl (hwi hw 41 rfl)) (ty := (.array .long)) (by decide)
  have F28 : Fld Z h22 b22 "com/example/trajectory/trajectory/search/Nodes" "costs" "[D" .null := D22 (Or.inl (hwi hw 44 rfl)) (ty := (.array .double)) (by decide)
  have F29 : Fld Z h22 b22 "com/example/trajectory/trajectory/search/Nodes" "stepCosts" "[D" .null := D22 (Or.inl (hwi hw 46 rfl)) (ty := (.array .double)) (by decide)
  have F30 : Fld Z h22 b22 "com/example/trajectory/trajectory/search/Nodes" "lengths" "[I" .null := D22 (Or.inl (hwi hw 49 rfl)) (ty := (.array .int)) (by decide)
  have F31 : Fld Z h22 b22 "com/example/trajectory/trajectory/search/Nodes" "parents" "[I" .null := D22 (Or.inl (hwi hw 51 rfl)) (ty := (.array .int)) (by decide)
  have F32 : Fld Z h22 b22 "com/example/trajectory/trajectory/search/Nodes" "steps" "[I" .null := D22 (Or.inl (hwi hw 53 rfl)) (ty := (.array .int)) (by decide)
  have F33 : Fld Z h22 b22 "com/example/trajectory/trajectory/search/Nodes" "superseded" "[Z" .null := D22 (Or.inl (hwi hw 56 rfl)) (ty := (.array .boolean)) (by decide)
  have F34 : Fld Z h22 b22 "com/example/trajectory/trajectory/search/Nodes" "nextKept" "[I" .null := D22 (Or.inl (hwi hw 58 rfl)) (ty := (.array .int)) (by decide)
  have F35 : Fld Z h22 b22 "com/example/trajectory/trajectory/search/Nodes" "table" "[I" .null := D22 (Or.inl (hwi hw 60 rfl)) (ty := (.array .int)) (by decide)
  have F36 : Fld Z h22 b22 "com/example/trajectory/trajectory/search/Nodes" "frontierCosts" "[D" .null := D22 (Or.inl (hwi hw 62 rfl)) (ty := (.array .double)) (by decide)
  have F37 : Fld Z h22 b22 "com/example/trajectory/trajectory/search/Nodes" "frontierRanks" "[J" .null := D22 (Or.inl (hwi hw 64 rfl)) (ty := (.array .long)) (by decide)
  have F38 : Fld Z h22 b22 "com/example/trajectory/trajectory/search/Nodes" "count" "I" (.int (0 : Int32)) := D22 (Or.inl (hwi hw 71 rfl)) (ty := .int) (by decide)
  have F39 : Fld Z h22 b22 "com/example/trajectory/trajectory/search/Nodes" "waitingWithin" "J" (.long (0 : Int64)) := D22 (Or.inl (hwi hw 82 rfl)) (ty := .long) (by decide)
  have F40 : Fld Z h22 b22 "com/example/trajectory/trajectory/search/Nodes" "waiting" "I" (.int (0 : Int32)) := D22 (Or.inl (hwi hw 89 rfl)) (ty := .int) (by decide)
  have F41 : Fld Z h22 b22 "com/example/trajectory/trajectory/search/Nodes" "held" "I" (.int (0 : Int32)) := D22 (Or.inl (hwi hw 119 rfl)) (ty := .int) (by decide)
  refine own_via st22 ?_
  show own_Go p e below s _ _ _ (T22.setTop (mkF m 106 #[lI p0, lI p1, lI p2, lJ p3, lS, lI v3, lI v6, lI v9, lI v12, lJ v15, lS, lI v16, lI v17, lR b18, lR b20, lU, lU, lU, lU, lU, lU, lU, lU, lU, lU, lU] [(.ref b22)]))
  refine own_via (fun _ k => XS.dup X22.here hx rfl (hb hby at_106) rfl rfl k) ?_
  show own_Go p e below s _ _ _ (T22.setTop (mkF m 107 #[lI p0, lI p1, lI p2, lJ p3, lS, lI v3, lI v6, lI v9, lI v12, lJ v15, lS, lI v16, lI v17, lR b18, lR b20, lU, lU, lU, lU, lU, lU, lU, lU, lU, lU, lU] [(.ref b22), (.ref b22)]))
  refine own_via (fun _ k => XS.iconst X22.here hx rfl (hb hby at_107) k) ?_
  show own_Go p e below s _ _ _ (T22.setTop (mkF m 108 #[lI p0, lI p1, lI p2, lJ p3, lS, lI v3, lI v6, lI v9, lI v12, lJ v15, lS, lI v16, lI v17, lR b18, lR b20, lU, lU, lU, lU, lU, lU, lU, lU, lU, lU, lU] [(.int (1 : Int32)), (.ref b22), (.ref b22)]))
  refine own_via (fun _ k => XS.iconst X22.here hx rfl (hb hby at_108) k) ?_
  show own_Go p e below s _ _ _ (T22.setTop (mkF m 109 #[lI p0, lI p1, lI p2, lJ p3, lS, lI v3, lI v6, lI v9, lI v12, lJ v15, lS, lI v16, lI v17, lR b18, lR b20, lU, lU, lU, lU, lU, lU, lU, lU, lU, lU, lU] [(.int (4 : Int32)), (.int (1 : Int32)), (.ref b22), (.ref b22)]))
  refine own_via (fun _ k => XS.lload X22.here hx rfl (hb hby at_109) rfl k) ?_
  show own_Go p e below s _ _ _ (T22.setTop (mkF m 111 #[lI p0, lI p1, lI p2, lJ p3, lS, lI v3, lI v6, lI v9, lI v12, lJ v15, lS, lI v16, lI v17, lR b18, lR b20, lU, lU, lU, lU, lU, lU, lU, lU, lU, lU, lU] [(.long v15), (.int (4 : Int32)), (.int (1 : Int32)), (.ref b22), (.ref b22)]))
  refine own_via (fun _ k => XS.dconst1 X22.here hx rfl (hb hby at_111) (v := o_d1) rfl k) ?_
  show own_Go p e below s _ _ _ (T22.setTop (mkF m 112 #[lI p0, lI p1, lI p2, lJ p3, lS, lI v3, lI v6, lI v9, lI v12, lJ v15, lS, lI v16, lI v17, lR b18, lR b20, lU, lU, lU, lU, lU, lU, lU, lU, lU, lU, lU] [(.double o_d1), (.long v15), (.int (4 : Int32)), (.int (1 : Int32)), (.ref b22), (.ref b22)]))
  obtain ⟨_, _, ⟨T42, L42, k42, n42⟩, -, X42, ⟨Lc42, hQ42, l42, y42, z42⟩, st42⟩ := X22.specialBack hx (y := (⟨"com/example/trajectory/trajectory/search/Nodes", "<init>", "(IIJD)V"⟩ : MethodName)) rfl hown (mvT hZ (hwi hw 5 rfl)) (mvT hZ (hwi hw 6 rfl)) (mvT hZ (hwi hw 7 rfl)) (by decide) (backOf (W := 1) (rm1 l Z a0 hw [] b22 (1 : Int32) (4 : Int32) v15 o_d1 h22 n0 Z22 A22 F23 F24 F25 F26 F27 F28 F29 F30 F31 F32 F33 F34 F35 F36 F37 F38 F39 F40 F41 g_b22 (by first | decide | (simp; done)) (by first | decide | (simp; done))) hZ (hwi hw 7 rfl) (hwi hw 4 rfl) (by decide) (by decide)) (g := (mkF m 112 #[lI p0, lI p1, lI p2, lJ p3, lS, lI v3, lI v6, lI v9, lI v12, lJ v15, lS, lI v16, lI v17, lR b18, lR b20, lU, lU, lU, lU, lU, lU, lU, lU, lU, lU, lU] [(.double o_d1), (.long v15), (.int (4 : Int32)), (.int (1 : Int32)), (.ref b22), (.ref b22)])) rfl (by rw [hml]; rfl) (Steps.refl _) (a := b22) (argsL := [(.int (1 : Int32)), (.int (4 : Int32)), (.long v15), (.double o_d1)]) (rest := [(.ref b22)]) (lenOf pd_8 rfl) rfl (by show 2 * 0 + _ ≤ _; exact Nat.le_of_eq rfl) (hb hby at_112) (fun _ _ => ⟨rfl, e22, (by decide : 3 + 11 ≤ _), (by decide : 21 + 768 ≤ _)⟩)
  dsimp only [Pt.U, Pt.locs, Pt.cells, Pt.slots] at X42 l42 y42 z42 st42 hQ42
  subst l42 y42 z42
  obtain ⟨h42, e42⟩ : ∃ h, T42.heap = h := ⟨_, rfl⟩
  rw [e42] at hQ42
  obtain ⟨bs_42, bc_42, bt_42, bl_42, bp_42, bu_42, bz_42, bk_42, bT_42, bf_42, br_42, ks_42, kc_42, kt_42, kl_42, kp_42, ku_42, kz_42, kk_42, kT_42, kf_42, kr_42, wT_42, rfl, N42q, Kq42, F43, F44, F45, F46, F47, F48, F49, F50, F51, F52, F53, F54, F55, F56, F57, F58, F59, F60, F61, F62, F63, F64, F65, F66, F67, F68, F69, F70, F71, F72, F73, F74, F75, F76, F77, F78, F79, F80, F81, F82, F83, F84, F85, F86, F87, F88, F89, F90, F91, F92, F93, F94, F95, F96, F97, F98, F99, F100, F101, F102, F103, F104, F105, F106, F107, F108, F109, F110, F111, F112, F113, F114, F115, F116, F117, F118, F119, F120, F121, F122, F123, F124, F125, F126, F127, F128, F129, F130, F131, F132, F133, F134, F135, F136, F137, F138, F139⟩ := hQ42
  have ne_b18_bs_42 : b18 ≠ bs_42 := Nat.ne_of_lt (Nat.lt_of_lt_of_le (((V19.ext E20).other W21 ne_b18_b20).ext E22).lt F43)
  have ne_b20_bs_42 : b20 ≠ bs_42 := Nat.ne_of_lt (Nat.lt_of_lt_of_le (V21.ext E22).lt F43)
  have ne_b22_bs_42 : b22 ≠ bs_42 := Nat.ne_of_lt (Nat.lt_of_lt_of_le A22.lt F43)
  have g_bs_42 : n0 ≤ bs_42 := Nat.le_trans Z22 F43
  have ne_b18_bc_42 : b18 ≠ bc_42 := Nat.ne_of_lt (Nat.lt_of_lt_of_le (((V19.ext E20).other W21 ne_b18_b20).ext E22).lt F44)
  have ne_b20_bc_42 : b20 ≠ bc_42 := Nat.ne_of_lt (Nat.lt_of_lt_of_le (V21.ext E22).lt F44)
  have ne_b22_bc_42 : b22 ≠ bc_42 := Nat.ne_of_lt (Nat.lt_of_lt_of_le A22.lt F44)
  have g_bc_42 : n0 ≤ bc_42 := Nat.le_trans Z22 F44
  have ne_b18_bt_42 : b18 ≠ bt_42 := Nat.ne_of_lt (Nat.lt_of_lt_of_le (((V19.ext E20).other W21 ne_b18_b20).ext E22).lt F45)
  have ne_b20_bt_42 : b20 ≠ bt_42 := Nat.ne_of_lt (Nat.lt_of_lt_of_le (V21.ext E22).lt F45)
  have ne_b22_bt_42 : b22 ≠ bt_42 := Nat.ne_of_lt (Nat.lt_of_lt_of_le A22.lt F45)
  have g_bt_42 : n0 ≤ bt_42 := Nat.le_trans Z22 F45
  have ne_b18_bl_42 : b18 ≠ bl_42 := Nat.ne_of_lt (Nat.lt_of_lt_of_le (((V19.ext E20).other W21 ne_b18_b20).ext E22).lt F46)
  have ne_b20_bl_42 : b20 ≠ bl_42 := Nat.ne_of_lt (Nat.lt_of_lt_of_le (V21.ext E22).lt F46)
  have ne_b22_bl_42 : b22 ≠ bl_42 := Nat.ne_of_lt (Nat.lt_of_lt_of_le A22.lt F46)
  have g_bl_42 : n0 ≤ bl_42 := Nat.le_trans Z22 F46
  have ne_b18_bp_42 : b18 ≠ bp_42 := Nat.ne_of_lt (Nat.lt_of_lt_of_le (((V19.ext E20).other W21 ne_b18_b20).ext E22).lt F47)
  have ne_b20_bp_42 : b20 ≠ bp_42 := Nat.ne_of_lt (Nat.lt_of_lt_of_le (V21.ext E22).lt F47)
  have ne_b22_bp_42 : b22 ≠ bp_42 := Nat.ne_of_lt (Nat.lt_of_lt_of_le A22.lt F47)
  have g_bp_42 : n0 ≤ bp_42 := Nat.le_trans Z22 F47
  have ne_b18_bu_42 : b18 ≠ bu_42 := Nat.ne_of_lt (Nat.lt_of_lt_of_le (((V19.ext E20).other W21 ne_b18_b20).ext E22).lt F48)
  have ne_b20_bu_42 : b20 ≠ bu_42 := Nat.ne_of_lt (Nat.lt_of_lt_of_le (V21.ext E22).lt F48)
  have ne_b22_bu_42 : b22 ≠ bu_42 := Nat.ne_of_lt (Nat.lt_of_lt_of_le A22.lt F48)
  have g_bu_42 : n0 ≤ bu_42 := Nat.le_trans Z22 F48
  have ne_b18_bz_42 : b18 ≠ bz_42 := Nat.ne_of_lt (Nat.lt_of_lt_of_le (((V19.ext E20).other W21 ne_b18_b20).ext E22).lt F49)
  have ne_b20_bz_42 : b20 ≠ bz_42 := Nat.ne_of_lt (Nat.lt_of_lt_of_le (V21.ext E22).lt F49)
  have ne_b22_bz_42 : b22 ≠ bz_42 := Nat.ne_of_lt (Nat.lt_of_lt_of_le A22.lt F49)
  have g_bz_42 : n0 ≤ bz_42 := Nat.le_trans Z22 F49
  have ne_b18_bk_42 : b18 ≠ bk_42 := Nat.ne_of_lt (Nat.lt_of_lt_of_le (((V19.ext E20).other W21 ne_b18_b20).ext E22).lt F50)
  have ne_b20_bk_42 : b20 ≠ bk_42 := Nat.ne_of_lt (Nat.lt_of_lt_of_le (V21.ext E22).lt F50)
  have ne_b22_bk_42 : b22 ≠ bk_42 := Nat.ne_of_lt (Nat.lt_of_lt_of_le A22.lt F50)
  have g_bk_42 : n0 ≤ bk_42 := Nat.le_trans Z22 F50
  have ne_b18_bT_42 : b18 ≠ bT_42 := Nat.ne_of_lt (Nat.lt_of_lt_of_le (((V19.ext E20).other W21 ne_b18_b20).ext E22).lt F51)
  have ne_b20_bT_42 : b20 ≠ bT_42 := Nat.ne_of_lt (Nat.lt_of_lt_of_le (V21.ext E22).lt F51)
  have ne_b22_bT_42 : b22 ≠ bT_42 := Nat.ne_of_lt (Nat.lt_of_lt_of_le A22.lt F51)
  have g_bT_42 : n0 ≤ bT_42 := Nat.le_trans Z22 F51
  have ne_b18_bf_42 : b18 ≠ bf_42 := Nat.ne_of_lt (Nat.lt_of_lt_of_le (((V19.ext E20).other W21 ne_b18_b20).ext E22).lt F52)
  have ne_b20_bf_42 : b20 ≠ bf_42 := Nat.ne_of_lt (Nat.lt_of_lt_of_le (V21.ext E22).lt F52)
  have ne_b22_bf_42 : b22 ≠ bf_42 := Nat.ne_of_lt (Nat.lt_of_lt_of_le A22.lt F52)
  have g_bf_42 : n0 ≤ bf_42 := Nat.le_trans Z22 F52
  have ne_b18_br_42 : b18 ≠ br_42 := Nat.ne_of_lt (Nat.lt_of_lt_of_le (((V19.ext E20).other W21 ne_b18_b20).ext E22).lt F53)
  have ne_b20_br_42 : b20 ≠ br_42 := Nat.ne_of_lt (Nat.lt_of_lt_of_le (V21.ext E22).lt F53)
  have ne_b22_br_42 : b22 ≠ br_42 := Nat.ne_of_lt (Nat.lt_of_lt_of_le A22.lt F53)
  have g_br_42 : n0 ≤ br_42 := Nat.le_trans Z22 F53
  have Z42 : n0 ≤ h42.size := Nat.le_trans Z22 Kq42.1
  have N42 := Fr.app N21 N42q
  refine own_viaT st42 ?_
  show own_Go p e below s _ _ _ (T42.setTop (mkF m 115 #[lI p0, lI p1, lI p2, lJ p3, lS, lI v3, lI v6, lI v9, lI v12, lJ v15, lS, lI v16, lI v17, lR b18, lR b20, lU, lU, lU, lU, lU, lU, lU, lU, lU, lU, lU] [(.ref b22)]))
  refine own_via (fun _ k => XS.astore X42.here hx rfl (hb hby at_115) rfl rfl (l' := #[lI p0, lI p1, lI p2, lJ p3, lS, lI v3, lI v6, lI v9, lI v12, lJ v15, lS, lI v16, lI v17, lR b18, lR b20, lR b22, lU, lU, lU, lU, lU, lU, lU, lU, lU, lU]) rfl k) ?_
  show own_Go p e below s _ _ _ (T42.setTop (mkF m 117 #[lI p0, lI p1, lI p2, lJ p3, lS, lI v3, lI v6, lI v9, lI v12, lJ v15, lS, lI v16, lI v17, lR b18, lR b20, lR b22, lU, lU, lU, lU, lU, lU, lU, lU, lU, lU] []))
  refine own_via (fun _ k => XS.aload X42.here hx rfl (hb hby at_117) rfl rfl k) ?_
  show own_Go p e below s _ _ _ (T42.setTop (mkF m 119 #[lI p0, lI p1, lI p2, lJ p3, lS, lI v3, lI v6, lI v9, lI v12, lJ v15, lS, lI v16, lI v17, lR b18, lR b20, lR b22, lU, lU, lU, lU, lU, lU, lU, lU, lU, lU] [(.ref b22)]))
  refine own_via (fun _ k => XS.aload X42.here hx rfl (hb hby at_119) rfl rfl k) ?_
  show own_Go p e below s _ _ _ (T42.setTop (mkF m 121 #[lI p0, lI p1, lI p2, lJ p3, lS, lI v3, lI v6, lI v9, lI v12, lJ v15, lS, lI v16, lI v17, lR b18, lR b20, lR b22, lU, lU, lU, lU, lU, lU, lU, lU, lU, lU] [(.ref b18), (.ref b22)]))
  refine own_via (fun _ k => XS.iload X42.here hx rfl (hb hby at_121) rfl k) ?_
  show own_Go p e below s _ _ _ (T42.setTop (mkF m 123 #[lI p0, lI p1, lI p2, lJ p3, lS, lI v3, lI v6, lI v9, lI v12, lJ v15, lS, lI v16, lI v17, lR b18, lR b20, lR b22, lU, lU, lU, lU, lU, lU, lU, lU, lU, lU] [(.int v16), (.ref b18), (.ref b22)]))
  refine own_via (fun _ k => XS.i2dS X42.here hx rfl (hb hby at_123) rfl rfl k) ?_
  show own_Go p e below s _ _ _ (T42.setTop (mkF m 124 #[lI p0, lI p1, lI p2, lJ p3, lS, lI v3, lI v6, lI v9, lI v12, lJ v15, lS, lI v16, lI v17, lR b18, lR b20, lR b22, lU, lU, lU, lU, lU, lU, lU, lU, lU, lU] [(.double (FP.i2d v16)), (.ref b18), (.ref b22)]))
  generalize hdq0 : (FP.i2d v16) = dq0
  show own_Go p e below s _ _ _ (T42.setTop (mkF m 124 #[lI p0, lI p1, lI p2, lJ p3, lS, lI v3, lI v6, lI v9, lI v12, lJ v15, lS, lI v16, lI v17, lR b18, lR b20, lR b22, lU, lU, lU, lU, lU, lU, lU, lU, lU, lU] [(.double dq0), (.ref b18), (.ref b22)]))
  refine own_via (fun _ k => XS.dconst0 X42.here hx rfl (hb hby at_124) (v := o_d0) rfl k) ?_
  show own_Go p e below s _ _ _ (T42.setTop (mkF m 125 #[lI p0, lI p1, lI p2, lJ p3, lS, lI v3, lI v6, lI v9, lI v12, lJ v15, lS, lI v16, lI v17, lR b18, lR b20, lR b22, lU, lU, lU, lU, lU, lU, lU, lU, lU, lU] [(.double o_d0), (.double dq0), (.ref b18), (.ref b22)]))
  refine own_via (fun _ k => XS.iconst X42.here hx rfl (hb hby at_125) k) ?_
  show own_Go p e below s _ _ _ (T42.setTop (mkF m 126 #[lI p0, lI p1, lI p2, lJ p3, lS, lI v3, lI v6, lI v9, lI v12, lJ v15, lS, lI v16, lI v17, lR b18, lR b20, lR b22, lU, lU, lU, lU, lU, lU, lU, lU, lU, lU] [(.int (-1 : Int32)), (.double o_d0), (.double dq0), (.ref b18), (.ref b22)]))
  refine own_via (fun _ k => XS.iconst X42.here hx rfl (hb hby at_126) k) ?_
  show own_Go p e below s _ _ _ (T42.setTop (mkF m 127 #[lI p0, lI p1, lI p2, lJ p3, lS, lI v3, lI v6, lI v9, lI v12, lJ v15, lS, lI v16, lI v17, lR b18, lR b20, lR b22, lU, lU, lU, lU, lU, lU, lU, lU, lU, lU] [(.int (-1 : Int32)), (.int (-1 : Int32)), (.double o_d0), (.double dq0), (.ref b18), (.ref b22)]))
  have F141 := ((((V19.ext E20).other W21 ne_b18_b20).ext E22).keep Kq42 (ninS ne_b18_b22 nin0))
  obtain ⟨cq140, kq140, qa140, qb140, qc140⟩ := isOf hZ e42 F54
  obtain ⟨_, _, ⟨T140, L140, k140, n140⟩, -, X140, ⟨Lc140, hQ140, l140, y140, z140⟩, st140⟩ := X42.virtualBack hx (y := (⟨"com/example/trajectory/trajectory/search/Nodes", "add", "([JDDII)I"⟩ : MethodName)) (z := (⟨"com/example/trajectory/trajectory/search/Nodes", "add", "([JDDII)I"⟩ : MethodName)) hown (mvT hZ (hwi hw 65 rfl)) (mvT hZ (hwi hw 66 rfl)) (notFace_of_selects (args := #[]) (mvT hZ (hwi hw 68 rfl))) (mvT hZ (hwi hw 68 rfl)) (mvT hZ (hwi hw 67 rfl)) (by decide) (backOf (W := 0) (rmaN l Z a0 hw [] b22 b18 dq0 o_d0 (-1 : Int32) (-1 : Int32) (0 : Int32) v15 0 bs_42 bc_42 bt_42 bl_42 bp_42 bu_42 bz_42 bk_42 bT_42 bf_42 br_42 ks_42 kc_42 kt_42 kl_42 kp_42 ku_42 [(.long (0 : Int64)), (.long (0 : Int64)), (.long (0 : Int64)), (.long (0 : Int64))] [(.double (0 : UInt64)), (.double (0 : UInt64)), (.double (0 : UInt64)), (.double (0 : UInt64))] [(.double (0 : UInt64)), (.double (0 : UInt64)), (.double (0 : UInt64)), (.double (0 : UInt64))] [(.int (0 : Int32)), (.int (0 : Int32)), (.int (0 : Int32)), (.int (0 : Int32))] [(.int (0 : Int32)), (.int (0 : Int32)), (.int (0 : Int32)), (.int (0 : Int32))] [(.int (0 : Int32)), (.int (0 : Int32)), (.int (0 : Int32)), (.int (0 : Int32))] k18 [(.long (0 : Int64))] h42 n0 Z42 F54 F55 F56 F57 F58 F59 F60 F61 F62 F63 F64 F65 F66 F67 F68 F69 F70 F71 F72 F73 F74 F75 F76 F77 F141 g_b22 g_bs_42 g_bc_42 g_bt_42 g_bl_42 g_bp_42 g_bu_42 F83 F84 F85 F86 F87 F93 F94 F95 F96 F102 F103 F104 F110 F111 F117 ne_b22_bs_42 ne_b22_bc_42 ne_b22_bt_42 ne_b22_bl_42 ne_b22_bp_42 ne_b22_bu_42 ne_b18_bs_42 ne_b18_bc_42 ne_b18_bt_42 ne_b18_bl_42 ne_b18_bp_42 ne_b18_bu_42 ne_b18_b22 (by decide) (by decide) rfl rfl rfl rfl rfl rfl (by decide)) hZ (hwi hw 69 rfl) (hwi hw 4 rfl) (by decide) (by decide)) qa140 qc140 (g := (mkF m 127 #[lI p0, lI p1, lI p2, lJ p3, lS, lI v3, lI v6, lI v9, lI v12, lJ v15, lS, lI v16, lI v17, lR b18, lR b20, lR b22, lU, lU, lU, lU, lU, lU, lU, lU, lU, lU] [(.int (-1 : Int32)), (.int (-1 : Int32)), (.double o_d0), (.double dq0), (.ref b18), (.ref b22)])) rfl (by rw [hml]; rfl) (Steps.refl _) (argsL := [(.ref b18), (.double dq0), (.double o_d0), (.int (-1 : Int32)), (.int (-1 : Int32))]) (rest := []) (lenOf pd_9 rfl) rfl (by show 2 * 0 + _ ≤ _; exact Nat.le_of_eq rfl) (hb hby at_127) (fun _ _ => ⟨rfl, e42, (by decide : 14 + 0 ≤ _), (by decide : 789 + 0 ≤ _)⟩)
  dsimp only [Pt.U, Pt.locs, Pt.cells, Pt.slots] at X140 l140 y140 z140 st140 hQ140
  subst l140 y140 z140
  obtain ⟨h140, e140⟩ : ∃ h, T140.heap = h := ⟨_, rfl⟩
  rw [e140] at hQ140
  obtain ⟨wbs_140, wbt_140, wbp_140, wbu_140, rfl, N140q, Kq140, F142, F143, F144, F145, F146, F147, F148, F149, F150, F151, F152, F153, F154, F155, F156, F157, F158, F159, F160, F161, F162, F163, F164, F165, F166, F167, F168, F169⟩ := hQ140
  have Z140 : n0 ≤ h140.size := Nat.le_trans Z42 Kq140.1
  have F170 : Fld Z h140 b22 "com/example/trajectory/trajectory/search/Nodes" "count" "I" (.int (1 : Int32)) := F145
  have F171 : Arv Z h140 bc_42 kc_42 .double (64 : Int32) [(.double dq0), (.double (0 : UInt64)), (.double (0 : UInt64)), (.double (0 : UInt64))] (.double (0 : UInt64)) := F161
  have F172 : Arv Z h140 bl_42 kl_42 .int (64 : Int32) [(.int (0 : Int32)), (.int (0 : Int32)), (.int (0 : Int32)), (.int (0 : Int32))] (.int (0 : Int32)) := F163
  have N140 := Fr.app N42 N140q
  refine own_viaT st140 ?_
  show own_Go p e below s _ _ _ (T140.setTop (mkF m 130 #[lI p0, lI p1, lI p2, lJ p3, lS, lI v3, lI v6, lI v9, lI v12, lJ v15, lS, lI v16, lI v17, lR b18, lR b20, lR b22, lU, lU, lU, lU, lU, lU, lU, lU, lU, lU] [(.int (0 : Int32))]))
  refine own_via (fun _ k => XS.istore X140.here hx rfl (hb hby at_130) rfl (l' := #[lI p0, lI p1, lI p2, lJ p3, lS, lI v3, lI v6, lI v9, lI v12, lJ v15, lS, lI v16, lI v17, lR b18, lR b20, lR b22, lI 0, lU, lU, lU, lU, lU, lU, lU, lU, lU]) rfl k) ?_
  show own_Go p e below s _ _ _ (T140.setTop (mkF m 132 #[lI p0, lI p1, lI p2, lJ p3, lS, lI v3, lI v6, lI v9, lI v12, lJ v15, lS, lI v16, lI v17, lR b18, lR b20, lR b22, lI 0, lU, lU, lU, lU, lU, lU, lU, lU, lU] []))
  refine own_via (fun _ k => XS.aload X140.here hx rfl (hb hby at_132) rfl rfl k) ?_
  show own_Go p e below s _ _ _ (T140.setTop (mkF m 134 #[lI p0, lI p1, lI p2, lJ p3, lS, lI v3, lI v6, lI v9, lI v12, lJ v15, lS, lI v16, lI v17, lR b18, lR b20, lR b22, lI 0, lU, lU, lU, lU, lU, lU, lU, lU, lU] [(.ref b22)]))
  refine own_via (fun _ k => XS.aload X140.here hx rfl (hb hby at_134) rfl rfl k) ?_
  show own_Go p e below s _ _ _ (T140.setTop (mkF m 136 #[lI p0, lI p1, lI p2, lJ p3, lS, lI v3, lI v6, lI v9, lI v12, lJ v15, lS, lI v16, lI v17, lR b18, lR b20, lR b22, lI 0, lU, lU, lU, lU, lU, lU, lU, lU, lU] [(.ref b20), (.ref b22)]))
  refine own_via (fun _ k => XS.iload X140.here hx rfl (hb hby at_136) rfl k) ?_
  show own_Go p e below s _ _ _ (T140.setTop (mkF m 138 #[lI p0, lI p1, lI p2, lJ p3, lS, lI v3, lI v6, lI v9, lI v12, lJ v15, lS, lI v16, lI v17, lR b18, lR b20, lR b22, lI 0, lU, lU, lU, lU, lU, lU, lU, lU, lU] [(.int v17), (.ref b20), (.ref b22)]))
  refine own_via (fun _ k => XS.i2dS X140.here hx rfl (hb hby at_138) rfl rfl k) ?_
  show own_Go p e below s _ _ _ (T140.setTop (mkF m 139 #[lI p0, lI p1, lI p2, lJ p3, lS, lI v3, lI v6, lI v9, lI v12, lJ v15, lS, lI v16, lI v17, lR b18, lR b20, lR b22, lI 0, lU, lU, lU, lU, lU, lU, lU, lU, lU] [(.double (FP.i2d v17)), (.ref b20), (.ref b22)]))
  generalize hdq1 : (FP.i2d v17) = dq1
  show own_Go p e below s _ _ _ (T140.setTop (mkF m 139 #[lI p0, lI p1, lI p2, lJ p3, lS, lI v3, lI v6, lI v9, lI v12, lJ v15, lS, lI v16, lI v17, lR b18, lR b20, lR b22, lI 0, lU, lU, lU, lU, lU, lU, lU, lU, lU] [(.double dq1), (.ref b20), (.ref b22)]))
  refine own_via (fun _ k => XS.dconst1 X140.here hx rfl (hb hby at_139) (v := o_d1) rfl k) ?_
  show own_Go p e below s _ _ _ (T140.setTop (mkF m 140 #[lI p0, lI p1, lI p2, lJ p3, lS, lI v3, lI v6, lI v9, lI v12, lJ v15, lS, lI v16, lI v17, lR b18, lR b20, lR b22, lI 0, lU, lU, lU, lU, lU, lU, lU, lU, lU] [(.double o_d1), (.double dq1), (.ref b20), (.ref b22)]))
  refine own_via (fun _ k => XS.iload X140.here hx rfl (hb hby at_140) rfl k) ?_
  show own_Go p e below s _ _ _ (T140.setTop (mkF m 142 #[lI p0, lI p1, lI p2, lJ p3, lS, lI v3, lI v6, lI v9, lI v12, lJ v15, lS, lI v16, lI v17, lR b18, lR b20, lR b22, lI 0, lU, lU, lU, lU, lU, lU, lU, lU, lU] [(.int (0 : Int32)), (.double o_d1), (.double dq1), (.ref b20), (.ref b22)]))
  refine own_via (fun _ k => XS.iconst X140.here hx rfl (hb hby at_142) k) ?_
  show own_Go p e below s _ _ _ (T140.setTop (mkF m 143 #[lI p0, lI p1, lI p2, lJ p3, lS, lI v3, lI v6, lI v9, lI v12, lJ v15, lS, lI v16, lI v17, lR b18, lR b20, lR b22, lI 0, lU, lU, lU, lU, lU, lU, lU, lU, lU] [(.int (0 : Int32)), (.int (0 : Int32)), (.double o_d1), (.double dq1), (.ref b20), (.ref b22)]))
  have F174 := (((V21.ext E22).keep Kq42 (ninS ne_b20_b22 nin0)).keep Kq140 (ninS ne_b20_b22 (ninS ne_b20_bs_42 (ninS ne_b20_bc_42 (ninS ne_b20_bt_42 (ninS ne_b20_bl_42 (ninS ne_b20_bp_42 (ninS ne_b20_bu_42 nin0))))))))
  obtain ⟨cq173, kq173, qa173, qb173, qc173⟩ := isOf hZ e140 F142
  obtain ⟨_, _, ⟨T173, L173, k173, n173⟩, -, X173, ⟨Lc173, hQ173, l173, y173, z173⟩, st173⟩ := X140.virtualBack hx (y := (⟨"com/example/trajectory/trajectory/search/Nodes", "add", "([JDDII)I"⟩ : MethodName)) (z := (⟨"com/example/trajectory/trajectory/search/Nodes", "add", "([JDDII)I"⟩ : MethodName)) hown (mvT hZ (hwi hw 65 rfl)) (mvT hZ (hwi hw 66 rfl)) (notFace_of_selects (args := #[]) (mvT hZ (hwi hw 68 rfl))) (mvT hZ (hwi hw 68 rfl)) (mvT hZ (hwi hw 67 rfl)) (by decide) (backOf (W := 0) (rmaP l Z a0 hw [] b22 b20 dq1 o_d1 (0 : Int32) (0 : Int32) (1 : Int32) v15 1 bs_42 bc_42 bt_42 bl_42 bp_42 bu_42 bz_42 bk_42 bT_42 bf_42 br_42 ks_42 kc_42 kt_42 kl_42 kp_42 ku_42 wbs_140 [(.double dq0), (.double (0 : UInt64)), (.double (0 : UInt64)), (.double (0 : UInt64))] wbt_140 [(.int (0 : Int32)), (.int (0 : Int32)), (.int (0 : Int32)), (.int (0 : Int32))] wbp_140 wbu_140 k20 [(.long (1 : Int64))] (0 : Int32) h140 n0 Z140 F142 F143 F144 F170 F146 F147 F148 F149 F150 F151 F152 F153 F154 F155 F156 F157 F158 F159 F160 F171 F162 F172 F164 F165 F174 g_b22 g_bs_42 g_bc_42 g_bt_42 g_bl_42 g_bp_42 g_bu_42 F83 F84 F85 F86 F87 F93 F94 F95 F96 F102 F103 F104 F110 F111 F117 ne_b22_bs_42 ne_b22_bc_42 ne_b22_bt_42 ne_b22_bl_42 ne_b22_bp_42 ne_b22_bu_42 ne_b20_bs_42 ne_b20_bc_42 ne_b20_bt_42 ne_b20_bl_42 ne_b20_bp_42 ne_b20_bu_42 ne_b20_b22 (by decide) (by decide) F166 rfl F167 rfl F168 F169 ⟨by decide, by decide⟩ rfl) hZ (hwi hw 69 rfl) (hwi hw 4 rfl) (by decide) (by decide)) qa173 qc173 (g := (mkF m 143 #[lI p0, lI p1, lI p2, lJ p3, lS, lI v3, lI v6, lI v9, lI v12, lJ v15, lS, lI v16, lI v17, lR b18, lR b20, lR b22, lI 0, lU, lU, lU, lU, lU, lU, lU, lU, lU] [(.int (0 : Int32)), (.int (0 : Int32)), (.double o_d1), (.double dq1), (.ref b20), (.ref b22)])) rfl (by rw [hml]; rfl) (Steps.refl _) (argsL := [(.ref b20), (.double dq1), (.double o_d1), (.int (0 : Int32)), (.int (0 : Int32))]) (rest := []) (lenOf pd_9 rfl) rfl (by show 2 * 0 + _ ≤ _; exact Nat.le_of_eq rfl) (hb hby at_143) (fun _ _ => ⟨rfl, e140, (by decide : 14 + 0 ≤ _), (by decide : 789 + 0 ≤ _)⟩)
  dsimp only [Pt.U, Pt.locs, Pt.cells, Pt.slots] at X173 l173 y173 z173 st173 hQ173
  subst l173 y173 z173
  obtain ⟨h173, e173⟩ : ∃ h, T173.heap = h := ⟨_, rfl⟩
  rw [e173] at hQ173
  obtain ⟨wbs_173, wbt_173, wbp_173, wbu_173, rfl, N173q, Kq173, F175, F176, F177, F178, F179, F180, F181, F182, F183, F184, F185, F186, F187, F188, F189, F190, F191, F192, F193, F194, F195, F196, F197, F198, F199, F200, F201, F202⟩ := hQ173
  have Z173 : n0 ≤ h173.size := Nat.le_trans Z140 Kq173.1
  have F203 : Fld Z h173 b22 "com/example/trajectory/trajectory/search/Nodes" "count" "I" (.int (2 : Int32)) := F178
  have F204 : Arv Z h173 bc_42 kc_42 .double (64 : Int32) [(.double dq0), (.double dq1), (.double (0 : UInt64)), (.double (0 : UInt64))] (.double (0 : UInt64)) := F194
  have F205 : Arv Z h173 bl_42 kl_42 .int (64 : Int32) [(.int (0 : Int32)), (.int (1 : Int32)), (.int (0 : Int32)), (.int (0 : Int32))] (.int (0 : Int32)) := F196
  have N173 := Fr.app N140 N173q
  refine own_viaT st173 ?_
  show own_Go p e below s _ _ _ (T173.setTop (mkF m 146 #[lI p0, lI p1, lI p2, lJ p3, lS, lI v3, lI v6, lI v9, lI v12, lJ v15, lS, lI v16, lI v17, lR b18, lR b20, lR b22, lI 0, lU, lU, lU, lU, lU, lU, lU, lU, lU] [(.int (1 : Int32))]))
  refine own_via (fun _ k => XS.istore X173.here hx rfl (hb hby at_146) rfl (l' := #[lI p0, lI p1, lI p2, lJ p3, lS, lI v3, lI v6, lI v9, lI v12, lJ v15, lS, lI v16, lI v17, lR b18, lR b20, lR b22, lI 0, lI 1, lU, lU, lU, lU, lU, lU, lU, lU]) rfl k) ?_
  show own_Go p e below s _ _ _ (T173.setTop (mkF m 148 #[lI p0, lI p1, lI p2, lJ p3, lS, lI v3, lI v6, lI v9, lI v12, lJ v15, lS, lI v16, lI v17, lR b18, lR b20, lR b22, lI 0, lI 1, lU, lU, lU, lU, lU, lU, lU, lU] []))
  refine own_via (fun _ k => XS.aload X173.here hx rfl (hb hby at_148) rfl rfl k) ?_
  show own_Go p e below s _ _ _ (T173.setTop (mkF m 150 #[lI p0, lI p1, lI p2, lJ p3, lS, lI v3, lI v6, lI v9, lI v12, lJ v15, lS, lI v16, lI v17, lR b18, lR b20, lR b22, lI 0, lI 1, lU, lU, lU, lU, lU, lU, lU, lU] [(.ref b22)]))
  refine own_via (fun _ k => XS.aload X173.here hx rfl (hb hby at_150) rfl rfl k) ?_
  show own_Go p e below s _ _ _ (T173.setTop (mkF m 152 #[lI p0, lI p1, lI p2, lJ p3, lS, lI v3, lI v6, lI v9, lI v12, lJ v15, lS, lI v16, lI v17, lR b18, lR b20, lR b22, lI 0, lI 1, lU, lU, lU, lU, lU, lU, lU, lU] [(.ref b20), (.ref b22)]))
  refine own_via (fun _ k => XS.iload X173.here hx rfl (hb hby at_152) rfl k) ?_
  show own_Go p e below s _ _ _ (T173.setTop (mkF m 154 #[lI p0, lI p1, lI p2, lJ p3, lS, lI v3, lI v6, lI v9, lI v12, lJ v15, lS, lI v16, lI v17, lR b18, lR b20, lR b22, lI 0, lI 1, lU, lU, lU, lU, lU, lU, lU, lU] [(.int v17), (.ref b20), (.ref b22)]))
  refine own_via (fun _ k => XS.iconst X173.here hx rfl (hb hby at_154) k) ?_
  show own_Go p e below s _ _ _ (T173.setTop (mkF m 155 #[lI p0, lI p1, lI p2, lJ p3, lS, lI v3, lI v6, lI v9, lI v12, lJ v15, lS, lI v16, lI v17, lR b18, lR b20, lR b22, lI 0, lI 1, lU, lU, lU, lU, lU, lU, lU, lU] [(.int (1 : Int32)), (.int v17), (.ref b20), (.ref b22)]))
  refine own_via (fun _ k => XS.isub X173.here hx rfl (hb hby at_155) rfl k) ?_
  show own_Go p e below s _ _ _ (T173.setTop (mkF m 156 #[lI p0, lI p1, lI p2, lJ p3, lS, lI v3, lI v6, lI v9, lI v12, lJ v15, lS, lI v16, lI v17, lR b18, lR b20, lR b22, lI 0, lI 1, lU, lU, lU, lU, lU, lU, lU, lU] [(.int (v17 - (1 : Int32))), (.ref b20), (.ref b22)]))
  refine own_via (fun _ k => XS.i2dS X173.here hx rfl (hb hby at_156) rfl rfl k) ?_
  show own_Go p e below s _ _ _ (T173.setTop (mkF m 157 #[lI p0, lI p1, lI p2, lJ p3, lS, lI v3, lI v6, lI v9, lI v12, lJ v15, lS, lI v16, lI v17, lR b18, lR b20, lR b22, lI 0, lI 1, lU, lU, lU, lU, lU, lU, lU, lU] [(.double (FP.i2d (v17 - (1 : Int32)))), (.ref b20), (.ref b22)]))
  generalize hdq2 : (FP.i2d (v17 - (1 : Int32))) = dq2
  show own_Go p e below s _ _ _ (T173.setTop (mkF m 157 #[lI p0, lI p1, lI p2, lJ p3, lS, lI v3, lI v6, lI v9, lI v12, lJ v15, lS, lI v16, lI v17, lR b18, lR b20, lR b22, lI 0, lI 1, lU, lU, lU, lU, lU, lU, lU, lU] [(.double dq2), (.ref b20), (.ref b22)]))
  refine own_via (fun _ k => XS.dconst1 X173.here hx rfl (hb hby at_157) (v := o_d1) rfl k) ?_
  show own_Go p e below s _ _ _ (T173.setTop (mkF m 158 #[lI p0, lI p1, lI p2, lJ p3, lS, lI v3, lI v6, lI v9, lI v12, lJ v15, lS, lI v16, lI v17, lR b18, lR b20, lR b22, lI 0, lI 1, lU, lU, lU, lU, lU, lU, lU, lU] [(.double o_d1), (.double dq2), (.ref b20), (.ref b22)]))
  refine own_via (fun _ k => XS.iload X173.here hx rfl (hb hby at_158) rfl k) ?_
  show own_Go p e below s _ _ _ (T173.setTop (mkF m 160 #[lI p0, lI p1, lI p2, lJ p3, lS, lI v3, lI v6, lI v9, lI v12, lJ v15, lS, lI v16, lI v17, lR b18, lR b20, lR b22, lI 0, lI 1, lU, lU, lU, lU, lU, lU, lU, lU] [(.int (0 : Int32)), (.double o_d1), (.double dq2), (.ref b20), (.ref b22)]))
  refine own_via (fun _ k => XS.iconst X173.here hx rfl (hb hby at_160) k) ?_
  show own_Go p e below s _ _ _ (T173.setTop (mkF m 161 #[lI p0, lI p1, lI p2, lJ p3, lS, lI v3, lI v6, lI v9, lI v12, lJ v15, lS, lI v16, lI v17, lR b18, lR b20, lR b22, lI 0, lI 1, lU, lU, lU, lU, lU, lU, lU, lU] [(.int (1 : Int32)), (.int (0 : Int32)), (.double o_d1), (.double dq2), (.ref b20), (.ref b22)]))
  have F207 := (F174.keep Kq173 (ninS ne_b20_b22 (ninS ne_b20_bs_42 (ninS ne_b20_bc_42 (ninS ne_b20_bt_42 (ninS ne_b20_bl_42 (ninS ne_b20_bp_42 (ninS ne_b20_bu_42 nin0))))))))
  obtain ⟨cq206, kq206, qa206, qb206, qc206⟩ := isOf hZ e173 F175
  obtain ⟨_, _, ⟨T206, L206, k206, n206⟩, -, X206, ⟨Lc206, hQ206, l206, y206, z206⟩, st206⟩ := X173.virtualBack hx (y := (⟨"com/example/trajectory/trajectory/search/Nodes", "add", "([JDDII)I"⟩ : MethodName)) (z := (⟨"com/example/trajectory/trajectory/search/Nodes", "add", "([JDDII)I"⟩ : MethodName)) hown (mvT hZ (hwi hw 65 rfl)) (mvT hZ (hwi hw 66 rfl)) (notFace_of_selects (args := #[]) (mvT hZ (hwi hw 68 rfl))) (mvT hZ (hwi hw 68 rfl)) (mvT hZ (hwi hw 67 rfl)) (by decide) (backOf (W := 0) (rmaP l Z a0 hw [] b22 b20 dq2 o_d1 (0 : Int32) (1 : Int32) (2 : Int32) v15 2 bs_42 bc_42 bt_42 bl_42 bp_42 bu_42 bz_42 bk_42 bT_42 bf_42 br_42 ks_42 kc_42 kt_42 kl_42 kp_42 ku_42 wbs_173 [(.double dq0), (.double dq1), (.double (0 : UInt64)), (.double (0 : UInt64))] wbt_173 [(.int (0 : Int32)), (.int (1 : Int32)), (.int (0 : Int32)), (.int (0 : Int32))] wbp_173 wbu_173 k20 [(.long (1 : Int64))] (0 : Int32) h173 n0 Z173 F175 F176 F177 F203 F179 F180 F181 F182 F183 F184 F185 F186 F187 F188 F189 F190 F191 F192 F193 F204 F195 F205 F197 F198 F207 g_b22 g_bs_42 g_bc_42 g_bt_42 g_bl_42 g_bp_42 g_bu_42 F83 F84 F85 F86 F87 F93 F94 F95 F96 F102 F103 F104 F110 F111 F117 ne_b22_bs_42 ne_b22_bc_42 ne_b22_bt_42 ne_b22_bl_42 ne_b22_bp_42 ne_b22_bu_42 ne_b20_bs_42 ne_b20_bc_42 ne_b20_bt_42 ne_b20_bl_42 ne_b20_bp_42 ne_b20_bu_42 ne_b20_b22 (by decide) (by decide) F199 rfl F200 rfl F201 F202 ⟨by decide, by decide⟩ rfl) hZ (hwi hw 69 rfl) (hwi hw 4 rfl) (by decide) (by decide)) qa206 qc206 (g := (mkF m 161 #[lI p0, lI p1, lI p2, lJ p3, lS, lI v3, lI v6, lI v9, lI v12, lJ v15, lS, lI v16, lI v17, lR b18, lR b20, lR b22, lI 0, lI 1, lU, lU, lU, lU, lU, lU, lU, lU] [(.int (1 : Int32)), (.int (0 : Int32)), (.double o_d1), (.double dq2), (.ref b20), (.ref b22)])) rfl (by rw [hml]; rfl) (Steps.refl _) (argsL := [(.ref b20), (.double dq2), (.double o_d1), (.int (0 : Int32)), (.int (1 : Int32))]) (rest := []) (lenOf pd_9 rfl) rfl (by show 2 * 0 + _ ≤ _; exact Nat.le_of_eq rfl) (hb hby at_161) (fun _ _ => ⟨rfl, e173, (by decide : 14 + 0 ≤ _), (by decide : 789 + 0 ≤ _)⟩)
  dsimp only [Pt.U, Pt.locs, Pt.cells, Pt.slots] at X206 l206 y206 z206 st206 hQ206
  subst l206 y206 z206
  obtain ⟨h206, e206⟩ : ∃ h, T206.heap = h := ⟨_, rfl⟩
  rw [e206] at hQ206
  obtain ⟨wbs_206, wbt_206, wbp_206, wbu_206, rfl, N206q, Kq206, F208, F209, F210, F211, F212, F213, F214, F215, F216, F217, F218, F219, F220, F221, F222, F223, F224, F225, F226, F227, F228, F229, F230, F231, F232, F233, F234, F235⟩ := hQ206
  have Z206 : n0 ≤ h206.size := Nat.le_trans Z173 Kq206.1
  have F236 : Fld Z h206 b22 "com/example/trajectory/trajectory/search/Nodes" "count" "I" (.int (3 : Int32)) := F211
  have F237 : Arv Z h206 bc_42 kc_42 .double (64 : Int32) [(.double dq0), (.double dq1), (.double dq2), (.double (0 : UInt64))] (.double (0 : UInt64)) := F227
  have F238 : Arv Z h206 bl_42 kl_42 .int (64 : Int32) [(.int (0 : Int32)), (.int (1 : Int32)), (.int (1 : Int32)), (.int (0 : Int32))] (.int (0 : Int32)) := F229
  have N206 := Fr.app N173 N206q
  refine own_viaT st206 ?_
  show own_Go p e below s _ _ _ (T206.setTop (mkF m 164 #[lI p0, lI p1, lI p2, lJ p3, lS, lI v3, lI v6, lI v9, lI v12, lJ v15, lS, lI v16, lI v17, lR b18, lR b20, lR b22, lI 0, lI 1, lU, lU, lU, lU, lU, lU, lU, lU] [(.int (2 : Int32))]))
  refine own_via (fun _ k => XS.istore X206.here hx rfl (hb hby at_164) rfl (l' := #[lI p0, lI p1, lI p2, lJ p3, lS, lI v3, lI v6, lI v9, lI v12, lJ v15, lS, lI v16, lI v17, lR b18, lR b20, lR b22, lI 0, lI 1, lI 2, lU, lU, lU, lU, lU, lU, lU]) rfl k) ?_
  show own_Go p e below s _ _ _ (T206.setTop (mkF m 166 #[lI p0, lI p1, lI p2, lJ p3, lS, lI v3, lI v6, lI v9, lI v12, lJ v15, lS, lI v16, lI v17, lR b18, lR b20, lR b22, lI 0, lI 1, lI 2, lU, lU, lU, lU, lU, lU, lU] []))
  have jz : ∀ (z5 : Int32) (z6 : Int32) (z7 : Int32) (z8 : Int32) (z19 : Int32) (z20 : Int32) (z21 : Int32) (z22 : Int32) (ww : Int64) (T239 : State) (lo239 : List Loc) (h239 : Heap), Stand p l e room_1 s m #[(.int p0), (.int p1), (.int p2), (.long p3)] below meth c T239 lo239 14 789 → T239.heap = h239 → Fr n0 lo239 → n0 ≤ h239.size → Exa Z h239 b22 "com/example/trajectory/trajectory/search/Nodes" → Fld Z h239 b22 "com/example/trajectory/trajectory/search/Nodes" "waitingWithin" "J" (.long ww) → z21 = z22 → (own_any ww) = (own_exp z5 z6 z19 z22 v15) → own_Go p e below s (Q0 Z p0 p1 p2 p3 h0 n0) room_1.cells room_1.slots (T239.setTop (mkF m 312 #[lI p0, lI p1, lI p2, lJ p3, lS, lI z5, lI z6, lI z7, lI z8, lJ v15, lS, lI v16, lI v17, lR b18, lR b20, lR b22, lI 0, lI 1, lI 2, lI z19, lI z20, lI z21, lI z22, lU, lU, lU] [])) := by
    intro z5 z6 z7 z8 z19 z20 z21 z22 ww T239 lo239 h239 X239 e239 N239 Z239 F240 F241 hz1 hz2
    show own_Go p e below s _ _ _ (T239.setTop (mkF m 312 #[lI p0, lI p1, lI p2, lJ p3, lS, lI z5, lI z6, lI z7, lI z8, lJ v15, lS, lI v16, lI v17, lR b18, lR b20, lR b22, lI 0, lI 1, lI 2, lI z19, lI z20, lI z21, lI z22, lU, lU, lU] []))
    have st242 : ∀ t, Steps p.tables e below (T239.setTop (mkF m 336 #[lI p0, lI p1, lI p2, lJ p3, lS, lI z5, lI z6, lI z7, lI z8, lJ v15, lS, lI v16, lI v17, lR b18, lR b20, lR b22, lI 0, lI 1, lI 2, lI z19, lI z20, lI z21, lI z22, lU, lU, lU] [(.int (if z5 = (0 : Int32) then (0 : Int32) else (if v15 < (0 : Int64) then (0 : Int32) else (if z22 = (0 : Int32) then (0 : Int32) else (1 : Int32)))))])) t → Steps p.tables e below (T239.setTop (mkF m 312 #[lI p0, lI p1, lI p2, lJ p3, lS, lI z5, lI z6, lI z7, lI z8, lJ v15, lS, lI v16, lI v17, lR b18, lR b20, lR b22, lI 0, lI 1, lI 2, lI z19, lI z20, lI z21, lI z22, lU, lU, lU] [])) t := by
      intro t k
      refine XS.iload X239.here hx rfl (hb hby at_312) rfl ?_
      show Steps p.tables e below (T239.setTop (mkF m 314 #[lI p0, lI p1, lI p2, lJ p3, lS, lI z5, lI z6, lI z7, lI z8, lJ v15, lS, lI v16, lI v17, lR b18, lR b20, lR b22, lI 0, lI 1, lI 2, lI z19, lI z20, lI z21, lI z22, lU, lU, lU] [(.int z5)])) t
      by_cases hq243 : z5 = (0 : Int32)
      · refine XS.ifYes X239.here hx rfl (pc0 := 314) (pc' := 335) rfl (hb hby at_314) rfl (Jvm.Free.XT.i0_eq_t hq243) (by decide) (by decide) ?_
        show Steps p.tables e below (T239.setTop (mkF m 335 #[lI p0, lI p1, lI p2, lJ p3, lS, lI z5, lI z6, lI z7, lI z8, lJ v15, lS, lI v16, lI v17, lR b18, lR b20, lR b22, lI 0, lI 1, lI 2, lI z19, lI z20, lI z21, lI z22, lU, lU, lU] [])) t
        refine XS.iconst X239.here hx rfl (hb hby at_335) ?_
        show Steps p.tables e below (T239.setTop (mkF m 336 #[lI p0, lI p1, lI p2, lJ p3, lS, lI z5, lI z6, lI z7, lI z8, lJ v15, lS, lI v16, lI v17, lR b18, lR b20, lR b22, lI 0, lI 1, lI 2, lI z19, lI z20, lI z21, lI z22, lU, lU, lU] [(.int (0 : Int32))])) t
        try simp only [if_pos hq243] at k
        exact k
      · refine XS.ifNo X239.here hx rfl (hb hby at_314) rfl (Jvm.Free.XT.i0_eq_f hq243) ?_
        show Steps p.tables e below (T239.setTop (mkF m 317 #[lI p0, lI p1, lI p2, lJ p3, lS, lI z5, lI z6, lI z7, lI z8, lJ v15, lS, lI v16, lI v17, lR b18, lR b20, lR b22, lI 0, lI 1, lI 2, lI z19, lI z20, lI z21, lI z22, lU, lU, lU] [])) t
        refine XS.lconst X239.here hx rfl (hb hby at_317) ?_
        show Steps p.tables e below (T239.setTop (mkF m 318 #[lI p0, lI p1, lI p2, lJ p3, lS, lI z5, lI z6, lI z7, lI z8, lJ v15, lS, lI v16, lI v17, lR b18, lR b20, lR b22, lI 0, lI 1, lI 2, lI z19, lI z20, lI z21, lI z22, lU, lU, lU] [(.long (0 : Int64))])) t
        refine XS.lload X239.here hx rfl (hb hby at_318) rfl ?_
        show Steps p.tables e below (T239.setTop (mkF m 320 #[lI p0, lI p1, lI p2, lJ p3, lS, lI z5, lI z6, lI z7, lI z8, lJ v15, lS, lI v16, lI v17, lR b18, lR b20, lR b22, lI 0, lI 1, lI 2, lI z19, lI z20, lI z21, lI z22, lU, lU, lU] [(.long v15), (.long (0 : Int64))])) t
        refine XS.lcmp X239.here hx rfl (hb hby at_320) rfl ?_
        show Steps p.tables e below (T239.setTop (mkF m 321 #[lI p0, lI p1, lI p2, lJ p3, lS, lI z5, lI z6, lI z7, lI z8, lJ v15, lS, lI v16, lI v17, lR b18, lR b20, lR b22, lI 0, lI 1, lI 2, lI z19, lI z20, lI z21, lI z22, lU, lU, lU] [(.int (lcmpW (0 : Int64) v15))])) t
        by_cases hq244 : v15 < (0 : Int64)
        · refine XS.ifYes X239.here hx rfl (pc0 := 321) (pc' := 335) rfl (hb hby at_321) rfl (Jvm.Free.XT.ll_gt_t hq244) (by decide) (by decide) ?_
          show Steps p.tables e below (T239.setTop (mkF m 335 #[lI p0, lI p1, lI p2, lJ p3, lS, lI z5, lI z6, lI z7, lI z8, lJ v15, lS, lI v16, lI v17, lR b18, lR b20, lR b22, lI 0, lI 1, lI 2, lI z19, lI z20, lI z21, lI z22, lU, lU, lU] [])) t
          refine XS.iconst X239.here hx rfl (hb hby at_335) ?_
          show Steps p.tables e below (T239.setTop (mkF m 336 #[lI p0, lI p1, lI p2, lJ p3, lS, lI z5, lI z6, lI z7, lI z8, lJ v15, lS, lI v16, lI v17, lR b18, lR b20, lR b22, lI 0, lI 1, lI 2, lI z19, lI z20, lI z21, lI z22, lU, lU, lU] [(.int (0 : Int32))])) t
          try simp only [if_neg hq243, if_pos hq244] at k
          exact k
        · refine XS.ifNo X239.here hx rfl (hb hby at_321) rfl (Jvm.Free.XT.ll_gt_f hq244) ?_
          show Steps p.tables e below (T239.setTop (mkF m 324 #[lI p0, lI p1, lI p2, lJ p3, lS, lI z5, lI z6, lI z7, lI z8, lJ v15, lS, lI v16, lI v17, lR b18, lR b20, lR b22, lI 0, lI 1, lI 2, lI z19, lI z20, lI z21, lI z22, lU, lU, lU] [])) t
          refine XS.iload X239.here hx rfl (hb hby at_324) rfl ?_
          show Steps p.tables e below (T239.setTop (mkF m 326 #[lI p0, lI p1, lI p2, lJ p3, lS, lI z5, lI z6, lI z7, lI z8, lJ v15, lS, lI v16, lI v17, lR b18, lR b20, lR b22, lI 0, lI 1, lI 2, lI z19, lI z20, lI z21, lI z22, lU, lU, lU] [(.int z22)])) t
          refine XS.iload X239.here hx rfl (hb hby at_326) rfl ?_
          show Steps p.tables e below (T239.setTop (mkF m 328 #[lI p0, lI p1, lI p2, lJ p3, lS, lI z5, lI z6, lI z7, lI z8, lJ v15, lS, lI v16, lI v17, lR b18, lR b20, lR b22, lI 0, lI 1, lI 2, lI z19, lI z20, lI z21, lI z22, lU, lU, lU] [(.int (0 : Int32)), (.int z22)])) t
          by_cases hq245 : z22 = (0 : Int32)
          · refine XS.icmpYes X239.here hx rfl (pc0 := 328) (pc' := 335) rfl (hb hby at_328) rfl (Jvm.Free.XT.ii_eq_t hq245) (by decide) (by decide) ?_
            show Steps p.tables e below (T239.setTop (mkF m 335 #[lI p0, lI p1, lI p2, lJ p3, lS, lI z5, lI z6, lI z7, lI z8, lJ v15, lS, lI v16, lI v17, lR b18, lR b20, lR b22, lI 0, lI 1, lI 2, lI z19, lI z20, lI z21, lI z22, lU, lU, lU] [])) t
            refine XS.iconst X239.here hx rfl (hb hby at_335) ?_
            show Steps p.tables e below (T239.setTop (mkF m 336 #[lI p0, lI p1, lI p2, lJ p3, lS, lI z5, lI z6, lI z7, lI z8, lJ v15, lS, lI v16, lI v17, lR b18, lR b20, lR b22, lI 0, lI 1, lI 2, lI z19, lI z20, lI z21, lI z22, lU, lU, lU] [(.int (0 : Int32))])) t
            try simp only [if_neg hq243, if_neg hq244, if_pos hq245] at k
            exact k
          · refine XS.icmpNo X239.here hx rfl (hb hby at_328) rfl (Jvm.Free.XT.ii_eq_f hq245) ?_
            show Steps p.tables e below (T239.setTop (mkF m 331 #[lI p0, lI p1, lI p2, lJ p3, lS, lI z5, lI z6, lI z7, lI z8, lJ v15, lS, lI v16, lI v17, lR b18, lR b20, lR b22, lI 0, lI 1, lI 2, lI z19, lI z20, lI z21, lI z22, lU, lU, lU] [])) t
            refine XS.iconst X239.here hx rfl (hb hby at_331) ?_
            show Steps p.tables e below (T239.setTop (mkF m 332 #[lI p0, lI p1, lI p2, lJ p3, lS, lI z5, lI z6, lI z7, lI z8, lJ v15, lS, lI v16, lI v17, lR b18, lR b20, lR b22, lI 0, lI 1, lI 2, lI z19, lI z20, lI z21, lI z22, lU, lU, lU] [(.int (1 : Int32))])) t
            refine XS.goto X239.here hx rfl (pc0 := 332) (pc' := 336) rfl (hb hby at_332) (by decide) (by decide) ?_
            show Steps p.tables e below (T239.setTop (mkF m 336 #[lI p0, lI p1, lI p2, lJ p3, lS, lI z5, lI z6, lI z7, lI z8, lJ v15, lS, lI v16, lI v17, lR b18, lR b20, lR b22, lI 0, lI 1, lI 2, lI z19, lI z20, lI z21, lI z22, lU, lU, lU] [(.int (1 : Int32))])) t
            try simp only [if_neg hq243, if_neg hq244, if_neg hq245] at k
            exact k
    refine own_via st242 ?_
    show own_Go p e below s _ _ _ (T239.setTop (mkF m 336 #[lI p0, lI p1, lI p2, lJ p3, lS, lI z5, lI z6, lI z7, lI z8, lJ v15, lS, lI v16, lI v17, lR b18, lR b20, lR b22, lI 0, lI 1, lI 2, lI z19, lI z20, lI z21, lI z22, lU, lU, lU] [(.int (if z5 = (0 : Int32) then (0 : Int32) else (if v15 < (0 : Int64) then (0 : Int32) else (if z22 = (0 : Int32) then (0 : Int32) else (1 : Int32)))))]))
    refine own_via (fun _ k => XS.istore X239.here hx rfl (hb hby at_336) rfl (l' := #[lI p0, lI p1, lI p2, lJ p3, lS, lI z5, lI z6, lI z7, lI z8, lJ v15, lS, lI v16, lI v17, lR b18, lR b20, lR b22, lI 0, lI 1, lI 2, lI z19, lI z20, lI z21, lI z22, lI (if z5 = (0 : Int32) then (0 : Int32) else (if v15 < (0 : Int64) then (0 : Int32) else (if z22 = (0 : Int32) then (0 : Int32) else (1 : Int32)))), lU, lU]) rfl k) ?_
    show own_Go p e below s _ _ _ (T239.setTop (mkF m 338 #[lI p0, lI p1, lI p2, lJ p3, lS, lI z5, lI z6, lI z7, lI z8, lJ v15, lS, lI v16, lI v17, lR b18, lR b20, lR b22, lI 0, lI 1, lI 2, lI z19, lI z20, lI z21, lI z22, lI (if z5 = (0 : Int32) then (0 : Int32) else (if v15 < (0 : Int64) then (0 : Int32) else (if z22 = (0 : Int32) then (0 : Int32) else (1 : Int32)))), lU, lU] []))
    generalize hv246 : (if z5 = (0 : Int32) then (0 : Int32) else (if v15 < (0 : Int64) then (0 : Int32) else (if z22 = (0 : Int32) then (0 : Int32) else (1 : Int32)))) = v246
    show own_Go p e below s _ _ _ (T239.setTop (mkF m 338 #[lI p0, lI p1, lI p2, lJ p3, lS, lI z5, lI z6, lI z7, lI z8, lJ v15, lS, lI v16, lI v17, lR b18, lR b20, lR b22, lI 0, lI 1, lI 2, lI z19, lI z20, lI z21, lI z22, lI v246, lU, lU] []))
    have st247 : ∀ t, Steps p.tables e below (T239.setTop (mkF m 367 #[lI p0, lI p1, lI p2, lJ p3, lS, lI z5, lI z6, lI z7, lI z8, lJ v15, lS, lI v16, lI v17, lR b18, lR b20, lR b22, lI 0, lI 1, lI 2, lI z19, lI z20, lI z21, lI z22, lI v246, lU, lU] [(.int (if z6 = (0 : Int32) then (0 : Int32) else (if v15 < (1 : Int64) then (0 : Int32) else (if z19 = (0 : Int32) then (if z22 = (1 : Int32) then (0 : Int32) else (1 : Int32)) else (0 : Int32)))))])) t → Steps p.tables e below (T239.setTop (mkF m 338 #[lI p0, lI p1, lI p2, lJ p3, lS, lI z5, lI z6, lI z7, lI z8, lJ v15, lS, lI v16, lI v17, lR b18, lR b20, lR b22, lI 0, lI 1, lI 2, lI z19, lI z20, lI z21, lI z22, lI v246, lU, lU] [])) t := by
      intro t k
      refine XS.iload X239.here hx rfl (hb hby at_338) rfl ?_
      show Steps p.tables e below (T239.setTop (mkF m 340 #[lI p0, lI p1, lI p2, lJ p3, lS, lI z5, lI z6, lI z7, lI z8, lJ v15, lS, lI v16, lI v17, lR b18, lR b20, lR b22, lI 0, lI 1, lI 2, lI z19, lI z20, lI z21, lI z22, lI v246, lU, lU] [(.int z6)])) t
      by_cases hq248 : z6 = (0 : Int32)
      · refine XS.ifYes X239.here hx rfl (pc0 := 340) (pc' := 366) rfl (hb hby at_340) rfl (Jvm.Free.XT.i0_eq_t hq248) (by decide) (by decide) ?_
        show Steps p.tables e below (T239.setTop (mkF m 366 #[lI p0, lI p1, lI p2, lJ p3, lS, lI z5, lI z6, lI z7, lI z8, lJ v15, lS, lI v16, lI v17, lR b18, lR b20, lR b22, lI 0, lI 1, lI 2, lI z19, lI z20, lI z21, lI z22, lI v246, lU, lU] [])) t
        refine XS.iconst X239.here hx rfl (hb hby at_366) ?_
        show Steps p.tables e below (T239.setTop (mkF m 367 #[lI p0, lI p1, lI p2, lJ p3, lS, lI z5, lI z6, lI z7, lI z8, lJ v15, lS, lI v16, lI v17, lR b18, lR b20, lR b22, lI 0, lI 1, lI 2, lI z19, lI z20, lI z21, lI z22, lI v246, lU, lU] [(.int (0 : Int32))])) t
        try simp only [if_pos hq248] at k
        exact k
      · refine XS.ifNo X239.here hx rfl (hb hby at_340) rfl (Jvm.Free.XT.i0_eq_f hq248) ?_
        show Steps p.tables e below (T239.setTop (mkF m 343 #[lI p0, lI p1, lI p2, lJ p3, lS, lI z5, lI z6, lI z7, lI z8, lJ v15, lS, lI v16, lI v17, lR b18, lR b20, lR b22, lI 0, lI 1, lI 2, lI z19, lI z20, lI z21, lI z22, lI v246, lU, lU] [])) t
        refine XS.lconst X239.here hx rfl (hb hby at_343) ?_
        show Steps p.tables e below (T239.setTop (mkF m 344 #[lI p0, lI p1, lI p2, lJ p3, lS, lI z5, lI z6, lI z7, lI z8, lJ v15, lS, lI v16, lI v17, lR b18, lR b20, lR b22, lI 0, lI 1, lI 2, lI z19, lI z20, lI z21, lI z22, lI v246, lU, lU] [(.long (1 : Int64))])) t
        refine XS.lload X239.here hx rfl (hb hby at_344) rfl ?_
        show Steps p.tables e below (T239.setTop (mkF m 346 #[lI p0, lI p1, lI p2, lJ p3, lS, lI z5, lI z6, lI z7, lI z8, lJ v15, lS, lI v16, lI v17, lR b18, lR b20, lR b22, lI 0, lI 1, lI 2, lI z19, lI z20, lI z21, lI z22, lI v246, lU, lU] [(.long v15), (.long (1 : Int64))])) t
        refine XS.lcmp X239.here hx rfl (hb hby at_346) rfl ?_
        show Steps p.tables e below (T239.setTop (mkF m 347 #[lI p0, lI p1, lI p2, lJ p3, lS, lI z5, lI z6, lI z7, lI z8, lJ v15, lS, lI v16, lI v17, lR b18, lR b20, lR b22, lI 0, lI 1, lI 2, lI z19, lI z20, lI z21, lI z22, lI v246, lU, lU] [(.int (lcmpW (1 : Int64) v15))])) t
        by_cases hq249 : v15 < (1 : Int64)
        · refine XS.ifYes X239.here hx rfl (pc0 := 347) (pc' := 366) rfl (hb hby at_347) rfl (Jvm.Free.XT.ll_gt_t hq249) (by decide) (by decide) ?_
          show Steps p.tables e below (T239.setTop (mkF m 366 #[lI p0, lI p1, lI p2, lJ p3, lS, lI z5, lI z6, lI z7, lI z8, lJ v15, lS, lI v16, lI v17, lR b18, lR b20, lR b22, lI 0, lI 1, lI 2, lI z19, lI z20, lI z21, lI z22, lI v246, lU, lU] [])) t
          refine XS.iconst X239.here hx rfl (hb hby at_366) ?_
          show Steps p.tables e below (T239.setTop (mkF m 367 #[lI p0, lI p1, lI p2, lJ p3, lS, lI z5, lI z6, lI z7, lI z8, lJ v15, lS, lI v16, lI v17, lR b18, lR b20, lR b22, lI 0, lI 1, lI 2, lI z19, lI z20, lI z21, lI z22, lI v246, lU, lU] [(.int (0 : Int32))])) t
          try simp only [if_neg hq248, if_pos hq249] at k
          exact k
        · refine XS.ifNo X239.here hx rfl (hb hby at_347) rfl (Jvm.Free.XT.ll_gt_f hq249) ?_
          show Steps p.tables e below (T239.setTop (mkF m 350 #[lI p0, lI p1, lI p2, lJ p3, lS, lI z5, lI z6, lI z7, lI z8, lJ v15, lS, lI v16, lI v17, lR b18, lR b20, lR b22, lI 0, lI 1, lI 2, lI z19, lI z20, lI z21, lI z22, lI v246, lU, lU] [])) t
          refine XS.iload X239.here hx rfl (hb hby at_350) rfl ?_
          show Steps p.tables e below (T239.setTop (mkF m 352 #[lI p0, lI p1, lI p2, lJ p3, lS, lI z5, lI z6, lI z7, lI z8, lJ v15, lS, lI v16, lI v17, lR b18, lR b20, lR b22, lI 0, lI 1, lI 2, lI z19, lI z20, lI z21, lI z22, lI v246, lU, lU] [(.int z19)])) t
          by_cases hq250 : z19 = (0 : Int32)
          · refine XS.ifNo X239.here hx rfl (hb hby at_352) rfl (Jvm.Free.XT.i0_ne_f hq250) ?_
            show Steps p.tables e below (T239.setTop (mkF m 355 #[lI p0, lI p1, lI p2, lJ p3, lS, lI z5, lI z6, lI z7, lI z8, lJ v15, lS, lI v16, lI v17, lR b18, lR b20, lR b22, lI 0, lI 1, lI 2, lI z19, lI z20, lI z21, lI z22, lI v246, lU, lU] [])) t
            refine XS.iload X239.here hx rfl (hb hby at_355) rfl ?_
            show Steps p.tables e below (T239.setTop (mkF m 357 #[lI p0, lI p1, lI p2, lJ p3, lS, lI z5, lI z6, lI z7, lI z8, lJ v15, lS, lI v16, lI v17, lR b18, lR b20, lR b22, lI 0, lI 1, lI 2, lI z19, lI z20, lI z21, lI z22, lI v246, lU, lU] [(.int z22)])) t
            refine XS.iload X239.here hx rfl (hb hby at_357) rfl ?_
            show Steps p.tables e below (T239.setTop (mkF m 359 #[lI p0, lI p1, lI p2, lJ p3, lS, lI z5, lI z6, lI z7, lI z8, lJ v15, lS, lI v16, lI v17, lR b18, lR b20, lR b22, lI 0, lI 1, lI 2, lI z19, lI z20, lI z21, lI z22, lI v246, lU, lU] [(.int (1 : Int32)), (.int z22)])) t
            by_cases hq251 : z22 = (1 : Int32)
            · refine XS.icmpYes X239.here hx rfl (pc0 := 359) (pc' := 366) rfl (hb hby at_359) rfl (Jvm.Free.XT.ii_eq_t hq251) (by decide) (by decide) ?_
              show Steps p.tables e below (T239.setTop (mkF m 366 #[lI p0, lI p1, lI p2, lJ p3, lS, lI z5, lI z6, lI z7, lI z8, lJ v15, lS, lI v16, lI v17, lR b18, lR b20, lR b22, lI 0, lI 1, lI 2, lI z19, lI z20, lI z21, lI z22, lI v246, lU, lU] [])) t
              refine XS.iconst X239.here hx rfl (hb hby at_366) ?_
              show Steps p.tables e below (T239.setTop (mkF m 367 #[lI p0, lI p1, lI p2, lJ p3, lS, lI z5, lI z6, lI z7, lI z8, lJ v15, lS, lI v16, lI v17, lR b18, lR b20, lR b22, lI 0, lI 1, lI 2, lI z19, lI z20, lI z21, lI z22, lI v246, lU, lU] [(.int (0 : Int32))])) t
              try simp only [if_neg hq248, if_neg hq249, if_pos hq250, if_pos hq251] at k
              exact k
            · refine XS.icmpNo X239.here hx rfl (hb hby at_359) rfl (Jvm.Free.XT.ii_eq_f hq251) ?_
              show Steps p.tables e below (T239.setTop (mkF m 362 #[lI p0, lI p1, lI p2, lJ p3, lS, lI z5, lI z6, lI z7, lI z8, lJ v15, lS, lI v16, lI v17, lR b18, lR b20, lR b22, lI 0, lI 1, lI 2, lI z19, lI z20, lI z21, lI z22, lI v246, lU, lU] [])) t
              refine XS.iconst X239.here hx rfl (hb hby at_362) ?_
              show Steps p.tables e below (T239.setTop (mkF m 363 #[lI p0, lI p1, lI p2, lJ p3, lS, lI z5, lI z6, lI z7, lI z8, lJ v15, lS, lI v16, lI v17, lR b18, lR b20, lR b22, lI 0, lI 1, lI 2, lI z19, lI z20, lI z21, lI z22, lI v246, lU, lU] [(.int (1 : Int32))])) t
              refine XS.goto X239.here hx rfl (pc0 := 363) (pc' := 367) rfl (hb hby at_363) (by decide) (by decide) ?_
              show Steps p.tables e below (T239.setTop (mkF m 367 #[lI p0, lI p1, lI p2, lJ p3, lS, lI z5, lI z6, lI z7, lI z8, lJ v15, lS, lI v16, lI v17, lR b18, lR b20, lR b22, lI 0, lI 1, lI 2, lI z19, lI z20, lI z21, lI z22, lI v246, lU, lU] [(.int (1 : Int32))])) t
              try simp only [if_neg hq248, if_neg hq249, if_pos hq250, if_neg hq251] at k
              exact k
          · refine XS.ifYes X239.here hx rfl (pc0 := 352) (pc' := 366) rfl (hb hby at_352) rfl (Jvm.Free.XT.i0_ne_t hq250) (by decide) (by decide) ?_
            show Steps p.tables e below (T239.setTop (mkF m 366 #[lI p0, lI p1, lI p2, lJ p3, lS, lI z5, lI z6, lI z7, lI z8, lJ v15, lS, lI v16, lI v17, lR b18, lR b20, lR b22, lI 0, lI 1, lI 2, lI z19, lI z20, lI z21, lI z22, lI v246, lU, lU] [])) t
            refine XS.iconst X239.here hx rfl (hb hby at_366) ?_
            show Steps p.tables e below (T239.setTop (mkF m 367 #[lI p0, lI p1, lI p2, lJ p3, lS, lI z5, lI z6, lI z7, lI z8, lJ v15, lS, lI v16, lI v17, lR b18, lR b20, lR b22, lI 0, lI 1, lI 2, lI z19, lI z20, lI z21, lI z22, lI v246, lU, lU] [(.int (0 : Int32))])) t
            try simp only [if_neg hq248, if_neg hq249, if_neg hq250] at k
            exact k
    refine own_via st247 ?_
    show own_Go p e below s _ _ _ (T239.setTop (mkF m 367 #[lI p0, lI p1, lI p2, lJ p3, lS, lI z5, lI z6, lI z7, lI z8, lJ v15, lS, lI v16, lI v17, lR b18, lR b20, lR b22, lI 0, lI 1, lI 2, lI z19, lI z20, lI z21, lI z22, lI v246, lU, lU] [(.int (if z6 = (0 : Int32) then (0 : Int32) else (if v15 < (1 : Int64) then (0 : Int32) else (if z19 = (0 : Int32) then (if z22 = (1 : Int32) then (0 : Int32) else (1 : Int32)) else (0 : Int32)))))]))
    refine own_via (fun _ k => XS.istore X239.here hx rfl (hb hby at_367) rfl (l' := #[lI p0, lI p1, lI p2, lJ p3, lS, lI z5, lI z6, lI z7, lI z8, lJ v15, lS, lI v16, lI v17, lR b18, lR b20, lR b22, lI 0, lI 1, lI 2, lI z19, lI z20, lI z21, lI z22, lI v246, lI (if z6 = (0 : Int32) then (0 : Int32) else (if v15 < (1 : Int64) then (0 : Int32) else (if z19 = (0 : Int32) then (if z22 = (1 : Int32) then (0 : Int32) else (1 : Int32)) else (0 : Int32)))), lU]) rfl k) ?_
    show own_Go p e below s _ _ _ (T239.setTop (mkF m 369 #[lI p0, lI p1, lI p2, lJ p3, lS, lI z5, lI z6, lI z7, lI z8, lJ v15, lS, lI v16, lI v17, lR b18, lR b20, lR b22, lI 0, lI 1, lI 2, lI z19, lI z20, lI z21, lI z22, lI v246, lI (if z6 = (0 : Int32) then (0 : Int32) else (if v15 < (1 : Int64) then (0 : Int32) else (if z19 = (0 : Int32) then (if z22 = (1 : Int32) then (0 : Int32) else (1 : Int32)) else (0 : Int32)))), lU] []))
    generalize hv252 : (if z6 = (0 : Int32) then (0 : Int32) else (if v15 < (1 : Int64) then (0 : Int32) else (if z19 = (0 : Int32) then (if z22 = (1 : Int32) then (0 : Int32) else (1 : Int32)) else (0 : Int32)))) = v252
    show own_Go p e below s _ _ _ (T239.setTop (mkF m 369 #[lI p0, lI p1, lI p2, lJ p3, lS, lI z5, lI z6, lI z7, lI z8, lJ v15, lS, lI v16, lI v17, lR b18, lR b20, lR b22, lI 0, lI 1, lI 2, lI z19, lI z20, lI z21, lI z22, lI v246, lI v252, lU] []))
    have st253 : ∀ t, Steps p.tables e below (T239.setTop (mkF m 384 #[lI p0, lI p1, lI p2, lJ p3, lS, lI z5, lI z6, lI z7, lI z8, lJ v15, lS, lI v16, lI v17, lR b18, lR b20, lR b22, lI 0, lI 1, lI 2, lI z19, lI z20, lI z21, lI z22, lI v246, lI v252, lU] [(.int (if v246 = (0 : Int32) then (if v252 = (0 : Int32) then (0 : Int32) else (1 : Int32)) else (1 : Int32)))])) t → Steps p.tables e below (T239.setTop (mkF m 369 #[lI p0, lI p1, lI p2, lJ p3, lS, lI z5, lI z6, lI z7, lI z8, lJ v15, lS, lI v16, lI v17, lR b18, lR b20, lR b22, lI 0, lI 1, lI 2, lI z19, lI z20, lI z21, lI z22, lI v246, lI v252, lU] [])) t := by
      intro t k
      refine XS.iload X239.here hx rfl (hb hby at_369) rfl ?_
      show Steps p.tables e below (T239.setTop (mkF m 371 #[lI p0, lI p1, lI p2, lJ p3, lS, lI z5, lI z6, lI z7, lI z8, lJ v15, lS, lI v16, lI v17, lR b18, lR b20, lR b22, lI 0, lI 1, lI 2, lI z19, lI z20, lI z21, lI z22, lI v246, lI v252, lU] [(.int v246)])) t
      by_cases hq254 : v246 = (0 : Int32)
      · refine XS.ifNo X239.here hx rfl (hb hby at_371) rfl (Jvm.Free.XT.i0_ne_f hq254) ?_
        show Steps p.tables e below (T239.setTop (mkF m 374 #[lI p0, lI p1, lI p2, lJ p3, lS, lI z5, lI z6, lI z7, lI z8, lJ v15, lS, lI v16, lI v17, lR b18, lR b20, lR b22, lI 0, lI 1, lI 2, lI z19, lI z20, lI z21, lI z22, lI v246, lI v252, lU] [])) t
        refine XS.iload X239.here hx rfl (hb hby at_374) rfl ?_
        show Steps p.tables e below (T239.setTop (mkF m 376 #[lI p0, lI p1, lI p2, lJ p3, lS, lI z5, lI z6, lI z7, lI z8, lJ v15, lS, lI v16, lI v17, lR b18, lR b20, lR b22, lI 0, lI 1, lI 2, lI z19, lI z20, lI z21, lI z22, lI v246, lI v252, lU] [(.int v252)])) t
        by_cases hq255 : v252 = (0 : Int32)
        · refine XS.ifYes X239.here hx rfl (pc0 := 376) (pc' := 383) rfl (hb hby at_376) rfl (Jvm.Free.XT.i0_eq_t hq255) (by decide) (by decide) ?_
          show Steps p.tables e below (T239.setTop (mkF m 383 #[lI p0, lI p1, lI p2, lJ p3, lS, lI z5, lI z6, lI z7, lI z8, lJ v15, lS, lI v16, lI v17, lR b18, lR b20, lR b22, lI 0, lI 1, lI 2, lI z19, lI z20, lI z21, lI z22, lI v246, lI v252, lU] [])) t
          refine XS.iconst X239.here hx rfl (hb hby at_383) ?_
          show Steps p.tables e below (T239.setTop (mkF m 384 #[lI p0, lI p1, lI p2, lJ p3, lS, lI z5, lI z6, lI z7, lI z8, lJ v15, lS, lI v16, lI v17, lR b18, lR b20, lR b22, lI 0, lI 1, lI 2, lI z19, lI z20, lI z21, lI z22, lI v246, lI v252, lU] [(.int (0 : Int32))])) t
          try simp only [if_pos hq254, if_pos hq255] at k
          exact k
        · refine XS.ifNo X239.here hx rfl (hb hby at_376) rfl (Jvm.Free.XT.i0_eq_f hq255) ?_
          show Steps p.tables e below (T239.setTop (mkF m 379 #[lI p0, lI p1, lI p2, lJ p3, lS, lI z5, lI z6, lI z7, lI z8, lJ v15, lS, lI v16, lI v17, lR b18, lR b20, lR b22, lI 0, lI 1, lI 2, lI z19, lI z20, lI z21, lI z22, lI v246, lI v252, lU] [])) t
          refine XS.iconst X239.here hx rfl (hb hby at_379) ?_
          show Steps p.tables e below (T239.setTop (mkF m 380 #[lI p0, lI p1, lI p2, lJ p3, lS, lI z5, lI z6, lI z7, lI z8, lJ v15, lS, lI v16, lI v17, lR b18, lR b20, lR b22, lI 0, lI 1, lI 2, lI z19, lI z20, lI z21, lI z22, lI v246, lI v252, lU] [(.int (1 : Int32))])) t
          refine XS.goto X239.here hx rfl (pc0 := 380) (pc' := 384) rfl (hb hby at_380) (by decide) (by decide) ?_
          show Steps p.tables e below (T239.setTop (mkF m 384 #[lI p0, lI p1, lI p2, lJ p3, lS, lI z5, lI z6, lI z7, lI z8, lJ v15, lS, lI v16, lI v17, lR b18, lR b20, lR b22, lI 0, lI 1, lI 2, lI z19, lI z20, lI z21, lI z22, lI v246, lI v252, lU] [(.int (1 : Int32))])) t
          try simp only [if_pos hq254, if_neg hq255] at k
          exact k
      · refine XS.ifYes X239.here hx rfl (pc0 := 371) (pc' := 379) rfl (hb hby at_371) rfl (Jvm.Free.XT.i0_ne_t hq254) (by decide) (by decide) ?_
        show Steps p.tables e below (T239.setTop (mkF m 379 #[lI p0, lI p1, lI p2, lJ p3, lS, lI z5, lI z6, lI z7, lI z8, lJ v15, lS, lI v16, lI v17, lR b18, lR b20, lR b22, lI 0, lI 1, lI 2, lI z19, lI z20, lI z21, lI z22, lI v246, lI v252, lU] [])) t
        refine XS.iconst X239.here hx rfl (hb hby at_379) ?_
        show Steps p.tables e below (T239.setTop (mkF m 380 #[lI p0, lI p1, lI p2, lJ p3, lS, lI z5, lI z6, lI z7, lI z8, lJ v15, lS, lI v16, lI v17, lR b18, lR b20, lR b22, lI 0, lI 1, lI 2, lI z19, lI z20, lI z21, lI z22, lI v246, lI v252, lU] [(.int (1 : Int32))])) t
        refine XS.goto X239.here hx rfl (pc0 := 380) (pc' := 384) rfl (hb hby at_380) (by decide) (by decide) ?_
        show Steps p.tables e below (T239.setTop (mkF m 384 #[lI p0, lI p1, lI p2, lJ p3, lS, lI z5, lI z6, lI z7, lI z8, lJ v15, lS, lI v16, lI v17, lR b18, lR b20, lR b22, lI 0, lI 1, lI 2, lI z19, lI z20, lI z21, lI z22, lI v246, lI v252, lU] [(.int (1 : Int32))])) t
        try simp only [if_neg hq254] at k
        exact k
    refine own_via st253 ?_
    show own_Go p e below s _ _ _ (T239.setTop (mkF m 384 #[lI p0, lI p1, lI p2, lJ p3, lS, lI z5, lI z6, lI z7, lI z8, lJ v15, lS, lI v16, lI v17, lR b18, lR b20, lR b22, lI 0, lI 1, lI 2, lI z19, lI z20, lI z21, lI z22, lI v246, lI v252, lU] [(.int (if v246 = (0 : Int32) then (if v252 = (0 : Int32) then (0 : Int32) else (1 : Int32)) else (1 : Int32)))]))
    refine own_via (fun _ k => XS.istore X239.here hx rfl (hb hby at_384) rfl (l' := #[lI p0, lI p1, lI p2, lJ p3, lS, lI z5, lI z6, lI z7, lI z8, lJ v15, lS, lI v16, lI v17, lR b18, lR b20, lR b22, lI 0, lI 1, lI 2, lI z19, lI z20, lI z21, lI z22, lI v246, lI v252, lI (if v246 = (0 : Int32) then (if v252 = (0 : Int32) then (0 : Int32) else (1 : Int32)) else (1 : Int32))]) rfl k) ?_
    show own_Go p e below s _ _ _ (T239.setTop (mkF m 386 #[lI p0, lI p1, lI p2, lJ p3, lS, lI z5, lI z6, lI z7, lI z8, lJ v15, lS, lI v16, lI v17, lR b18, lR b20, lR b22, lI 0, lI 1, lI 2, lI z19, lI z20, lI z21, lI z22, lI v246, lI v252, lI (if v246 = (0 : Int32) then (if v252 = (0 : Int32) then (0 : Int32) else (1 : Int32)) else (1 : Int32))] []))
    generalize hv256 : (if v246 = (0 : Int32) then (if v252 = (0 : Int32) then (0 : Int32) else (1 : Int32)) else (1 : Int32)) = v256
    show own_Go p e below s _ _ _ (T239.setTop (mkF m 386 #[lI p0, lI p1, lI p2, lJ p3, lS, lI z5, lI z6, lI z7, lI z8, lJ v15, lS, lI v16, lI v17, lR b18, lR b20, lR b22, lI 0, lI 1, lI 2, lI z19, lI z20, lI z21, lI z22, lI v246, lI v252, lI v256] []))
    refine own_via (fun _ k => XS.iload X239.here hx rfl (hb hby at_386) rfl k) ?_
    show own_Go p e below s _ _ _ (T239.setTop (mkF m 388 #[lI p0, lI p1, lI p2, lJ p3, lS, lI z5, lI z6, lI z7, lI z8, lJ v15, lS, lI v16, lI v17, lR b18, lR b20, lR b22, lI 0, lI 1, lI 2, lI z19, lI z20, lI z21, lI z22, lI v246, lI v252, lI v256] [(.int z21)]))
    refine own_via (fun _ k => XS.iload X239.here hx rfl (hb hby at_388) rfl k) ?_
    show own_Go p e below s _ _ _ (T239.setTop (mkF m 390 #[lI p0, lI p1, lI p2, lJ p3, lS, lI z5, lI z6, lI z7, lI z8, lJ v15, lS, lI v16, lI v17, lR b18, lR b20, lR b22, lI 0, lI 1, lI 2, lI z19, lI z20, lI z21, lI z22, lI v246, lI v252, lI v256] [(.int z22), (.int z21)]))
    have hc257 : z21 = z22 := hz1
    refine own_via (fun _ k => XS.icmpNo X239.here hx rfl (hb hby at_390) rfl (Jvm.Free.XT.ii_ne_f hc257) k) ?_
    show own_Go p e below s _ _ _ (T239.setTop (mkF m 393 #[lI p0, lI p1, lI p2, lJ p3, lS, lI z5, lI z6, lI z7, lI z8, lJ v15, lS, lI v16, lI v17, lR b18, lR b20, lR b22, lI 0, lI 1, lI 2, lI z19, lI z20, lI z21, lI z22, lI v246, lI v252, lI v256] []))
    refine own_via (fun _ k => XS.aload X239.here hx rfl (hb hby at_393) rfl rfl k) ?_
    show own_Go p e below s _ _ _ (T239.setTop (mkF m 395 #[lI p0, lI p1, lI p2, lJ p3, lS, lI z5, lI z6, lI z7, lI z8, lJ v15, lS, lI v16, lI v17, lR b18, lR b20, lR b22, lI 0, lI 1, lI 2, lI z19, lI z20, lI z21, lI z22, lI v246, lI v252, lI v256] [(.ref b22)]))
    obtain ⟨cq258, kq258, qa258, qb258, qc258⟩ := isOf hZ e239 F240
    obtain ⟨_, _, ⟨T258, L258, k258, n258⟩, -, X258, ⟨Lc258, hQ258, l258, y258, z258⟩, st258⟩ := X239.virtualBack hx (y := (⟨"com/example/trajectory/trajectory/search/Nodes", "isAnyWaitingWithinLimit", "()Z"⟩ : MethodName)) (z := (⟨"com/example/trajectory/trajectory/search/Nodes", "isAnyWaitingWithinLimit", "()Z"⟩ : MethodName)) hown (mvT hZ (hwi hw 76 rfl)) (mvT hZ (hwi hw 77 rfl)) (notFace_of_selects (args := #[]) (mvT hZ (hwi hw 79 rfl))) (mvT hZ (hwi hw 79 rfl)) (mvT hZ (hwi hw 78 rfl)) (by decide) (backOf (W := 0) (rm9 l Z a0 hw [] b22 ww h239 n0 Z239 F241) hZ (hwi hw 80 rfl) (hwi hw 4 rfl) (by decide) (by decide)) qa258 qc258 (g := (mkF m 395 #[lI p0, lI p1, lI p2, lJ p3, lS, lI z5, lI z6, lI z7, lI z8, lJ v15, lS, lI v16, lI v17, lR b18, lR b20, lR b22, lI 0, lI 1, lI 2, lI z19, lI z20, lI z21, lI z22, lI v246, lI v252, lI v256] [(.ref b22)])) rfl (by rw [hml]; rfl) (Steps.refl _) (argsL := []) (rest := []) (lenOf pd_10 rfl) rfl (by show 2 * 0 + _ ≤ _; exact Nat.le_of_eq rfl) (hb hby at_395) (fun _ _ => ⟨rfl, e239, (by decide : 14 + 0 ≤ _), (by decide : 789 + 0 ≤ _)⟩)
    dsimp only [Pt.U, Pt.locs, Pt.cells, Pt.slots] at X258 l258 y258 z258 st258 hQ258
    subst l258 y258 z258
    obtain ⟨rfl, N258q, e258⟩ := hQ258
    have N258 := Fr.app N239 N258q
    refine own_viaT st258 ?_
    show own_Go p e below s _ _ _ (T258.setTop (mkF m 398 #[lI p0, lI p1, lI p2, lJ p3, lS, lI z5, lI z6, lI z7, lI z8, lJ v15, lS, lI v16, lI v17, lR b18, lR b20, lR b22, lI 0, lI 1, lI 2, lI z19, lI z20, lI z21, lI z22, lI v246, lI v252, lI v256] [(.int (own_any ww))]))
    refine own_via (fun _ k => XS.iload X258.here hx rfl (hb hby at_398) rfl k) ?_
    show own_Go p e below s _ _ _ (T258.setTop (mkF m 400 #[lI p0, lI p1, lI p2, lJ p3, lS, lI z5, lI z6, lI z7, lI z8, lJ v15, lS, lI v16, lI v17, lR b18, lR b20, lR b22, lI 0, lI 1, lI 2, lI z19, lI z20, lI z21, lI z22, lI v246, lI v252, lI v256] [(.int v256), (.int (own_any ww))]))
    have hc259 : (own_any ww) = v256 := by rw [hz2]; subst hv256; subst hv252; subst hv246; rfl
    refine own_via (fun _ k => XS.icmpNo X258.here hx rfl (hb hby at_400) rfl (Jvm.Free.XT.ii_ne_f hc259) k) ?_
    show own_Go p e below s _ _ _ (T258.setTop (mkF m 403 #[lI p0, lI p1, lI p2, lJ p3, lS, lI z5, lI z6, lI z7, lI z8, lJ v15, lS, lI v16, lI v17, lR b18, lR b20, lR b22, lI 0, lI 1, lI 2, lI z19, lI z20, lI z21, lI z22, lI v246, lI v252, lI v256] []))
    refine own_via (fun _ k => XS.iconst X258.here hx rfl (hb hby at_403) k) ?_
    show own_Go p e below s _ _ _ (T258.setTop (mkF m 404 #[lI p0, lI p1, lI p2, lJ p3, lS, lI z5, lI z6, lI z7, lI z8, lJ v15, lS, lI v16, lI v17, lR b18, lR b20, lR b22, lI 0, lI 1, lI 2, lI z19, lI z20, lI z21, lI z22, lI v246, lI v252, lI v256] [(.int (1 : Int32))]))
    refine own_via (fun _ k => XS.goto X258.here hx rfl (pc0 := 404) (pc' := 408) rfl (hb hby at_404) (by decide) (by decide) k) ?_
    show own_Go p e below s _ _ _ (T258.setTop (mkF m 408 #[lI p0, lI p1, lI p2, lJ p3, lS, lI z5, lI z6, lI z7, lI z8, lJ v15, lS, lI v16, lI v17, lR b18, lR b20, lR b22, lI 0, lI 1, lI 2, lI z19, lI z20, lI z21, lI z22, lI v246, lI v252, lI v256] [(.int (1 : Int32))]))
    exact own_goN X258 hx (t := .boolean) Bd.returns (by simp) (hb hby at_408) Bd.notSynchronized (by decide) (by decide) (by rw [e258]; exact ⟨rfl, N258⟩)
  show own_Go p e below s _ _ _ (T206.setTop (mkF m 166 #[lI p0, lI p1, lI p2, lJ p3, lS, lI v3, lI v6, lI v9, lI v12, lJ v15, lS, lI v16, lI v17, lR b18, lR b20, lR b22, lI 0, lI 1, lI 2, lU, lU, lU, lU, lU, lU, lU] []))
  rcases (own_01 hv3) with rfl | rfl
  · show own_Go p e below s _ _ _ (T206.setTop (mkF m 166 #[lI p0, lI p1, lI p2, lJ p3, lS, lI 0, lI v6, lI v9, lI v12, lJ v15, lS, lI v16, lI v17, lR b18, lR b20, lR b22, lI 0, lI 1, lI 2, lU, lU, lU, lU, lU, lU, lU] []))
    refine own_via (fun _ k => XS.iload X206.here hx rfl (hb hby at_166) rfl k) ?_
    show own_Go p e below s _ _ _ (T206.setTop (mkF m 168 #[lI p0, lI p1, lI p2, lJ p3, lS, lI 0, lI v6, lI v9, lI v12, lJ v15, lS, lI v16, lI v17, lR b18, lR b20, lR b22, lI 0, lI 1, lI 2, lU, lU, lU, lU, lU, lU, lU] [(.int (0 : Int32))]))
    refine own_via (fun _ k => XS.ifYes X206.here hx rfl (pc0 := 168) (pc' := 178) rfl (hb hby at_168) rfl (Jvm.Free.XT.i0_eq_t (by decide)) (by decide) (by decide) k) ?_
    show own_Go p e below s _ _ _ (T206.setTop (mkF m 178 #[lI p0, lI p1, lI p2, lJ p3, lS, lI 0, lI v6, lI v9, lI v12, lJ v15, lS, lI v16, lI v17, lR b18, lR b20, lR b22, lI 0, lI 1, lI 2, lU, lU, lU, lU, lU, lU, lU] []))
    rcases (own_01 hv6) with rfl | rfl
    · show own_Go p e below s _ _ _ (T206.setTop (mkF m 178 #[lI p0, lI p1, lI p2, lJ p3, lS, lI 0, lI 0, lI v9, lI v12, lJ v15, lS, lI v16, lI v17, lR b18, lR b20, lR b22, lI 0, lI 1, lI 2, lU, lU, lU, lU, lU, lU, lU] []))
      refine own_via (fun _ k => XS.iload X206.here hx rfl (hb hby at_178) rfl k) ?_
      show own_Go p e below s _ _ _ (T206.setTop (mkF m 180 #[lI p0, lI p1, lI p2, lJ p3, lS, lI 0, lI 0, lI v9, lI v12, lJ v15, lS, lI v16, lI v17, lR b18, lR b20, lR b22, lI 0, lI 1, lI 2, lU, lU, lU, lU, lU, lU, lU] [(.int (0 : Int32))]))
      refine own_via (fun _ k => XS.ifYes X206.here hx rfl (pc0 := 180) (pc' := 190) rfl (hb hby at_180) rfl (Jvm.Free.XT.i0_eq_t (by decide)) (by decide) (by decide) k) ?_
      show own_Go p e below s _ _ _ (T206.setTop (mkF m 190 #[lI p0, lI p1, lI p2, lJ p3, lS, lI 0, lI 0, lI v9, lI v12, lJ v15, lS, lI v16, lI v17, lR b18, lR b20, lR b22, lI 0, lI 1, lI 2, lU, lU, lU, lU, lU, lU, lU] []))
      have st260 : ∀ t, Steps p.tables e below (T206.setTop (mkF m 205 #[lI p0, lI p1, lI p2, lJ p3, lS, lI 0, lI 0, lI v9, lI v12, lJ v15, lS, lI v16, lI v17, lR b18, lR b20, lR b22, lI 0, lI 1, lI 2, lU, lU, lU, lU, lU, lU, lU] [(.int (0 : Int32))])) t → Steps p.tables e below (T206.setTop (mkF m 190 #[lI p0, lI p1, lI p2, lJ p3, lS, lI 0, lI 0, lI v9, lI v12, lJ v15, lS, lI v16, lI v17, lR b18, lR b20, lR b22, lI 0, lI 1, lI 2, lU, lU, lU, lU, lU, lU, lU] [])) t := by
        intro t k
        refine XS.iload X206.here hx rfl (hb hby at_190) rfl ?_
        show Steps p.tables e below (T206.setTop (mkF m 192 #[lI p0, lI p1, lI p2, lJ p3, lS, lI 0, lI 0, lI v9, lI v12, lJ v15, lS, lI v16, lI v17, lR b18, lR b20, lR b22, lI 0, lI 1, lI 2, lU, lU, lU, lU, lU, lU, lU] [(.int v9)])) t
        by_cases hq261 : v9 = (0 : Int32)
        · refine XS.ifYes X206.here hx rfl (pc0 := 192) (pc' := 204) rfl (hb hby at_192) rfl (Jvm.Free.XT.i0_eq_t hq261) (by decide) (by decide) ?_
          show Steps p.tables e below (T206.setTop (mkF m 204 #[lI p0, lI p1, lI p2, lJ p3, lS, lI 0, lI 0, lI v9, lI v12, lJ v15, lS, lI v16, lI v17, lR b18, lR b20, lR b22, lI 0, lI 1, lI 2, lU, lU, lU, lU, lU, lU, lU] [])) t
          refine XS.iconst X206.here hx rfl (hb hby at_204) ?_
          show Steps p.tables e below (T206.setTop (mkF m 205 #[lI p0, lI p1, lI p2, lJ p3, lS, lI 0, lI 0, lI v9, lI v12, lJ v15, lS, lI v16, lI v17, lR b18, lR b20, lR b22, lI 0, lI 1, lI 2, lU, lU, lU, lU, lU, lU, lU] [(.int (0 : Int32))])) t
          try simp only [if_pos hq261] at k
          exact k
        · refine XS.ifNo X206.here hx rfl (hb hby at_192) rfl (Jvm.Free.XT.i0_eq_f hq261) ?_
          show Steps p.tables e below (T206.setTop (mkF m 195 #[lI p0, lI p1, lI p2, lJ p3, lS, lI 0, lI 0, lI v9, lI v12, lJ v15, lS, lI v16, lI v17, lR b18, lR b20, lR b22, lI 0, lI 1, lI 2, lU, lU, lU, lU, lU, lU, lU] [])) t
          refine XS.iload X206.here hx rfl (hb hby at_195) rfl ?_
          show Steps p.tables e below (T206.setTop (mkF m 197 #[lI p0, lI p1, lI p2, lJ p3, lS, lI 0, lI 0, lI v9, lI v12, lJ v15, lS, lI v16, lI v17, lR b18, lR b20, lR b22, lI 0, lI 1, lI 2, lU, lU, lU, lU, lU, lU, lU] [(.int (0 : Int32))])) t
          refine XS.ifYes X206.here hx rfl (pc0 := 197) (pc' := 204) rfl (hb hby at_197) rfl (Jvm.Free.XT.i0_eq_t (by decide)) (by decide) (by decide) ?_
          show Steps p.tables e below (T206.setTop (mkF m 204 #[lI p0, lI p1, lI p2, lJ p3, lS, lI 0, lI 0, lI v9, lI v12, lJ v15, lS, lI v16, lI v17, lR b18, lR b20, lR b22, lI 0, lI 1, lI 2, lU, lU, lU, lU, lU, lU, lU] [])) t
          refine XS.iconst X206.here hx rfl (hb hby at_204) ?_
          show Steps p.tables e below (T206.setTop (mkF m 205 #[lI p0, lI p1, lI p2, lJ p3, lS, lI 0, lI 0, lI v9, lI v12, lJ v15, lS, lI v16, lI v17, lR b18, lR b20, lR b22, lI 0, lI 1, lI 2, lU, lU, lU, lU, lU, lU, lU] [(.int (0 : Int32))])) t
          try simp only [if_neg hq261] at k
          exact k
      refine own_via st260 ?_
      show own_Go p e below s _ _ _ (T206.setTop (mkF m 205 #[lI p0, lI p1, lI p2, lJ p3, lS, lI 0, lI 0, lI v9, lI v12, lJ v15, lS, lI v16, lI v17, lR b18, lR b20, lR b22, lI 0, lI 1, lI 2, lU, lU, lU, lU, lU, lU, lU] [(.int (0 : Int32))]))
      refine own_via (fun _ k => XS.istore X206.here hx rfl (hb hby at_205) rfl (l' := #[lI p0, lI p1, lI p2, lJ p3, lS, lI 0, lI 0, lI v9, lI v12, lJ v15, lS, lI v16, lI v17, lR b18, lR b20, lR b22, lI 0, lI 1, lI 2, lI 0, lU, lU, lU, lU, lU, lU]) rfl k) ?_
      show own_Go p e below s _ _ _ (T206.setTop (mkF m 207 #[lI p0, lI p1, lI p2, lJ p3, lS, lI 0, lI 0, lI v9, lI v12, lJ v15, lS, lI v16, lI v17, lR b18, lR b20, lR b22, lI 0, lI 1, lI 2, lI 0, lU, lU, lU, lU, lU, lU] []))
      refine own_via (fun _ k => XS.iload X206.here hx rfl (hb hby at_207) rfl k) ?_
      show own_Go p e below s _ _ _ (T206.setTop (mkF m 209 #[lI p0, lI p1, lI p2, lJ p3, lS, lI 0, lI 0, lI v9, lI v12, lJ v15, lS, lI v16, lI v17, lR b18, lR b20, lR b22, lI 0, lI 1, lI 2, lI 0, lU, lU, lU, lU, lU, lU] [(.int (0 : Int32))]))
      refine own_via (fun _ k => XS.ifYes X206.here hx rfl (pc0 := 209) (pc' := 239) rfl (hb hby at_209) rfl (Jvm.Free.XT.i0_eq_t (by decide)) (by decide) (by decide) k) ?_
      show own_Go p e below s _ _ _ (T206.setTop (mkF m 239 #[lI p0, lI p1, lI p2, lJ p3, lS, lI 0, lI 0, lI v9, lI v12, lJ v15, lS, lI v16, lI v17, lR b18, lR b20, lR b22, lI 0, lI 1, lI 2, lI 0, lU, lU, lU, lU, lU, lU] []))
      have st262 : ∀ t, Steps p.tables e below (T206.setTop (mkF m 259 #[lI p0, lI p1, lI p2, lJ p3, lS, lI 0, lI 0, lI v9, lI v12, lJ v15, lS, lI v16, lI v17, lR b18, lR b20, lR b22, lI 0, lI 1, lI 2, lI 0, lU, lU, lU, lU, lU, lU] [(.int (0 : Int32))])) t → Steps p.tables e below (T206.setTop (mkF m 239 #[lI p0, lI p1, lI p2, lJ p3, lS, lI 0, lI 0, lI v9, lI v12, lJ v15, lS, lI v16, lI v17, lR b18, lR b20, lR b22, lI 0, lI 1, lI 2, lI 0, lU, lU, lU, lU, lU, lU] [])) t := by
        intro t k
        refine XS.iload X206.here hx rfl (hb hby at_239) rfl ?_
        show Steps p.tables e below (T206.setTop (mkF m 241 #[lI p0, lI p1, lI p2, lJ p3, lS, lI 0, lI 0, lI v9, lI v12, lJ v15, lS, lI v16, lI v17, lR b18, lR b20, lR b22, lI 0, lI 1, lI 2, lI 0, lU, lU, lU, lU, lU, lU] [(.int v12)])) t
        by_cases hq263 : v12 = (0 : Int32)
        · refine XS.ifYes X206.here hx rfl (pc0 := 241) (pc' := 258) rfl (hb hby at_241) rfl (Jvm.Free.XT.i0_eq_t hq263) (by decide) (by decide) ?_
          show Steps p.tables e below (T206.setTop (mkF m 258 #[lI p0, lI p1, lI p2, lJ p3, lS, lI 0, lI 0, lI v9, lI v12, lJ v15, lS, lI v16, lI v17, lR b18, lR b20, lR b22, lI 0, lI 1, lI 2, lI 0, lU, lU, lU, lU, lU, lU] [])) t
          refine XS.iconst X206.here hx rfl (hb hby at_258) ?_
          show Steps p.tables e below (T206.setTop (mkF m 259 #[lI p0, lI p1, lI p2, lJ p3, lS, lI 0, lI 0, lI v9, lI v12, lJ v15, lS, lI v16, lI v17, lR b18, lR b20, lR b22, lI 0, lI 1, lI 2, lI 0, lU, lU, lU, lU, lU, lU] [(.int (0 : Int32))])) t
          try simp only [if_pos hq263] at k
          exact k
        · refine XS.ifNo X206.here hx rfl (hb hby at_241) rfl (Jvm.Free.XT.i0_eq_f hq263) ?_
          show Steps p.tables e below (T206.setTop (mkF m 244 #[lI p0, lI p1, lI p2, lJ p3, lS, lI 0, lI 0, lI v9, lI v12, lJ v15, lS, lI v16, lI v17, lR b18, lR b20, lR b22, lI 0, lI 1, lI 2, lI 0, lU, lU, lU, lU, lU, lU] [])) t
          refine XS.iload X206.here hx rfl (hb hby at_244) rfl ?_
          show Steps p.tables e below (T206.setTop (mkF m 246 #[lI p0, lI p1, lI p2, lJ p3, lS, lI 0, lI 0, lI v9, lI v12, lJ v15, lS, lI v16, lI v17, lR b18, lR b20, lR b22, lI 0, lI 1, lI 2, lI 0, lU, lU, lU, lU, lU, lU] [(.int (0 : Int32))])) t
          refine XS.ifNo X206.here hx rfl (hb hby at_246) rfl (Jvm.Free.XT.i0_ne_f (by decide)) ?_
          show Steps p.tables e below (T206.setTop (mkF m 249 #[lI p0, lI p1, lI p2, lJ p3, lS, lI 0, lI 0, lI v9, lI v12, lJ v15, lS, lI v16, lI v17, lR b18, lR b20, lR b22, lI 0, lI 1, lI 2, lI 0, lU, lU, lU, lU, lU, lU] [])) t
          refine XS.iload X206.here hx rfl (hb hby at_249) rfl ?_
          show Steps p.tables e below (T206.setTop (mkF m 251 #[lI p0, lI p1, lI p2, lJ p3, lS, lI 0, lI 0, lI v9, lI v12, lJ v15, lS, lI v16, lI v17, lR b18, lR b20, lR b22, lI 0, lI 1, lI 2, lI 0, lU, lU, lU, lU, lU, lU] [(.int (0 : Int32))])) t
          refine XS.ifYes X206.here hx rfl (pc0 := 251) (pc' := 258) rfl (hb hby at_251) rfl (Jvm.Free.XT.i0_eq_t (by decide)) (by decide) (by decide) ?_
          show Steps p.tables e below (T206.setTop (mkF m 258 #[lI p0, lI p1, lI p2, lJ p3, lS, lI 0, lI 0, lI v9, lI v12, lJ v15, lS, lI v16, lI v17, lR b18, lR b20, lR b22, lI 0, lI 1, lI 2, lI 0, lU, lU, lU, lU, lU, lU] [])) t
          refine XS.iconst X206.here hx rfl (hb hby at_258) ?_
          show Steps p.tables e below (T206.setTop (mkF m 259 #[lI p0, lI p1, lI p2, lJ p3, lS, lI 0, lI 0, lI v9, lI v12, lJ v15, lS, lI v16, lI v17, lR b18, lR b20, lR b22, lI 0, lI 1, lI 2, lI 0, lU, lU, lU, lU, lU, lU] [(.int (0 : Int32))])) t
          try simp only [if_neg hq263] at k
          exact k
      refine own_via st262 ?_
      show own_Go p e below s _ _ _ (T206.setTop (mkF m 259 #[lI p0, lI p1, lI p2, lJ p3, lS, lI 0, lI 0, lI v9, lI v12, lJ v15, lS, lI v16, lI v17, lR b18, lR b20, lR b22, lI 0, lI 1, lI 2, lI 0, lU, lU, lU, lU, lU, lU] [(.int (0 : Int32))]))
      refine own_via (fun _ k => XS.istore X206.here hx rfl (hb hby at_259) rfl (l' := #[lI p0, lI p1, lI p2, lJ p3, lS, lI 0, lI 0, lI v9, lI v12, lJ v15, lS, lI v16, lI v17, lR b18, lR b20, lR b22, lI 0, lI 1, lI 2, lI 0, lI 0, lU, lU, lU, lU, lU]) rfl k) ?_
      show own_Go p e below s _ _ _ (T206.setTop (mkF m 261 #[lI p0, lI p1, lI p2, lJ p3, lS, lI 0, lI 0, lI v9, lI v12, lJ v15, lS, lI v16, lI v17, lR b18, lR b20, lR b22, lI 0, lI 1, lI 2, lI 0, lI 0, lU, lU, lU, lU, lU] []))
      refine own_via (fun _ k => XS.iconst X206.here hx rfl (hb hby at_261) k) ?_
      show own_Go p e below s _ _ _ (T206.setTop (mkF m 262 #[lI p0, lI p1, lI p2, lJ p3, lS, lI 0, lI 0, lI v9, lI v12, lJ v15, lS, lI v16, lI v17, lR b18, lR b20, lR b22, lI 0, lI 1, lI 2, lI 0, lI 0, lU, lU, lU, lU, lU] [(.int (-1 : Int32))]))
      refine own_via (fun _ k => XS.istore X206.here hx rfl (hb hby at_262) rfl (l' := #[lI p0, lI p1, lI p2, lJ p3, lS, lI 0, lI 0, lI v9, lI v12, lJ v15, lS, lI v16, lI v17, lR b18, lR b20, lR b22, lI 0, lI 1, lI 2, lI 0, lI 0, lI (-1), lU, lU, lU, lU]) rfl k) ?_
      show own_Go p e below s _ _ _ (T206.setTop (mkF m 264 #[lI p0, lI p1, lI p2, lJ p3, lS, lI 0, lI 0, lI v9, lI v12, lJ v15, lS, lI v16, lI v17, lR b18, lR b20, lR b22, lI 0, lI 1, lI 2, lI 0, lI 0, lI (-1), lU, lU, lU, lU] []))
      refine own_via (fun _ k => XS.iload X206.here hx rfl (hb hby at_264) rfl k) ?_
      show own_Go p e below s _ _ _ (T206.setTop (mkF m 266 #[lI p0, lI p1, lI p2, lJ p3, lS, lI 0, lI 0, lI v9, lI v12, lJ v15, lS, lI v16, lI v17, lR b18, lR b20, lR b22, lI 0, lI 1, lI 2, lI 0, lI 0, lI (-1), lU, lU, lU, lU] [(.int (0 : Int32))]))
      refine own_via (fun _ k => XS.ifYes X206.here hx rfl (pc0 := 266) (pc' := 276) rfl (hb hby at_266) rfl (Jvm.Free.XT.i0_eq_t (by decide)) (by decide) (by decide) k) ?_
      show own_Go p e below s _ _ _ (T206.setTop (mkF m 276 #[lI p0, lI p1, lI p2, lJ p3, lS, lI 0, lI 0, lI v9, lI v12, lJ v15, lS, lI v16, lI v17, lR b18, lR b20, lR b22, lI 0, lI 1, lI 2, lI 0, lI 0, lI (-1), lU, lU, lU, lU] []))
      refine own_via (fun _ k => XS.iconst X206.here hx rfl (hb hby at_276) k) ?_
      show own_Go p e below s _ _ _ (T206.setTop (mkF m 277 #[lI p0, lI p1, lI p2, lJ p3, lS, lI 0, lI 0, lI v9, lI v12, lJ v15, lS, lI v16, lI v17, lR b18, lR b20, lR b22, lI 0, lI 1, lI 2, lI 0, lI 0, lI (-1), lU, lU, lU, lU] [(.int (-1 : Int32))]))
      refine own_via (fun _ k => XS.istore X206.here hx rfl (hb hby at_277) rfl (l' := #[lI p0, lI p1, lI p2, lJ p3, lS, lI 0, lI 0, lI v9, lI v12, lJ v15, lS, lI v16, lI v17, lR b18, lR b20, lR b22, lI 0, lI 1, lI 2, lI 0, lI 0, lI (-1), lI (-1), lU, lU, lU]) rfl k) ?_
      show own_Go p e below s _ _ _ (T206.setTop (mkF m 279 #[lI p0, lI p1, lI p2, lJ p3, lS, lI 0, lI 0, lI v9, lI v12, lJ v15, lS, lI v16, lI v17, lR b18, lR b20, lR b22, lI 0, lI 1, lI 2, lI 0, lI 0, lI (-1), lI (-1), lU, lU, lU] []))
      refine own_via (fun _ k => XS.iload X206.here hx rfl (hb hby at_279) rfl k) ?_
      show own_Go p e below s _ _ _ (T206.setTop (mkF m 281 #[lI p0, lI p1, lI p2, lJ p3, lS, lI 0, lI 0, lI v9, lI v12, lJ v15, lS, lI v16, lI v17, lR b18, lR b20, lR b22, lI 0, lI 1, lI 2, lI 0, lI 0, lI (-1), lI (-1), lU, lU, lU] [(.int (0 : Int32))]))
      refine own_via (fun _ k => XS.ifYes X206.here hx rfl (pc0 := 281) (pc' := 312) rfl (hb hby at_281) rfl (Jvm.Free.XT.i0_eq_t (by decide)) (by decide) (by decide) k) ?_
      show own_Go p e below s _ _ _ (T206.setTop (mkF m 312 #[lI p0, lI p1, lI p2, lJ p3, lS, lI 0, lI 0, lI v9, lI v12, lJ v15, lS, lI v16, lI v17, lR b18, lR b20, lR b22, lI 0, lI 1, lI 2, lI 0, lI 0, lI (-1), lI (-1), lU, lU, lU] []))
      exact jz (0 : Int32) (0 : Int32) v9 v12 (0 : Int32) (0 : Int32) (-1 : Int32) (-1 : Int32) (0 : Int64) _ _ _ X206 e206 N206 Z206 F208 F224 (rfl) (by rcases own_l3 v15 with ⟨a1, a2⟩ | ⟨a1, a2⟩ | ⟨a1, a2⟩ <;> simp only [own_exp, own_any, own_pol, own_inc, own_dec, own_w0, own_w1, a1, a2, if_true, if_false, reduceIte] <;> decide)
    · show own_Go p e below s _ _ _ (T206.setTop (mkF m 178 #[lI p0, lI p1, lI p2, lJ p3, lS, lI 0, lI 1, lI v9, lI v12, lJ v15, lS, lI v16, lI v17, lR b18, lR b20, lR b22, lI 0, lI 1, lI 2, lU, lU, lU, lU, lU, lU, lU] []))
      refine own_via (fun _ k => XS.iload X206.here hx rfl (hb hby at_178) rfl k) ?_
      show own_Go p e below s _ _ _ (T206.setTop (mkF m 180 #[lI p0, lI p1, lI p2, lJ p3, lS, lI 0, lI 1, lI v9, lI v12, lJ v15, lS, lI v16, lI v17, lR b18, lR b20, lR b22, lI 0, lI 1, lI 2, lU, lU, lU, lU, lU, lU, lU] [(.int (1 : Int32))]))
      refine own_via (fun _ k => XS.ifNo X206.here hx rfl (hb hby at_180) rfl (Jvm.Free.XT.i0_eq_f (by decide)) k) ?_
      show own_Go p e below s _ _ _ (T206.setTop (mkF m 183 #[lI p0, lI p1, lI p2, lJ p3, lS, lI 0, lI 1, lI v9, lI v12, lJ v15, lS, lI v16, lI v17, lR b18, lR b20, lR b22, lI 0, lI 1, lI 2, lU, lU, lU, lU, lU, lU, lU] []))
      refine own_via (fun _ k => XS.aload X206.here hx rfl (hb hby at_183) rfl rfl k) ?_
      show own_Go p e below s _ _ _ (T206.setTop (mkF m 185 #[lI p0, lI p1, lI p2, lJ p3, lS, lI 0, lI 1, lI v9, lI v12, lJ v15, lS, lI v16, lI v17, lR b18, lR b20, lR b22, lI 0, lI 1, lI 2, lU, lU, lU, lU, lU, lU, lU] [(.ref b22)]))
      refine own_via (fun _ k => XS.iload X206.here hx rfl (hb hby at_185) rfl k) ?_
      show own_Go p e below s _ _ _ (T206.setTop (mkF m 187 #[lI p0, lI p1, lI p2, lJ p3, lS, lI 0, lI 1, lI v9, lI v12, lJ v15, lS, lI v16, lI v17, lR b18, lR b20, lR b22, lI 0, lI 1, lI 2, lU, lU, lU, lU, lU, lU, lU] [(.int (1 : Int32)), (.ref b22)]))
      have F265 := (((F81.keep Kq140 (ninS (Ne.symm ne_b22_bf_42) (ninS (Ne.symm F91) (ninS (Ne.symm F100) (ninS (Ne.symm F108) (ninS (Ne.symm F115) (ninS (Ne.symm F121) (ninS (Ne.symm F126) nin0)))))))).keep Kq173 (ninS (Ne.symm ne_b22_bf_42) (ninS (Ne.symm F91) (ninS (Ne.symm F100) (ninS (Ne.symm F108) (ninS (Ne.symm F115) (ninS (Ne.symm F121) (ninS (Ne.symm F126) nin0)))))))).keep Kq206 (ninS (Ne.symm ne_b22_bf_42) (ninS (Ne.symm F91) (ninS (Ne.symm F100) (ninS (Ne.symm F108) (ninS (Ne.symm F115) (ninS (Ne.symm F121) (ninS (Ne.symm F126) nin0))))))))
      have F266 := (((F82.keep Kq140 (ninS (Ne.symm ne_b22_br_42) (ninS (Ne.symm F92) (ninS (Ne.symm F101) (ninS (Ne.symm F109) (ninS (Ne.symm F116) (ninS (Ne.symm F122) (ninS (Ne.symm F127) nin0)))))))).keep Kq173 (ninS (Ne.symm ne_b22_br_42) (ninS (Ne.symm F92) (ninS (Ne.symm F101) (ninS (Ne.symm F109) (ninS (Ne.symm F116) (ninS (Ne.symm F122) (ninS (Ne.symm F127) nin0)))))))).keep Kq206 (ninS (Ne.symm ne_b22_br_42) (ninS (Ne.symm F92) (ninS (Ne.symm F101) (ninS (Ne.symm F109) (ninS (Ne.symm F116) (ninS (Ne.symm F122) (ninS (Ne.symm F127) nin0))))))))
      obtain ⟨cq264, kq264, qa264, qb264, qc264⟩ := isOf hZ e206 F208
      obtain ⟨_, _, ⟨T264, L264, k264, n264⟩, -, X264, ⟨Lc264, hQ264, l264, y264, z264⟩, st264⟩ := X206.virtualBack hx (y := (⟨"com/example/trajectory/trajectory/search/Nodes", "queue", "(I)V"⟩ : MethodName)) (z := (⟨"com/example/trajectory/trajectory/search/Nodes", "queue", "(I)V"⟩ : MethodName)) hown (mvT hZ (hwi hw 83 rfl)) (mvT hZ (hwi hw 84 rfl)) (notFace_of_selects (args := #[]) (mvT hZ (hwi hw 86 rfl))) (mvT hZ (hwi hw 86 rfl)) (mvT hZ (hwi hw 85 rfl)) (by decide) (backOf (W := 0) (rmq0 l Z a0 hw [] b22 (1 : Int32) v15 (0 : Int64) (1 : Int32) bc_42 bl_42 bz_42 bk_42 bT_42 bf_42 br_42 kc_42 kl_42 kf_42 kr_42 [(.double dq0), (.double dq1), (.double dq2), (.double (0 : UInt64))] [(.int (0 : Int32)), (.int (1 : Int32)), (.int (1 : Int32)), (.int (0 : Int32))] dq1 h206 n0 Z206 F208 F209 F210 F213 F215 F218 F219 F220 F221 F222 F223 F224 F225 F237 F238 F265 F266 g_b22 g_bf_42 g_br_42 ne_b22_bf_42 ne_b22_br_42 ne_b22_bl_42 F137 F115 F116 ⟨by decide, by decide⟩ rfl rfl) hZ (hwi hw 87 rfl) (hwi hw 4 rfl) (by decide) (by decide)) qa264 qc264 (g := (mkF m 187 #[lI p0, lI p1, lI p2, lJ p3, lS, lI 0, lI 1, lI v9, lI v12, lJ v15, lS, lI v16, lI v17, lR b18, lR b20, lR b22, lI 0, lI 1, lI 2, lU, lU, lU, lU, lU, lU, lU] [(.int (1 : Int32)), (.ref b22)])) rfl (by rw [hml]; rfl) (Steps.refl _) (argsL := [(.int (1 : Int32))]) (rest := []) (lenOf pd_7 rfl) rfl (by show 2 * 0 + _ ≤ _; exact Nat.le_of_eq rfl) (hb hby at_187) (fun _ _ => ⟨rfl, e206, (by decide : 14 + 0 ≤ _), (by decide : 789 + 0 ≤ _)⟩)
      dsimp only [Pt.U, Pt.locs, Pt.cells, Pt.slots] at X264 l264 y264 z264 st264 hQ264
      subst l264 y264 z264
      obtain ⟨h264, e264⟩ : ∃ h, T264.heap = h := ⟨_, rfl⟩
      rw [e264] at hQ264
      obtain ⟨rfl, N264q, Kq264, F267, F268, F269, F270, F271, F272, F273, F274, F275, F276, F277, F278, F279, F280, F281⟩ := hQ264
      have Z264 : n0 ≤ h264.size := Nat.le_trans Z206 Kq264.1
      have N264 := Fr.app N206 N264q
      refine own_viaT st264 ?_
      show own_Go p e below s _ _ _ (T264.setTop (mkF m 190 #[lI p0, lI p1, lI p2, lJ p3, lS, lI 0, lI 1, lI v9, lI v12, lJ v15, lS, lI v16, lI v17, lR b18, lR b20, lR b22, lI 0, lI 1, lI 2, lU, lU, lU, lU, lU, lU, lU] []))
      rcases (own_01 hv9) with rfl | rfl
      · show own_Go p e below s _ _ _ (T264.setTop (mkF m 190 #[lI p0, lI p1, lI p2, lJ p3, lS, lI 0, lI 1, lI 0, lI v12, lJ v15, lS, lI v16, lI v17, lR b18, lR b20, lR b22, lI 0, lI 1, lI 2, lU, lU, lU, lU, lU, lU, lU] []))
        refine own_via (fun _ k => XS.iload X264.here hx rfl (hb hby at_190) rfl k) ?_
        show own_Go p e below s _ _ _ (T264.setTop (mkF m 192 #[lI p0, lI p1, lI p2, lJ p3, lS, lI 0, lI 1, lI 0, lI v12, lJ v15, lS, lI v16, lI v17, lR b18, lR b20, lR b22, lI 0, lI 1, lI 2, lU, lU, lU, lU, lU, lU, lU] [(.int (0 : Int32))]))
        refine own_via (fun _ k => XS.ifYes X264.here hx rfl (pc0 := 192) (pc' := 204) rfl (hb hby at_192) rfl (Jvm.Free.XT.i0_eq_t (by decide)) (by decide) (by decide) k) ?_
        show own_Go p e below s _ _ _ (T264.setTop (mkF m 204 #[lI p0, lI p1, lI p2, lJ p3, lS, lI 0, lI 1, lI 0, lI v12, lJ v15, lS, lI v16, lI v17, lR b18, lR b20, lR b22, lI 0, lI 1, lI 2, lU, lU, lU, lU, lU, lU, lU] []))
        refine own_via (fun _ k => XS.iconst X264.here hx rfl (hb hby at_204) k) ?_
        show own_Go p e below s _ _ _ (T264.setTop (mkF m 205 #[lI p0, lI p1, lI p2, lJ p3, lS, lI 0, lI 1, lI 0, lI v12, lJ v15, lS, lI v16, lI v17, lR b18, lR b20, lR b22, lI 0, lI 1, lI 2, lU, lU, lU, lU, lU, lU, lU] [(.int (0 : Int32))]))
        refine own_via (fun _ k => XS.istore X264.here hx rfl (hb hby at_205) rfl (l' := #[lI p0, lI p1, lI p2, lJ p3, lS, lI 0, lI 1, lI 0, lI v12, lJ v15, lS, lI v16, lI v17, lR b18, lR b20, lR b22, lI 0, lI 1, lI 2, lI 0, lU, lU, lU, lU, lU, lU]) rfl k) ?_
        show own_Go p e below s _ _ _ (T264.setTop (mkF m 207 #[lI p0, lI p1, lI p2, lJ p3, lS, lI 0, lI 1, lI 0, lI v12, lJ v15, lS, lI v16, lI v17, lR b18, lR b20, lR b22, lI 0, lI 1, lI 2, lI 0, lU, lU, lU, lU, lU, lU] []))
        refine own_via (fun _ k => XS.iload X264.here hx rfl (hb hby at_207) rfl k) ?_
        show own_Go p e below s _ _ _ (T264.setTop (mkF m 209 #[lI p0, lI p1, lI p2, lJ p3, lS, lI 0, lI 1, lI 0, lI v12, lJ v15, lS, lI v16, lI v17, lR b18, lR b20, lR b22, lI 0, lI 1, lI 2, lI 0, lU, lU, lU, lU, lU, lU] [(.int (0 : Int32))]))
        refine own_via (fun _ k => XS.ifYes X264.here hx rfl (pc0 := 209) (pc' := 239) rfl (hb hby at_209) rfl (Jvm.Free.XT.i0_eq_t (by decide)) (by decide) (by decide) k) ?_
        show own_Go p e below s _ _ _ (T264.setTop (mkF m 239 #[lI p0, lI p1, lI p2, lJ p3, lS, lI 0, lI 1, lI 0, lI v12, lJ v15, lS, lI v16, lI v17, lR b18, lR b20, lR b22, lI 0, lI 1, lI 2, lI 0, lU, lU, lU, lU, lU, lU] []))
        rcases (own_01 hv12) with rfl | rfl
        · show own_Go p e below s _ _ _ (T264.setTop (mkF m 239 #[lI p0, lI p1, lI p2, lJ p3, lS, lI 0, lI 1, lI 0, lI 0, lJ v15, lS, lI v16, lI v17, lR b18, lR b20, lR b22, lI 0, lI 1, lI 2, lI 0, lU, lU, lU, lU, lU, lU] []))
          refine own_via (fun _ k => XS.iload X264.here hx rfl (hb hby at_239) rfl k) ?_
          show own_Go p e below s _ _ _ (T264.setTop (mkF m 241 #[lI p0, lI p1, lI p2, lJ p3, lS, lI 0, lI 1, lI 0, lI 0, lJ v15, lS, lI v16, lI v17, lR b18, lR b20, lR b22, lI 0, lI 1, lI 2, lI 0, lU, lU, lU, lU, lU, lU] [(.int (0 : Int32))]))
          refine own_via (fun _ k => XS.ifYes X264.here hx rfl (pc0 := 241) (pc' := 258) rfl (hb hby at_241) rfl (Jvm.Free.XT.i0_eq_t (by decide)) (by decide) (by decide) k) ?_
          show own_Go p e below s _ _ _ (T264.setTop (mkF m 258 #[lI p0, lI p1, lI p2, lJ p3, lS, lI 0, lI 1, lI 0, lI 0, lJ v15, lS, lI v16, lI v17, lR b18, lR b20, lR b22, lI 0, lI 1, lI 2, lI 0, lU, lU, lU, lU, lU, lU] []))
          refine own_via (fun _ k => XS.iconst X264.here hx rfl (hb hby at_258) k) ?_
          show own_Go p e below s _ _ _ (T264.setTop (mkF m 259 #[lI p0, lI p1, lI p2, lJ p3, lS, lI 0, lI 1, lI 0, lI 0, lJ v15, lS, lI v16, lI v17, lR b18, lR b20, lR b22, lI 0, lI 1, lI 2, lI 0, lU, lU, lU, lU, lU, lU] [(.int (0 : Int32))]))
          refine own_via (fun _ k => XS.istore X264.here hx rfl (hb hby at_259) rfl (l' := #[lI p0, lI p1, lI p2, lJ p3, lS, lI 0, lI 1, lI 0, lI 0, lJ v15, lS, lI v16, lI v17, lR b18, lR b20, lR b22, lI 0, lI 1, lI 2, lI 0, lI 0, lU, lU, lU, lU, lU]) rfl k) ?_
          show own_Go p e below s _ _ _ (T264.setTop (mkF m 261 #[lI p0, lI p1, lI p2, lJ p3, lS, lI 0, lI 1, lI 0, lI 0, lJ v15, lS, lI v16, lI v17, lR b18, lR b20, lR b22, lI 0, lI 1, lI 2, lI 0, lI 0, lU, lU, lU, lU, lU] []))
          refine own_via (fun _ k => XS.iconst X264.here hx rfl (hb hby at_261) k) ?_
          show own_Go p e below s _ _ _ (T264.setTop (mkF m 262 #[lI p0, lI p1, lI p2, lJ p3, lS, lI 0, lI 1, lI 0, lI 0, lJ v15, lS, lI v16, lI v17, lR b18, lR b20, lR b22, lI 0, lI 1, lI 2, lI 0, lI 0, lU, lU, lU, lU, lU] [(.int (-1 : Int32))]))
          refine own_via (fun _ k => XS.istore X264.here hx rfl (hb hby at_262) rfl (l' := #[lI p0, lI p1, lI p2, lJ p3, lS, lI 0, lI 1, lI 0, lI 0, lJ v15, lS, lI v16, lI v17, lR b18, lR b20, lR b22, lI 0, lI 1, lI 2, lI 0, lI 0, lI (-1), lU, lU, lU, lU]) rfl k) ?_
          show own_Go p e below s _ _ _ (T264.setTop (mkF m 264 #[lI p0, lI p1, lI p2, lJ p3, lS, lI 0, lI 1, lI 0, lI 0, lJ v15, lS, lI v16, lI v17, lR b18, lR b20, lR b22, lI 0, lI 1, lI 2, lI 0, lI 0, lI (-1), lU, lU, lU, lU] []))
          refine own_via (fun _ k => XS.iload X264.here hx rfl (hb hby at_264) rfl k) ?_
          show own_Go p e below s _ _ _ (T264.setTop (mkF m 266 #[lI p0, lI p1, lI p2, lJ p3, lS, lI 0, lI 1, lI 0, lI 0, lJ v15, lS, lI v16, lI v17, lR b18, lR b20, lR b22, lI 0, lI 1, lI 2, lI 0, lI 0, lI (-1), lU, lU, lU, lU] [(.int (0 : Int32))]))
          refine own_via (fun _ k => XS.ifYes X264.here hx rfl (pc0 := 266) (pc' := 276) rfl (hb hby at_266) rfl (Jvm.Free.XT.i0_eq_t (by decide)) (by decide) (by decide) k) ?_
          show own_Go p e below s _ _ _ (T264.setTop (mkF m 276 #[lI p0, lI p1, lI p2, lJ p3, lS, lI 0, lI 1, lI 0, lI 0, lJ v15, lS, lI v16, lI v17, lR b18, lR b20, lR b22, lI 0, lI 1, lI 2, lI 0, lI 0, lI (-1), lU, lU, lU, lU] []))
          refine own_via (fun _ k => XS.iconst X264.here hx rfl (hb hby at_276) k) ?_
          show own_Go p e below s _ _ _ (T264.setTop (mkF m 277 #[lI p0, lI p1, lI p2, lJ p3, lS, lI 0, lI 1, lI 0, lI 0, lJ v15, lS, lI v16, lI v17, lR b18, lR b20, lR b22, lI 0, lI 1, lI 2, lI 0, lI 0, lI (-1), lU, lU, lU, lU] [(.int (-1 : Int32))]))
          refine own_via (fun _ k => XS.istore X264.here hx rfl (hb hby at_277) rfl (l' := #[lI p0, lI p1, lI p2, lJ p3, lS, lI 0, lI 1, lI 0, lI 0, lJ v15, lS, lI v16, lI v17, lR b18, lR b20, lR b22, lI 0, lI 1, lI 2, lI 0, lI 0, lI (-1), lI (-1), lU, lU, lU]) rfl k) ?_
          show own_Go p e below s _ _ _ (T264.setTop (mkF m 279 #[lI p0, lI p1, lI p2, lJ p3, lS, lI 0, lI 1, lI 0, lI 0, lJ v15, lS, lI v16, lI v17, lR b18, lR b20, lR b22, lI 0, lI 1, lI 2, lI 0, lI 0, lI (-1), lI (-1), lU, lU, lU] []))
          refine own_via (fun _ k => XS.iload X264.here hx rfl (hb hby at_279) rfl k) ?_
          show own_Go p e below s _ _ _ (T264.setTop (mkF m 281 #[lI p0, lI p1, lI p2, lJ p3, lS, lI 0, lI 1, lI 0, lI 0, lJ v15, lS, lI v16, lI v17, lR b18, lR b20, lR b22, lI 0, lI 1, lI 2, lI 0, lI 0, lI (-1), lI (-1), lU, lU, lU] [(.int (0 : Int32))]))
          refine own_via (fun _ k => XS.ifYes X264.here hx rfl (pc0 := 281) (pc' := 312) rfl (hb hby at_281) rfl (Jvm.Free.XT.i0_eq_t (by decide)) (by decide) (by decide) k) ?_
          show own_Go p e below s _ _ _ (T264.setTop (mkF m 312 #[lI p0, lI p1, lI p2, lJ p3, lS, lI 0, lI 1, lI 0, lI 0, lJ v15, lS, lI v16, lI v17, lR b18, lR b20, lR b22, lI 0, lI 1, lI 2, lI 0, lI 0, lI (-1), lI (-1), lU, lU, lU] []))
          exact jz (0 : Int32) (1 : Int32) (0 : Int32) (0 : Int32) (0 : Int32) (0 : Int32) (-1 : Int32) (-1 : Int32) (own_inc (0 : Int64) (1 : Int32) v15) _ _ _ X264 e264 N264 Z264 F267 F278 (rfl) (by rcases own_l3 v15 with ⟨a1, a2⟩ | ⟨a1, a2⟩ | ⟨a1, a2⟩ <;> simp only [own_exp, own_any, own_pol, own_inc, own_dec, own_w0, own_w1, a1, a2, if_true, if_false, reduceIte] <;> decide)
        · show own_Go p e below s _ _ _ (T264.setTop (mkF m 239 #[lI p0, lI p1, lI p2, lJ p3, lS, lI 0, lI 1, lI 0, lI 1, lJ v15, lS, lI v16, lI v17, lR b18, lR b20, lR b22, lI 0, lI 1, lI 2, lI 0, lU, lU, lU, lU, lU, lU] []))
          refine own_via (fun _ k => XS.iload X264.here hx rfl (hb hby at_239) rfl k) ?_
          show own_Go p e below s _ _ _ (T264.setTop (mkF m 241 #[lI p0, lI p1, lI p2, lJ p3, lS, lI 0, lI 1, lI 0, lI 1, lJ v15, lS, lI v16, lI v17, lR b18, lR b20, lR b22, lI 0, lI 1, lI 2, lI 0, lU, lU, lU, lU, lU, lU] [(.int (1 : Int32))]))
          refine own_via (fun _ k => XS.ifNo X264.here hx rfl (hb hby at_241) rfl (Jvm.Free.XT.i0_eq_f (by decide)) k) ?_
          show own_Go p e below s _ _ _ (T264.setTop (mkF m 244 #[lI p0, lI p1, lI p2, lJ p3, lS, lI 0, lI 1, lI 0, lI 1, lJ v15, lS, lI v16, lI v17, lR b18, lR b20, lR b22, lI 0, lI 1, lI 2, lI 0, lU, lU, lU, lU, lU, lU] []))
          refine own_via (fun _ k => XS.iload X264.here hx rfl (hb hby at_244) rfl k) ?_
          show own_Go p e below s _ _ _ (T264.setTop (mkF m 246 #[lI p0, lI p1, lI p2, lJ p3, lS, lI 0, lI 1, lI 0, lI 1, lJ v15, lS, lI v16, lI v17, lR b18, lR b20, lR b22, lI 0, lI 1, lI 2, lI 0, lU, lU, lU, lU, lU, lU] [(.int (0 : Int32))]))
          refine own_via (fun _ k => XS.ifNo X264.here hx rfl (hb hby at_246) rfl (Jvm.Free.XT.i0_ne_f (by decide)) k) ?_
          show own_Go p e below s _ _ _ (T264.setTop (mkF m 249 #[lI p0, lI p1, lI p2, lJ p3, lS, lI 0, lI 1, lI 0, lI 1, lJ v15, lS, lI v16, lI v17, lR b18, lR b20, lR b22, lI 0, lI 1, lI 2, lI 0, lU, lU, lU, lU, lU, lU] []))
          refine own_via (fun _ k => XS.iload X264.here hx rfl (hb hby at_249) rfl k) ?_
          show own_Go p e below s _ _ _ (T264.setTop (mkF m 251 #[lI p0, lI p1, lI p2, lJ p3, lS, lI 0, lI 1, lI 0, lI 1, lJ v15, lS, lI v16, lI v17, lR b18, lR b20, lR b22, lI 0, lI 1, lI 2, lI 0, lU, lU, lU, lU, lU, lU] [(.int (1 : Int32))]))
          refine own_via (fun _ k => XS.ifNo X264.here hx rfl (hb hby at_251) rfl (Jvm.Free.XT.i0_eq_f (by decide)) k) ?_
          show own_Go p e below s _ _ _ (T264.setTop (mkF m 254 #[lI p0, lI p1, lI p2, lJ p3, lS, lI 0, lI 1, lI 0, lI 1, lJ v15, lS, lI v16, lI v17, lR b18, lR b20, lR b22, lI 0, lI 1, lI 2, lI 0, lU, lU, lU, lU, lU, lU] []))
          refine own_via (fun _ k => XS.iconst X264.here hx rfl (hb hby at_254) k) ?_
          show own_Go p e below s _ _ _ (T264.setTop (mkF m 255 #[lI p0, lI p1, lI p2, lJ p3, lS, lI 0, lI 1, lI 0, lI 1, lJ v15, lS, lI v16, lI v17, lR b18, lR b20, lR b22, lI 0, lI 1, lI 2, lI 0, lU, lU, lU, lU, lU, lU] [(.int (1 : Int32))]))
          refine own_via (fun _ k => XS.goto X264.here hx rfl (pc0 := 255) (pc' := 259) rfl (hb hby at_255) (by decide) (by decide) k) ?_
          show own_Go p e below s _ _ _ (T264.setTop (mkF m 259 #[lI p0, lI p1, lI p2, lJ p3, lS, lI 0, lI 1, lI 0, lI 1, lJ v15, lS, lI v16, lI v17, lR b18, lR b20, lR b22, lI 0, lI 1, lI 2, lI 0, lU, lU, lU, lU, lU, lU] [(.int (1 : Int32))]))
          refine own_via (fun _ k => XS.istore X264.here hx rfl (hb hby at_259) rfl (l' := #[lI p0, lI p1, lI p2, lJ p3, lS, lI 0, lI 1, lI 0, lI 1, lJ v15, lS, lI v16, lI v17, lR b18, lR b20, lR b22, lI 0, lI 1, lI 2, lI 0, lI 1, lU, lU, lU, lU, lU]) rfl k) ?_
          show own_Go p e below s _ _ _ (T264.setTop (mkF m 261 #[lI p0, lI p1, lI p2, lJ p3, lS, lI 0, lI 1, lI 0, lI 1, lJ v15, lS, lI v16, lI v17, lR b18, lR b20, lR b22, lI 0, lI 1, lI 2, lI 0, lI 1, lU, lU, lU, lU, lU] []))
          refine own_via (fun _ k => XS.iconst X264.here hx rfl (hb hby at_261) k) ?_
          show own_Go p e below s _ _ _ (T264.setTop (mkF m 262 #[lI p0, lI p1, lI p2, lJ p3, lS, lI 0, lI 1, lI 0, lI 1, lJ v15, lS, lI v16, lI v17, lR b18, lR b20, lR b22, lI 0, lI 1, lI 2, lI 0, lI 1, lU, lU, lU, lU, lU] [(.int (-1 : Int32))]))
          refine own_via (fun _ k => XS.istore X264.here hx rfl (hb hby at_262) rfl (l' := #[lI p0, lI p1, lI p2, lJ p3, lS, lI 0, lI 1, lI 0, lI 1, lJ v15, lS, lI v16, lI v17, lR b18, lR b20, lR b22, lI 0, lI 1, lI 2, lI 0, lI 1, lI (-1), lU, lU, lU, lU]) rfl k) ?_
          show own_Go p e below s _ _ _ (T264.setTop (mkF m 264 #[lI p0, lI p1, lI p2, lJ p3, lS, lI 0, lI 1, lI 0, lI 1, lJ v15, lS, lI v16, lI v17, lR b18, lR b20, lR b22, lI 0, lI 1, lI 2, lI 0, lI 1, lI (-1), lU, lU, lU, lU] []))
          refine own_via (fun _ k => XS.iload X264.here hx rfl (hb hby at_264) rfl k) ?_
          show own_Go p e below s _ _ _ (T264.setTop (mkF m 266 #[lI p0, lI p1, lI p2, lJ p3, lS, lI 0, lI 1, lI 0, lI 1, lJ v15, lS, lI v16, lI v17, lR b18, lR b20, lR b22, lI 0, lI 1, lI 2, lI 0, lI 1, lI (-1), lU, lU, lU, lU] [(.int (1 : Int32))]))
          refine own_via (fun _ k => XS.ifNo X264.here hx rfl (hb hby at_266) rfl (Jvm.Free.XT.i0_eq_f (by decide)) k) ?_
          show own_Go p e below s _ _ _ (T264.setTop (mkF m 269 #[lI p0, lI p1, lI p2, lJ p3, lS, lI 0, lI 1, lI 0, lI 1, lJ v15, lS, lI v16, lI v17, lR b18, lR b20, lR b22, lI 0, lI 1, lI 2, lI 0, lI 1, lI (-1), lU, lU, lU, lU] []))
          refine own_via (fun _ k => XS.aload X264.here hx rfl (hb hby at_269) rfl rfl k) ?_
          show own_Go p e below s _ _ _ (T264.setTop (mkF m 271 #[lI p0, lI p1, lI p2, lJ p3, lS, lI 0, lI 1, lI 0, lI 1, lJ v15, lS, lI v16, lI v17, lR b18, lR b20, lR b22, lI 0, lI 1, lI 2, lI 0, lI 1, lI (-1), lU, lU, lU, lU] [(.ref b22)]))
          have F283 := (F238.keep Kq264 (ninS (Ne.symm ne_b22_bl_42) (ninS F115 (ninS F116 nin0))))
          have F284 := ((((F78.keep Kq140 (ninS (Ne.symm ne_b22_bz_42) (ninS (Ne.symm F88) (ninS (Ne.symm F97) (ninS (Ne.symm F105) (ninS (Ne.symm F112) (ninS (Ne.symm F118) (ninS (Ne.symm F123) nin0)))))))).keep Kq173 (ninS (Ne.symm ne_b22_bz_42) (ninS (Ne.symm F88) (ninS (Ne.symm F97) (ninS (Ne.symm F105) (ninS (Ne.symm F112) (ninS (Ne.symm F118) (ninS (Ne.symm F123) nin0)))))))).keep Kq206 (ninS (Ne.symm ne_b22_bz_42) (ninS (Ne.symm F88) (ninS (Ne.symm F97) (ninS (Ne.symm F105) (ninS (Ne.symm F112) (ninS (Ne.symm F118) (ninS (Ne.symm F123) nin0)))))))).keep Kq264 (ninS (Ne.symm ne_b22_bz_42) (ninS F130 (ninS F131 nin0))))
          obtain ⟨cq282, kq282, qa282, qb282, qc282⟩ := isOf hZ e264 F267
          obtain ⟨_, _, ⟨T282, L282, k282, n282⟩, -, X282, ⟨Lc282, hQ282, l282, y282, z282⟩, st282⟩ := X264.virtualBack hx (y := (⟨"com/example/trajectory/trajectory/search/Nodes", "poll", "()I"⟩ : MethodName)) (z := (⟨"com/example/trajectory/trajectory/search/Nodes", "poll", "()I"⟩ : MethodName)) hown (mvT hZ (hwi hw 98 rfl)) (mvT hZ (hwi hw 99 rfl)) (notFace_of_selects (args := #[]) (mvT hZ (hwi hw 101 rfl))) (mvT hZ (hwi hw 101 rfl)) (mvT hZ (hwi hw 100 rfl)) (by decide) (backOf (W := 0) (rmpo1 l Z a0 hw [] b22 v15 (own_inc (0 : Int64) (1 : Int32) v15) (1 : Int32) (0 : Int32) (1 : Int32) dq1 (0 : UInt64) (own_rk (1 : Int32) (1 : Int32)) (0 : Int64) bl_42 bz_42 bf_42 br_42 kl_42 kz_42 kf_42 kr_42 [(.int (0 : Int32)), (.int (1 : Int32)), (.int (1 : Int32)), (.int (0 : Int32))] [(.int (0 : Int32)), (.int (0 : Int32)), (.int (0 : Int32)), (.int (0 : Int32))] h264 n0 Z264 F267 F269 F271 F272 F275 F276 F277 F278 F283 F284 F280 F281 g_b22 g_bf_42 g_br_42 ne_b22_bf_42 ne_b22_br_42 F137 (by decide) ⟨by decide, by decide⟩ rfl rfl) hZ (hwi hw 102 rfl) (hwi hw 4 rfl) (by decide) (by decide)) qa282 qc282 (g := (mkF m 271 #[lI p0, lI p1, lI p2, lJ p3, lS, lI 0, lI 1, lI 0, lI 1, lJ v15, lS, lI v16, lI v17, lR b18, lR b20, lR b22, lI 0, lI 1, lI 2, lI 0, lI 1, lI (-1), lU, lU, lU, lU] [(.ref b22)])) rfl (by rw [hml]; rfl) (Steps.refl _) (argsL := []) (rest := []) (lenOf pd_11 rfl) rfl (by show 2 * 0 + _ ≤ _; exact Nat.le_of_eq rfl) (hb hby at_271) (fun _ _ => ⟨rfl, e264, (by decide : 14 + 0 ≤ _), (by decide : 789 + 0 ≤ _)⟩)
          dsimp only [Pt.U, Pt.locs, Pt.cells, Pt.slots] at X282 l282 y282 z282 st282 hQ282
          subst l282 y282 z282
          obtain ⟨h282, e282⟩ : ∃ h, T282.heap = h := ⟨_, rfl⟩
          rw [e282] at hQ282
          obtain ⟨rfl, N282q, Kq282, F285, F286⟩ := hQ282
          have Z282 : n0 ≤ h282.size := Nat.le_trans Z264 Kq282.1
          have N282 := Fr.app N264 N282q
          refine own_viaT st282 ?_
          show own_Go p e below s _ _ _ (T282.setTop (mkF m 274 #[lI p0, lI p1, lI p2, lJ p3, lS, lI 0, lI 1, lI 0, lI 1, lJ v15, lS, lI v16, lI v17, lR b18, lR b20, lR b22, lI 0, lI 1, lI 2, lI 0, lI 1, lI (-1), lU, lU, lU, lU] [(.int (1 : Int32))]))
          refine own_via (fun _ k => XS.istore X282.here hx rfl (hb hby at_274) rfl (l' := #[lI p0, lI p1, lI p2, lJ p3, lS, lI 0, lI 1, lI 0, lI 1, lJ v15, lS, lI v16, lI v17, lR b18, lR b20, lR b22, lI 0, lI 1, lI 2, lI 0, lI 1, lI 1, lU, lU, lU, lU]) rfl k) ?_
          show own_Go p e below s _ _ _ (T282.setTop (mkF m 276 #[lI p0, lI p1, lI p2, lJ p3, lS, lI 0, lI 1, lI 0, lI 1, lJ v15, lS, lI v16, lI v17, lR b18, lR b20, lR b22, lI 0, lI 1, lI 2, lI 0, lI 1, lI 1, lU, lU, lU, lU] []))
          refine own_via (fun _ k => XS.iconst X282.here hx rfl (hb hby at_276) k) ?_
          show own_Go p e below s _ _ _ (T282.setTop (mkF m 277 #[lI p0, lI p1, lI p2, lJ p3, lS, lI 0, lI 1, lI 0, lI 1, lJ v15, lS, lI v16, lI v17, lR b18, lR b20, lR b22, lI 0, lI 1, lI 2, lI 0, lI 1, lI 1, lU, lU, lU, lU] [(.int (-1 : Int32))]))
          refine own_via (fun _ k => XS.istore X282.here hx rfl (hb hby at_277) rfl (l' := #[lI p0, lI p1, lI p2, lJ p3, lS, lI 0, lI 1, lI 0, lI 1, lJ v15, lS, lI v16, lI v17, lR b18, lR b20, lR b22, lI 0, lI 1, lI 2, lI 0, lI 1, lI 1, lI (-1), lU, lU, lU]) rfl k) ?_
          show own_Go p e below s _ _ _ (T282.setTop (mkF m 279 #[lI p0, lI p1, lI p2, lJ p3, lS, lI 0, lI 1, lI 0, lI 1, lJ v15, lS, lI v16, lI v17, lR b18, lR b20, lR b22, lI 0, lI 1, lI 2, lI 0, lI 1, lI 1, lI (-1), lU, lU, lU] []))
          refine own_via (fun _ k => XS.iload X282.here hx rfl (hb hby at_279) rfl k) ?_
          show own_Go p e below s _ _ _ (T282.setTop (mkF m 281 #[lI p0, lI p1, lI p2, lJ p3, lS, lI 0, lI 1, lI 0, lI 1, lJ v15, lS, lI v16, lI v17, lR b18, lR b20, lR b22, lI 0, lI 1, lI 2, lI 0, lI 1, lI 1, lI (-1), lU, lU, lU] [(.int (1 : Int32))]))
          refine own_via (fun _ k => XS.ifNo X282.here hx rfl (hb hby at_281) rfl (Jvm.Free.XT.i0_eq_f (by decide)) k) ?_
          show own_Go p e below s _ _ _ (T282.setTop (mkF m 284 #[lI p0, lI p1, lI p2, lJ p3, lS, lI 0, lI 1, lI 0, lI 1, lJ v15, lS, lI v16, lI v17, lR b18, lR b20, lR b22, lI 0, lI 1, lI 2, lI 0, lI 1, lI 1, lI (-1), lU, lU, lU] []))
          refine own_via (fun _ k => XS.iload X282.here hx rfl (hb hby at_284) rfl k) ?_
          show own_Go p e below s _ _ _ (T282.setTop (mkF m 286 #[lI p0, lI p1, lI p2, lJ p3, lS, lI 0, lI 1, lI 0, lI 1, lJ v15, lS, lI v16, lI v17, lR b18, lR b20, lR b22, lI 0, lI 1, lI 2, lI 0, lI 1, lI 1, lI (-1), lU, lU, lU] [(.int (0 : Int32))]))
          refine own_via (fun _ k => XS.ifYes X282.here hx rfl (pc0 := 286) (pc' := 308) rfl (hb hby at_286) rfl (Jvm.Free.XT.i0_eq_t (by decide)) (by decide) (by decide) k) ?_
          show own_Go p e below s _ _ _ (T282.setTop (mkF m 308 #[lI p0, lI p1, lI p2, lJ p3, lS, lI 0, lI 1, lI 0, lI 1, lJ v15, lS, lI v16, lI v17, lR b18, lR b20, lR b22, lI 0, lI 1, lI 2, lI 0, lI 1, lI 1, lI (-1), lU, lU, lU] []))
          refine own_via (fun _ k => XS.iload X282.here hx rfl (hb hby at_308) rfl k) ?_
          show own_Go p e below s _ _ _ (T282.setTop (mkF m 310 #[lI p0, lI p1, lI p2, lJ p3, lS, lI 0, lI 1, lI 0, lI 1, lJ v15, lS, lI v16, lI v17, lR b18, lR b20, lR b22, lI 0, lI 1, lI 2, lI 0, lI 1, lI 1, lI (-1), lU, lU, lU] [(.int (1 : Int32))]))
          refine own_via (fun _ k => XS.istore X282.here hx rfl (hb hby at_310) rfl (l' := #[lI p0, lI p1, lI p2, lJ p3, lS, lI 0, lI 1, lI 0, lI 1, lJ v15, lS, lI v16, lI v17, lR b18, lR b20, lR b22, lI 0, lI 1, lI 2, lI 0, lI 1, lI 1, lI 1, lU, lU, lU]) rfl k) ?_
          show own_Go p e below s _ _ _ (T282.setTop (mkF m 312 #[lI p0, lI p1, lI p2, lJ p3, lS, lI 0, lI 1, lI 0, lI 1, lJ v15, lS, lI v16, lI v17, lR b18, lR b20, lR b22, lI 0, lI 1, lI 2, lI 0, lI 1, lI 1, lI 1, lU, lU, lU] []))
          exact jz (0 : Int32) (1 : Int32) (0 : Int32) (1 : Int32) (0 : Int32) (1 : Int32) (1 : Int32) (1 : Int32) (own_pol (own_inc (0 : Int64) (1 : Int32) v15) (0 : Int32) (1 : Int32) v15) _ _ _ X282 e282 N282 Z282 F285 F286 (rfl) (by rcases own_l3 v15 with ⟨a1, a2⟩ | ⟨a1, a2⟩ | ⟨a1, a2⟩ <;> simp only [own_exp, own_any, own_pol, own_inc, own_dec, own_w0, own_w1, a1, a2, if_true, if_false, reduceIte] <;> decide)
      · show own_Go p e below s _ _ _ (T264.setTop (mkF m 190 #[lI p0, lI p1, lI p2, lJ p3, lS, lI 0, lI 1, lI 1, lI v12, lJ v15, lS, lI v16, lI v17, lR b18, lR b20, lR b22, lI 0, lI 1, lI 2, lU, lU, lU, lU, lU, lU, lU] []))
        refine own_via (fun _ k => XS.iload X264.here hx rfl (hb hby at_190) rfl k) ?_
        show own_Go p e below s _ _ _ (T264.setTop (mkF m 192 #[lI p0, lI p1, lI p2, lJ p3, lS, lI 0, lI 1, lI 1, lI v12, lJ v15, lS, lI v16, lI v17, lR b18, lR b20, lR b22, lI 0, lI 1, lI 2, lU, lU, lU, lU, lU, lU, lU] [(.int (1 : Int32))]))
        refine own_via (fun _ k => XS.ifNo X264.here hx rfl (hb hby at_192) rfl (Jvm.Free.XT.i0_eq_f (by decide)) k) ?_
        show own_Go p e below s _ _ _ (T264.setTop (mkF m 195 #[lI p0, lI p1, lI p2, lJ p3, lS, lI 0, lI 1, lI 1, lI v12, lJ v15, lS, lI v16, lI v17, lR b18, lR b20, lR b22, lI 0, lI 1, lI 2, lU, lU, lU, lU, lU, lU, lU] []))
        refine own_via (fun _ k => XS.iload X264.here hx rfl (hb hby at_195) rfl k) ?_
        show own_Go p e below s _ _ _ (T264.setTop (mkF m 197 #[lI p0, lI p1, lI p2, lJ p3, lS, lI 0, lI 1, lI 1, lI v12, lJ v15, lS, lI v16, lI v17, lR b18, lR b20, lR b22, lI 0, lI 1, lI 2, lU, lU, lU, lU, lU, lU, lU] [(.int (1 : Int32))]))
        refine own_via (fun _ k => XS.ifNo X264.here hx rfl (hb hby at_197) rfl (Jvm.Free.XT.i0_eq_f (by decide)) k) ?_
        show own_Go p e below s _ _ _ (T264.setTop (mkF m 200 #[lI p0, lI p1, lI p2, lJ p3, lS, lI 0, lI 1, lI 1, lI v12, lJ v15, lS, lI v16, lI v17, lR b18, lR b20, lR b22, lI 0, lI 1, lI 2, lU, lU, lU, lU, lU, lU, lU] []))
        refine own_via (fun _ k => XS.iconst X264.here hx rfl (hb hby at_200) k) ?_
        show own_Go p e below s _ _ _ (T264.setTop (mkF m 201 #[lI p0, lI p1, lI p2, lJ p3, lS, lI 0, lI 1, lI 1, lI v12, lJ v15, lS, lI v16, lI v17, lR b18, lR b20, lR b22, lI 0, lI 1, lI 2, lU, lU, lU, lU, lU, lU, lU] [(.int (1 : Int32))]))
        refine own_via (fun _ k => XS.goto X264.here hx rfl (pc0 := 201) (pc' := 205) rfl (hb hby at_201) (by decide) (by decide) k) ?_
        show own_Go p e below s _ _ _ (T264.setTop (mkF m 205 #[lI p0, lI p1, lI p2, lJ p3, lS, lI 0, lI 1, lI 1, lI v12, lJ v15, lS, lI v16, lI v17, lR b18, lR b20, lR b22, lI 0, lI 1, lI 2, lU, lU, lU, lU, lU, lU, lU] [(.int (1 : Int32))]))
        refine own_via (fun _ k => XS.istore X264.here hx rfl (hb hby at_205) rfl (l' := #[lI p0, lI p1, lI p2, lJ p3, lS, lI 0, lI 1, lI 1, lI v12, lJ v15, lS, lI v16, lI v17, lR b18, lR b20, lR b22, lI 0, lI 1, lI 2, lI 1, lU, lU, lU, lU, lU, lU]) rfl k) ?_
        show own_Go p e below s _ _ _ (T264.setTop (mkF m 207 #[lI p0, lI p1, lI p2, lJ p3, lS, lI 0, lI 1, lI 1, lI v12, lJ v15, lS, lI v16, lI v17, lR b18, lR b20, lR b22, lI 0, lI 1, lI 2, lI 1, lU, lU, lU, lU, lU, lU] []))
        refine own_via (fun _ k => XS.iload X264.here hx rfl (hb hby at_207) rfl k) ?_
        show own_Go p e below s _ _ _ (T264.setTop (mkF m 209 #[lI p0, lI p1, lI p2, lJ p3, lS, lI 0, lI 1, lI 1, lI v12, lJ v15, lS, lI v16, lI v17, lR b18, lR b20, lR b22, lI 0, lI 1, lI 2, lI 1, lU, lU, lU, lU, lU, lU] [(.int (1 : Int32))]))
        refine own_via (fun _ k => XS.ifNo X264.here hx rfl (hb hby at_209) rfl (Jvm.Free.XT.i0_eq_f (by decide)) k) ?_
        show own_Go p e below s _ _ _ (T264.setTop (mkF m 212 #[lI p0, lI p1, lI p2, lJ p3, lS, lI 0, lI 1, lI 1, lI v12, lJ v15, lS, lI v16, lI v17, lR b18, lR b20, lR b22, lI 0, lI 1, lI 2, lI 1, lU, lU, lU, lU, lU, lU] []))
        refine own_via (fun _ k => XS.aload X264.here hx rfl (hb hby at_212) rfl rfl k) ?_
        show own_Go p e below s _ _ _ (T264.setTop (mkF m 214 #[lI p0, lI p1, lI p2, lJ p3, lS, lI 0, lI 1, lI 1, lI v12, lJ v15, lS, lI v16, lI v17, lR b18, lR b20, lR b22, lI 0, lI 1, lI 2, lI 1, lU, lU, lU, lU, lU, lU] [(.ref b22)]))
        refine own_via (fun _ k => XS.aload X264.here hx rfl (hb hby at_214) rfl rfl k) ?_
        show own_Go p e below s _ _ _ (T264.setTop (mkF m 216 #[lI p0, lI p1, lI p2, lJ p3, lS, lI 0, lI 1, lI 1, lI v12, lJ v15, lS, lI v16, lI v17, lR b18, lR b20, lR b22, lI 0, lI 1, lI 2, lI 1, lU, lU, lU, lU, lU, lU] [(.ref b20), (.ref b22)]))
        have F288 := ((((F80.keep Kq140 (ninS (Ne.symm ne_b22_bT_42) (ninS (Ne.symm F90) (ninS (Ne.symm F99) (ninS (Ne.symm F107) (ninS (Ne.symm F114) (ninS (Ne.symm F120) (ninS (Ne.symm F125) nin0)))))))).keep Kq173 (ninS (Ne.symm ne_b22_bT_42) (ninS (Ne.symm F90) (ninS (Ne.symm F99) (ninS (Ne.symm F107) (ninS (Ne.symm F114) (ninS (Ne.symm F120) (ninS (Ne.symm F125) nin0)))))))).keep Kq206 (ninS (Ne.symm ne_b22_bT_42) (ninS (Ne.symm F90) (ninS (Ne.symm F99) (ninS (Ne.symm F107) (ninS (Ne.symm F114) (ninS (Ne.symm F120) (ninS (Ne.symm F125) nin0)))))))).keep Kq264 (ninS (Ne.symm ne_b22_bT_42) (ninS F135 (ninS F136 nin0))))
        have F289 := ((F207.keep Kq206 (ninS ne_b20_b22 (ninS ne_b20_bs_42 (ninS ne_b20_bc_42 (ninS ne_b20_bt_42 (ninS ne_b20_bl_42 (ninS ne_b20_bp_42 (ninS ne_b20_bu_42 nin0)))))))).keep Kq264 (ninS ne_b20_b22 (ninS ne_b20_bf_42 (ninS ne_b20_br_42 nin0))))
        obtain ⟨cq287, kq287, qa287, qb287, qc287⟩ := isOf hZ e264 F267
        obtain ⟨_, _, ⟨T287, L287, k287, n287⟩, -, X287, ⟨Lc287, hQ287, l287, y287, z287⟩, st287⟩ := X264.virtualBack hx (y := (⟨"com/example/trajectory/trajectory/search/Nodes", "slot", "([J)I"⟩ : MethodName)) (z := (⟨"com/example/trajectory/trajectory/search/Nodes", "slot", "([J)I"⟩ : MethodName)) hown (mvT hZ (hwi hw 103 rfl)) (mvT hZ (hwi hw 104 rfl)) (notFace_of_selects (args := #[]) (mvT hZ (hwi hw 106 rfl))) (mvT hZ (hwi hw 106 rfl)) (mvT hZ (hwi hw 105 rfl)) (by decide) (backOf (W := 0) (rm14 l Z a0 hw [] b22 b20 bT_42 kT_42 wT_42 k20 h264 n0 Z264 F267 F268 F274 F288 F289 F139) hZ (hwi hw 107 rfl) (hwi hw 4 rfl) (by decide) (by decide)) qa287 qc287 (g := (mkF m 216 #[lI p0, lI p1, lI p2, lJ p3, lS, lI 0, lI 1, lI 1, lI v12, lJ v15, lS, lI v16, lI v17, lR b18, lR b20, lR b22, lI 0, lI 1, lI 2, lI 1, lU, lU, lU, lU, lU, lU] [(.ref b20), (.ref b22)])) rfl (by rw [hml]; rfl) (Steps.refl _) (argsL := [(.ref b20)]) (rest := []) (lenOf pd_12 rfl) rfl (by show 2 * 0 + _ ≤ _; exact Nat.le_of_eq rfl) (hb hby at_216) (fun _ _ => ⟨rfl, e264, (by decide : 14 + 0 ≤ _), (by decide : 789 + 0 ≤ _)⟩)
        dsimp only [Pt.U, Pt.locs, Pt.cells, Pt.slots] at X287 l287 y287 z287 st287 hQ287
        subst l287 y287 z287
        obtain ⟨rfl, N287q, e287⟩ := hQ287
        have N287 := Fr.app N264 N287q
        refine own_viaT st287 ?_
        show own_Go p e below s _ _ _ (T287.setTop (mkF m 219 #[lI p0, lI p1, lI p2, lJ p3, lS, lI 0, lI 1, lI 1, lI v12, lJ v15, lS, lI v16, lI v17, lR b18, lR b20, lR b22, lI 0, lI 1, lI 2, lI 1, lU, lU, lU, lU, lU, lU] [(.int (44 : Int32))]))
        refine own_via (fun _ k => XS.istore X287.here hx rfl (hb hby at_219) rfl (l' := #[lI p0, lI p1, lI p2, lJ p3, lS, lI 0, lI 1, lI 1, lI v12, lJ v15, lS, lI v16, lI v17, lR b18, lR b20, lR b22, lI 0, lI 1, lI 2, lI 1, lI 44, lU, lU, lU, lU, lU]) rfl k) ?_
        show own_Go p e below s _ _ _ (T287.setTop (mkF m 221 #[lI p0, lI p1, lI p2, lJ p3, lS, lI 0, lI 1, lI 1, lI v12, lJ v15, lS, lI v16, lI v17, lR b18, lR b20, lR b22, lI 0, lI 1, lI 2, lI 1, lI 44, lU, lU, lU, lU, lU] []))
        refine own_via (fun _ k => XS.aload X287.here hx rfl (hb hby at_221) rfl rfl k) ?_
        show own_Go p e below s _ _ _ (T287.setTop (mkF m 223 #[lI p0, lI p1, lI p2, lJ p3, lS, lI 0, lI 1, lI 1, lI v12, lJ v15, lS, lI v16, lI v17, lR b18, lR b20, lR b22, lI 0, lI 1, lI 2, lI 1, lI 44, lU, lU, lU, lU, lU] [(.ref b22)]))
        refine own_via (fun _ k => XS.iload X287.here hx rfl (hb hby at_223) rfl k) ?_
        show own_Go p e below s _ _ _ (T287.setTop (mkF m 225 #[lI p0, lI p1, lI p2, lJ p3, lS, lI 0, lI 1, lI 1, lI v12, lJ v15, lS, lI v16, lI v17, lR b18, lR b20, lR b22, lI 0, lI 1, lI 2, lI 1, lI 44, lU, lU, lU, lU, lU] [(.int (44 : Int32)), (.ref b22)]))
        refine own_via (fun _ k => XS.iload X287.here hx rfl (hb hby at_225) rfl k) ?_
        show own_Go p e below s _ _ _ (T287.setTop (mkF m 227 #[lI p0, lI p1, lI p2, lJ p3, lS, lI 0, lI 1, lI 1, lI v12, lJ v15, lS, lI v16, lI v17, lR b18, lR b20, lR b22, lI 0, lI 1, lI 2, lI 1, lI 44, lU, lU, lU, lU, lU] [(.int (1 : Int32)), (.int (44 : Int32)), (.ref b22)]))
        have F291 := ((((F79.keep Kq140 (ninS (Ne.symm ne_b22_bk_42) (ninS (Ne.symm F89) (ninS (Ne.symm F98) (ninS (Ne.symm F106) (ninS (Ne.symm F113) (ninS (Ne.symm F119) (ninS (Ne.symm F124) nin0)))))))).keep Kq173 (ninS (Ne.symm ne_b22_bk_42) (ninS (Ne.symm F89) (ninS (Ne.symm F98) (ninS (Ne.symm F106) (ninS (Ne.symm F113) (ninS (Ne.symm F119) (ninS (Ne.symm F124) nin0)))))))).keep Kq206 (ninS (Ne.symm ne_b22_bk_42) (ninS (Ne.symm F89) (ninS (Ne.symm F98) (ninS (Ne.symm F106) (ninS (Ne.symm F113) (ninS (Ne.symm F119) (ninS (Ne.symm F124) nin0)))))))).keep Kq264 (ninS (Ne.symm ne_b22_bk_42) (ninS F133 (ninS F134 nin0))))
        obtain ⟨cq290, kq290, qa290, qb290, qc290⟩ := isOf hZ e287 F267
        obtain ⟨_, _, ⟨T290, L290, k290, n290⟩, -, X290, ⟨Lc290, hQ290, l290, y290, z290⟩, st290⟩ := X287.virtualBack hx (y := (⟨"com/example/trajectory/trajectory/search/Nodes", "keep", "(II)V"⟩ : MethodName)) (z := (⟨"com/example/trajectory/trajectory/search/Nodes", "keep", "(II)V"⟩ : MethodName)) hown (mvT hZ (hwi hw 113 rfl)) (mvT hZ (hwi hw 114 rfl)) (notFace_of_selects (args := #[]) (mvT hZ (hwi hw 116 rfl))) (mvT hZ (hwi hw 116 rfl)) (mvT hZ (hwi hw 115 rfl)) (by decide) (backOf (W := 0) (rmkA l Z a0 hw [] b22 (44 : Int32) (1 : Int32) v15 (own_inc (0 : Int64) (1 : Int32) v15) (1 : Int32) bc_42 bl_42 bz_42 bk_42 bT_42 bf_42 br_42 kT_42 kk_42 wT_42 h264 n0 Z264 F267 F269 F270 F271 F272 F273 F274 F275 F276 F277 F278 F279 F288 F291 g_b22 g_bk_42 g_bT_42 ne_b22_bk_42 ne_b22_bT_42 F132 rfl rfl F138 F139) hZ (hwi hw 117 rfl) (hwi hw 4 rfl) (by decide) (by decide)) qa290 qc290 (g := (mkF m 227 #[lI p0, lI p1, lI p2, lJ p3, lS, lI 0, lI 1, lI 1, lI v12, lJ v15, lS, lI v16, lI v17, lR b18, lR b20, lR b22, lI 0, lI 1, lI 2, lI 1, lI 44, lU, lU, lU, lU, lU] [(.int (1 : Int32)), (.int (44 : Int32)), (.ref b22)])) rfl (by rw [hml]; rfl) (Steps.refl _) (argsL := [(.int (44 : Int32)), (.int (1 : Int32))]) (rest := []) (lenOf pd_13 rfl) rfl (by show 2 * 0 + _ ≤ _; exact Nat.le_of_eq rfl) (hb hby at_227) (fun _ _ => ⟨rfl, e287, (by decide : 14 + 0 ≤ _), (by decide : 789 + 0 ≤ _)⟩)
        dsimp only [Pt.U, Pt.locs, Pt.cells, Pt.slots] at X290 l290 y290 z290 st290 hQ290
        subst l290 y290 z290
        obtain ⟨h290, e290⟩ : ∃ h, T290.heap = h := ⟨_, rfl⟩
        rw [e290] at hQ290
        obtain ⟨wT_290, rfl, N290q, Kq290, F292, F293, F294, F295, F296, F297, F298, F299, F300, F301, F302, F303, F304, F305, F306, F307⟩ := hQ290
        have Z290 : n0 ≤ h290.size := Nat.le_trans Z264 Kq290.1
        have N290 := Fr.app N287 N290q
        refine own_viaT st290 ?_
        show own_Go p e below s _ _ _ (T290.setTop (mkF m 230 #[lI p0, lI p1, lI p2, lJ p3, lS, lI 0, lI 1, lI 1, lI v12, lJ v15, lS, lI v16, lI v17, lR b18, lR b20, lR b22, lI 0, lI 1, lI 2, lI 1, lI 44, lU, lU, lU, lU, lU] []))
        refine own_via (fun _ k => XS.aload X290.here hx rfl (hb hby at_230) rfl rfl k) ?_
        show own_Go p e below s _ _ _ (T290.setTop (mkF m 232 #[lI p0, lI p1, lI p2, lJ p3, lS, lI 0, lI 1, lI 1, lI v12, lJ v15, lS, lI v16, lI v17, lR b18, lR b20, lR b22, lI 0, lI 1, lI 2, lI 1, lI 44, lU, lU, lU, lU, lU] [(.ref b22)]))
        refine own_via (fun _ k => XS.iload X290.here hx rfl (hb hby at_232) rfl k) ?_
        show own_Go p e below s _ _ _ (T290.setTop (mkF m 234 #[lI p0, lI p1, lI p2, lJ p3, lS, lI 0, lI 1, lI 1, lI v12, lJ v15, lS, lI v16, lI v17, lR b18, lR b20, lR b22, lI 0, lI 1, lI 2, lI 1, lI 44, lU, lU, lU, lU, lU] [(.int (44 : Int32)), (.ref b22)]))
        refine own_via (fun _ k => XS.iload X290.here hx rfl (hb hby at_234) rfl k) ?_
        show own_Go p e below s _ _ _ (T290.setTop (mkF m 236 #[lI p0, lI p1, lI p2, lJ p3, lS, lI 0, lI 1, lI 1, lI v12, lJ v15, lS, lI v16, lI v17, lR b18, lR b20, lR b22, lI 0, lI 1, lI 2, lI 1, lI 44, lU, lU, lU, lU, lU] [(.int (2 : Int32)), (.int (44 : Int32)), (.ref b22)]))
        have F309 := ((F237.keep Kq264 (ninS (Ne.symm ne_b22_bc_42) (ninS F100 (ninS F101 nin0)))).keep Kq290 (ninS (Ne.symm ne_b22_bc_42) (ninS F98 (ninS F99 nin0))))
        have F310 := ((F238.keep Kq264 (ninS (Ne.symm ne_b22_bl_42) (ninS F115 (ninS F116 nin0)))).keep Kq290 (ninS (Ne.symm ne_b22_bl_42) (ninS F113 (ninS F114 nin0))))
        have F311 := (((((F78.keep Kq140 (ninS (Ne.symm ne_b22_bz_42) (ninS (Ne.symm F88) (ninS (Ne.symm F97) (ninS (Ne.symm F105) (ninS (Ne.symm F112) (ninS (Ne.symm F118) (ninS (Ne.symm F123) nin0)))))))).keep Kq173 (ninS (Ne.symm ne_b22_bz_42) (ninS (Ne.symm F88) (ninS (Ne.symm F97) (ninS (Ne.symm F105) (ninS (Ne.symm F112) (ninS (Ne.symm F118) (ninS (Ne.symm F123) nin0)))))))).keep Kq206 (ninS (Ne.symm ne_b22_bz_42) (ninS (Ne.symm F88) (ninS (Ne.symm F97) (ninS (Ne.symm F105) (ninS (Ne.symm F112) (ninS (Ne.symm F118) (ninS (Ne.symm F123) nin0)))))))).keep Kq264 (ninS (Ne.symm ne_b22_bz_42) (ninS F130 (ninS F131 nin0)))).keep Kq290 (ninS (Ne.symm ne_b22_bz_42) (ninS F128 (ninS F129 nin0))))
        obtain ⟨cq308, kq308, qa308, qb308, qc308⟩ := isOf hZ e290 F292
        obtain ⟨_, _, ⟨T308, L308, k308, n308⟩, -, X308, ⟨Lc308, hQ308, l308, y308, z308⟩, st308⟩ := X290.virtualBack hx (y := (⟨"com/example/trajectory/trajectory/search/Nodes", "keep", "(II)V"⟩ : MethodName)) (z := (⟨"com/example/trajectory/trajectory/search/Nodes", "keep", "(II)V"⟩ : MethodName)) hown (mvT hZ (hwi hw 113 rfl)) (mvT hZ (hwi hw 114 rfl)) (notFace_of_selects (args := #[]) (mvT hZ (hwi hw 116 rfl))) (mvT hZ (hwi hw 116 rfl)) (mvT hZ (hwi hw 115 rfl)) (by decide) (backOf (W := 0) (rmkB l Z a0 hw [] b22 (44 : Int32) (2 : Int32) v15 (own_inc (0 : Int64) (1 : Int32) v15) (1 : Int32) (1 : Int32) (1 : Int32) dq1 dq2 v17 (v17 - (1 : Int32)) bc_42 bl_42 bz_42 bk_42 bT_42 bf_42 br_42 kT_42 kk_42 kc_42 kl_42 kz_42 wT_290 [(.double dq0), (.double dq1), (.double dq2), (.double (0 : UInt64))] [(.int (0 : Int32)), (.int (1 : Int32)), (.int (1 : Int32)), (.int (0 : Int32))] h290 n0 Z290 F292 F293 F294 F295 F296 F297 F298 F299 F300 F301 F302 F303 F304 F305 F309 F310 F311 g_b22 g_bk_42 g_bT_42 g_bz_42 ne_b22_bk_42 ne_b22_bT_42 ne_b22_bz_42 F132 (Ne.symm F128) (Ne.symm F129) F112 rfl rfl F306 F307 rfl rfl rfl rfl (own_cm hv17) (by decide) hdq2.symm hdq1.symm) hZ (hwi hw 117 rfl) (hwi hw 4 rfl) (by decide) (by decide)) qa308 qc308 (g := (mkF m 236 #[lI p0, lI p1, lI p2, lJ p3, lS, lI 0, lI 1, lI 1, lI v12, lJ v15, lS, lI v16, lI v17, lR b18, lR b20, lR b22, lI 0, lI 1, lI 2, lI 1, lI 44, lU, lU, lU, lU, lU] [(.int (2 : Int32)), (.int (44 : Int32)), (.ref b22)])) rfl (by rw [hml]; rfl) (Steps.refl _) (argsL := [(.int (44 : Int32)), (.int (2 : Int32))]) (rest := []) (lenOf pd_13 rfl) rfl (by show 2 * 0 + _ ≤ _; exact Nat.le_of_eq rfl) (hb hby at_236) (fun _ _ => ⟨rfl, e290, (by decide : 14 + 0 ≤ _), (by decide : 789 + 0 ≤ _)⟩)
        dsimp only [Pt.U, Pt.locs, Pt.cells, Pt.slots] at X308 l308 y308 z308 st308 hQ308
        subst l308 y308 z308
        obtain ⟨h308, e308⟩ : ∃ h, T308.heap = h := ⟨_, rfl⟩
        rw [e308] at hQ308
        obtain ⟨rfl, N308q, Kq308, F312, F313, F314, F315, F316, F317, F318, F319, F320⟩ := hQ308
        have Z308 : n0 ≤ h308.size := Nat.le_trans Z290 Kq308.1
        have N308 := Fr.app N290 N308q
        refine own_viaT st308 ?_
        show own_Go p e below s _ _ _ (T308.setTop (mkF m 239 #[lI p0, lI p1, lI p2, lJ p3, lS, lI 0, lI 1, lI 1, lI v12, lJ v15, lS, lI v16, lI v17, lR b18, lR b20, lR b22, lI 0, lI 1, lI 2, lI 1, lI 44, lU, lU, lU, lU, lU] []))
        rcases (own_01 hv12) with rfl | rfl
        · show own_Go p e below s _ _ _ (T308.setTop (mkF m 239 #[lI p0, lI p1, lI p2, lJ p3, lS, lI 0, lI 1, lI 1, lI 0, lJ v15, lS, lI v16, lI v17, lR b18, lR b20, lR b22, lI 0, lI 1, lI 2, lI 1, lI 44, lU, lU, lU, lU, lU] []))
          refine own_via (fun _ k => XS.iload X308.here hx rfl (hb hby at_239) rfl k) ?_
          show own_Go p e below s _ _ _ (T308.setTop (mkF m 241 #[lI p0, lI p1, lI p2, lJ p3, lS, lI 0, lI 1, lI 1, lI 0, lJ v15, lS, lI v16, lI v17, lR b18, lR b20, lR b22, lI 0, lI 1, lI 2, lI 1, lI 44, lU, lU, lU, lU, lU] [(.int (0 : Int32))]))
          refine own_via (fun _ k => XS.ifYes X308.here hx rfl (pc0 := 241) (pc' := 258) rfl (hb hby at_241) rfl (Jvm.Free.XT.i0_eq_t (by decide)) (by decide) (by decide) k) ?_
          show own_Go p e below s _ _ _ (T308.setTop (mkF m 258 #[lI p0, lI p1, lI p2, lJ p3, lS, lI 0, lI 1, lI 1, lI 0, lJ v15, lS, lI v16, lI v17, lR b18, lR b20, lR b22, lI 0, lI 1, lI 2, lI 1, lI 44, lU, lU, lU, lU, lU] []))
          refine own_via (fun _ k => XS.iconst X308.here hx rfl (hb hby at_258) k) ?_
          show own_Go p e below s _ _ _ (T308.setTop (mkF m 259 #[lI p0, lI p1, lI p2, lJ p3, lS, lI 0, lI 1, lI 1, lI 0, lJ v15, lS, lI v16, lI v17, lR b18, lR b20, lR b22, lI 0, lI 1, lI 2, lI 1, lI 44, lU, lU, lU, lU, lU] [(.int (0 : Int32))]))
          refine own_via (fun _ k => XS.istore X308.here hx rfl (hb hby at_259) rfl (l' := #[lI p0, lI p1, lI p2, lJ p3, lS, lI 0, lI 1, lI 1, lI 0, lJ v15, lS, lI v16, lI v17, lR b18, lR b20, lR b22, lI 0, lI 1, lI 2, lI 1, lI 0, lU, lU, lU, lU, lU]) rfl k) ?_
          show own_Go p e below s _ _ _ (T308.setTop (mkF m 261 #[lI p0, lI p1, lI p2, lJ p3, lS, lI 0, lI 1, lI 1, lI 0, lJ v15, lS, lI v16, lI v17, lR b18, lR b20, lR b22, lI 0, lI 1, lI 2, lI 1, lI 0, lU, lU, lU, lU, lU] []))
          refine own_via (fun _ k => XS.iconst X308.here hx rfl (hb hby at_261) k) ?_
          show own_Go p e below s _ _ _ (T308.setTop (mkF m 262 #[lI p0, lI p1, lI p2, lJ p3, lS, lI 0, lI 1, lI 1, lI 0, lJ v15, lS, lI v16, lI v17, lR b18, lR b20, lR b22, lI 0, lI 1, lI 2, lI 1, lI 0, lU, lU, lU, lU, lU] [(.int (-1 : Int32))]))
          refine own_via (fun _ k => XS.istore X308.here hx rfl (hb hby at_262) rfl (l' := #[lI p0, lI p1, lI p2, lJ p3, lS, lI 0, lI 1, lI 1, lI 0, lJ v15, lS, lI v16, lI v17, lR b18, lR b20, lR b22, lI 0, lI 1, lI 2, lI 1, lI 0, lI (-1), lU, lU, lU, lU]) rfl k) ?_
          show own_Go p e below s _ _ _ (T308.setTop (mkF m 264 #[lI p0, lI p1, lI p2, lJ p3, lS, lI 0, lI 1, lI 1, lI 0, lJ v15, lS, lI v16, lI v17, lR b18, lR b20, lR b22, lI 0, lI 1, lI 2, lI 1, lI 0, lI (-1), lU, lU, lU, lU] []))
          refine own_via (fun _ k => XS.iload X308.here hx rfl (hb hby at_264) rfl k) ?_
          show own_Go p e below s _ _ _ (T308.setTop (mkF m 266 #[lI p0, lI p1, lI p2, lJ p3, lS, lI 0, lI 1, lI 1, lI 0, lJ v15, lS, lI v16, lI v17, lR b18, lR b20, lR b22, lI 0, lI 1, lI 2, lI 1, lI 0, lI (-1), lU, lU, lU, lU] [(.int (0 : Int32))]))
          refine own_via (fun _ k => XS.ifYes X308.here hx rfl (pc0 := 266) (pc' := 276) rfl (hb hby at_266) rfl (Jvm.Free.XT.i0_eq_t (by decide)) (by decide) (by decide) k) ?_
          show own_Go p e below s _ _ _ (T308.setTop (mkF m 276 #[lI p0, lI p1, lI p2, lJ p3, lS, lI 0, lI 1, lI 1, lI 0, lJ v15, lS, lI v16, lI v17, lR b18, lR b20, lR b22, lI 0, lI 1, lI 2, lI 1, lI 0, lI (-1), lU, lU, lU, lU] []))
          refine own_via (fun _ k => XS.iconst X308.here hx rfl (hb hby at_276) k) ?_
          show own_Go p e below s _ _ _ (T308.setTop (mkF m 277 #[lI p0, lI p1, lI p2, lJ p3, lS, lI 0, lI 1, lI 1, lI 0, lJ v15, lS, lI v16, lI v17, lR b18, lR b20, lR b22, lI 0, lI 1, lI 2, lI 1, lI 0, lI (-1), lU, lU, lU, lU] [(.int (-1 : Int32))]))
          refine own_via (fun _ k => XS.istore X308.here hx rfl (hb hby at_277) rfl (l' := #[lI p0, lI p1, lI p2, lJ p3, lS, lI 0, lI 1, lI 1, lI 0, lJ v15, lS, lI v16, lI v17, lR b18, lR b20, lR b22, lI 0, lI 1, lI 2, lI 1, lI 0, lI (-1), lI (-1), lU, lU, lU]) rfl k) ?_
          show own_Go p e below s _ _ _ (T308.setTop (mkF m 279 #[lI p0, lI p1, lI p2, lJ p3, lS, lI 0, lI 1, lI 1, lI 0, lJ v15, lS, lI v16, lI v17, lR b18, lR b20, lR b22, lI 0, lI 1, lI 2, lI 1, lI 0, lI (-1), lI (-1), lU, lU, lU] []))
          refine own_via (fun _ k => XS.iload X308.here hx rfl (hb hby at_279) rfl k) ?_
          show own_Go p e below s _ _ _ (T308.setTop (mkF m 281 #[lI p0, lI p1, lI p2, lJ p3, lS, lI 0, lI 1, lI 1, lI 0, lJ v15, lS, lI v16, lI v17, lR b18, lR b20, lR b22, lI 0, lI 1, lI 2, lI 1, lI 0, lI (-1), lI (-1), lU, lU, lU] [(.int (0 : Int32))]))
          refine own_via (fun _ k => XS.ifYes X308.here hx rfl (pc0 := 281) (pc' := 312) rfl (hb hby at_281) rfl (Jvm.Free.XT.i0_eq_t (by decide)) (by decide) (by decide) k) ?_
          show own_Go p e below s _ _ _ (T308.setTop (mkF m 312 #[lI p0, lI p1, lI p2, lJ p3, lS, lI 0, lI 1, lI 1, lI 0, lJ v15, lS, lI v16, lI v17, lR b18, lR b20, lR b22, lI 0, lI 1, lI 2, lI 1, lI 0, lI (-1), lI (-1), lU, lU, lU] []))
          exact jz (0 : Int32) (1 : Int32) (1 : Int32) (0 : Int32) (1 : Int32) (0 : Int32) (-1 : Int32) (-1 : Int32) (own_dec (own_inc (0 : Int64) (1 : Int32) v15) (1 : Int32) v15) _ _ _ X308 e308 N308 Z308 F312 F319 (rfl) (by rcases own_l3 v15 with ⟨a1, a2⟩ | ⟨a1, a2⟩ | ⟨a1, a2⟩ <;> simp only [own_exp, own_any, own_pol, own_inc, own_dec, own_w0, own_w1, a1, a2, if_true, if_false, reduceIte] <;> decide)
        · show own_Go p e below s _ _ _ (T308.setTop (mkF m 239 #[lI p0, lI p1, lI p2, lJ p3, lS, lI 0, lI 1, lI 1, lI 1, lJ v15, lS, lI v16, lI v17, lR b18, lR b20, lR b22, lI 0, lI 1, lI 2, lI 1, lI 44, lU, lU, lU, lU, lU] []))
          refine own_via (fun _ k => XS.iload X308.here hx rfl (hb hby at_239) rfl k) ?_
          show own_Go p e below s _ _ _ (T308.setTop (mkF m 241 #[lI p0, lI p1, lI p2, lJ p3, lS, lI 0, lI 1, lI 1, lI 1, lJ v15, lS, lI v16, lI v17, lR b18, lR b20, lR b22, lI 0, lI 1, lI 2, lI 1, lI 44, lU, lU, lU, lU, lU] [(.int (1 : Int32))]))
          refine own_via (fun _ k => XS.ifNo X308.here hx rfl (hb hby at_241) rfl (Jvm.Free.XT.i0_eq_f (by decide)) k) ?_
          show own_Go p e below s _ _ _ (T308.setTop (mkF m 244 #[lI p0, lI p1, lI p2, lJ p3, lS, lI 0, lI 1, lI 1, lI 1, lJ v15, lS, lI v16, lI v17, lR b18, lR b20, lR b22, lI 0, lI 1, lI 2, lI 1, lI 44, lU, lU, lU, lU, lU] []))
          refine own_via (fun _ k => XS.iload X308.here hx rfl (hb hby at_244) rfl k) ?_
          show own_Go p e below s _ _ _ (T308.setTop (mkF m 246 #[lI p0, lI p1, lI p2, lJ p3, lS, lI 0, lI 1, lI 1, lI 1, lJ v15, lS, lI v16, lI v17, lR b18, lR b20, lR b22, lI 0, lI 1, lI 2, lI 1, lI 44, lU, lU, lU, lU, lU] [(.int (0 : Int32))]))
          refine own_via (fun _ k => XS.ifNo X308.here hx rfl (hb hby at_246) rfl (Jvm.Free.XT.i0_ne_f (by decide)) k) ?_
          show own_Go p e below s _ _ _ (T308.setTop (mkF m 249 #[lI p0, lI p1, lI p2, lJ p3, lS, lI 0, lI 1, lI 1, lI 1, lJ v15, lS, lI v16, lI v17, lR b18, lR b20, lR b22, lI 0, lI 1, lI 2, lI 1, lI 44, lU, lU, lU, lU, lU] []))
          refine own_via (fun _ k => XS.iload X308.here hx rfl (hb hby at_249) rfl k) ?_
          show own_Go p e below s _ _ _ (T308.setTop (mkF m 251 #[lI p0, lI p1, lI p2, lJ p3, lS, lI 0, lI 1, lI 1, lI 1, lJ v15, lS, lI v16, lI v17, lR b18, lR b20, lR b22, lI 0, lI 1, lI 2, lI 1, lI 44, lU, lU, lU, lU, lU] [(.int (1 : Int32))]))
          refine own_via (fun _ k => XS.ifNo X308.here hx rfl (hb hby at_251) rfl (Jvm.Free.XT.i0_eq_f (by decide)) k) ?_
          show own_Go p e below s _ _ _ (T308.setTop (mkF m 254 #[lI p0, lI p1, lI p2, lJ p3, lS, lI 0, lI 1, lI 1, lI 1, lJ v15, lS, lI v16, lI v17, lR b18, lR b20, lR b22, lI 0, lI 1, lI 2, lI 1, lI 44, lU, lU, lU, lU, lU] []))
          refine own_via (fun _ k => XS.iconst X308.here hx rfl (hb hby at_254) k) ?_
          show own_Go p e below s _ _ _ (T308.setTop (mkF m 255 #[lI p0, lI p1, lI p2, lJ p3, lS, lI 0, lI 1, lI 1, lI 1, lJ v15, lS, lI v16, lI v17, lR b18, lR b20, lR b22, lI 0, lI 1, lI 2, lI 1, lI 44, lU, lU, lU, lU, lU] [(.int (1 : Int32))]))
          refine own_via (fun _ k => XS.goto X308.here hx rfl (pc0 := 255) (pc' := 259) rfl (hb hby at_255) (by decide) (by decide) k) ?_
          show own_Go p e below s _ _ _ (T308.setTop (mkF m 259 #[lI p0, lI p1, lI p2, lJ p3, lS, lI 0, lI 1, lI 1, lI 1, lJ v15, lS, lI v16, lI v17, lR b18, lR b20, lR b22, lI 0, lI 1, lI 2, lI 1, lI 44, lU, lU, lU, lU, lU] [(.int (1 : Int32))]))
          refine own_via (fun _ k => XS.istore X308.here hx rfl (hb hby at_259) rfl (l' := #[lI p0, lI p1, lI p2, lJ p3, lS, lI 0, lI 1, lI 1, lI 1, lJ v15, lS, lI v16, lI v17, lR b18, lR b20, lR b22, lI 0, lI 1, lI 2, lI 1, lI 1, lU, lU, lU, lU, lU]) rfl k) ?_
          show own_Go p e below s _ _ _ (T308.setTop (mkF m 261 #[lI p0, lI p1, lI p2, lJ p3, lS, lI 0, lI 1, lI 1, lI 1, lJ v15, lS, lI v16, lI v17, lR b18, lR b20, lR b22, lI 0, lI 1, lI 2, lI 1, lI 1, lU, lU, lU, lU, lU] []))
          refine own_via (fun _ k => XS.iconst X308.here hx rfl (hb hby at_261) k) ?_
          show own_Go p e below s _ _ _ (T308.setTop (mkF m 262 #[lI p0, lI p1, lI p2, lJ p3, lS, lI 0, lI 1, lI 1, lI 1, lJ v15, lS, lI v16, lI v17, lR b18, lR b20, lR b22, lI 0, lI 1, lI 2, lI 1, lI 1, lU, lU, lU, lU, lU] [(.int (-1 : Int32))]))
          refine own_via (fun _ k => XS.istore X308.here hx rfl (hb hby at_262) rfl (l' := #[lI p0, lI p1, lI p2, lJ p3, lS, lI 0, lI 1, lI 1, lI 1, lJ v15, lS, lI v16, lI v17, lR b18, lR b20, lR b22, lI 0, lI 1, lI 2, lI 1, lI 1, lI (-1), lU, lU, lU, lU]) rfl k) ?_
          show own_Go p e below s _ _ _ (T308.setTop (mkF m 264 #[lI p0, lI p1, lI p2, lJ p3, lS, lI 0, lI 1, lI 1, lI 1, lJ v15, lS, lI v16, lI v17, lR b18, lR b20, lR b22, lI 0, lI 1, lI 2, lI 1, lI 1, lI (-1), lU, lU, lU, lU] []))
          refine own_via (fun _ k => XS.iload X308.here hx rfl (hb hby at_264) rfl k) ?_
          show own_Go p e below s _ _ _ (T308.setTop (mkF m 266 #[lI p0, lI p1, lI p2, lJ p3, lS, lI 0, lI 1, lI 1, lI 1, lJ v15, lS, lI v16, lI v17, lR b18, lR b20, lR b22, lI 0, lI 1, lI 2, lI 1, lI 1, lI (-1), lU, lU, lU, lU] [(.int (1 : Int32))]))
          refine own_via (fun _ k => XS.ifNo X308.here hx rfl (hb hby at_266) rfl (Jvm.Free.XT.i0_eq_f (by decide)) k) ?_
          show own_Go p e below s _ _ _ (T308.setTop (mkF m 269 #[lI p0, lI p1, lI p2, lJ p3, lS, lI 0, lI 1, lI 1, lI 1, lJ v15, lS, lI v16, lI v17, lR b18, lR b20, lR b22, lI 0, lI 1, lI 2, lI 1, lI 1, lI (-1), lU, lU, lU, lU] []))
          refine own_via (fun _ k => XS.aload X308.here hx rfl (hb hby at_269) rfl rfl k) ?_
          show own_Go p e below s _ _ _ (T308.setTop (mkF m 271 #[lI p0, lI p1, lI p2, lJ p3, lS, lI 0, lI 1, lI 1, lI 1, lJ v15, lS, lI v16, lI v17, lR b18, lR b20, lR b22, lI 0, lI 1, lI 2, lI 1, lI 1, lI (-1), lU, lU, lU, lU] [(.ref b22)]))
          have F322 := (F310.keep Kq308 (ninS (Ne.symm ne_b22_bl_42) (ninS F113 (ninS F114 (ninS F112 nin0)))))
          have F323 := ((F280.keep Kq290 (ninS (Ne.symm ne_b22_bf_42) (ninS (Ne.symm F133) (ninS (Ne.symm F135) nin0)))).keep Kq308 (ninS (Ne.symm ne_b22_bf_42) (ninS (Ne.symm F133) (ninS (Ne.symm F135) (ninS (Ne.symm F130) nin0)))))
          have F324 := ((F281.keep Kq290 (ninS (Ne.symm ne_b22_br_42) (ninS (Ne.symm F134) (ninS (Ne.symm F136) nin0)))).keep Kq308 (ninS (Ne.symm ne_b22_br_42) (ninS (Ne.symm F134) (ninS (Ne.symm F136) (ninS (Ne.symm F131) nin0)))))
          obtain ⟨cq321, kq321, qa321, qb321, qc321⟩ := isOf hZ e308 F312
          obtain ⟨_, _, ⟨T321, L321, k321, n321⟩, -, X321, ⟨Lc321, hQ321, l321, y321, z321⟩, st321⟩ := X308.virtualBack hx (y := (⟨"com/example/trajectory/trajectory/search/Nodes", "poll", "()I"⟩ : MethodName)) (z := (⟨"com/example/trajectory/trajectory/search/Nodes", "poll", "()I"⟩ : MethodName)) hown (mvT hZ (hwi hw 98 rfl)) (mvT hZ (hwi hw 99 rfl)) (notFace_of_selects (args := #[]) (mvT hZ (hwi hw 101 rfl))) (mvT hZ (hwi hw 101 rfl)) (mvT hZ (hwi hw 100 rfl)) (by decide) (backOf (W := 0) (rmpo1 l Z a0 hw [] b22 v15 (own_dec (own_inc (0 : Int64) (1 : Int32) v15) (1 : Int32) v15) (1 : Int32) (1 : Int32) (1 : Int32) dq1 (0 : UInt64) (own_rk (1 : Int32) (1 : Int32)) (0 : Int64) bl_42 bz_42 bf_42 br_42 kl_42 kz_42 kf_42 kr_42 [(.int (0 : Int32)), (.int (1 : Int32)), (.int (1 : Int32)), (.int (0 : Int32))] [(.int (0 : Int32)), (.int (1 : Int32)), (.int (0 : Int32)), (.int (0 : Int32))] h308 n0 Z308 F312 F313 F314 F315 F316 F317 F318 F319 F322 F320 F323 F324 g_b22 g_bf_42 g_br_42 ne_b22_bf_42 ne_b22_br_42 F137 (by decide) ⟨by decide, by decide⟩ rfl rfl) hZ (hwi hw 102 rfl) (hwi hw 4 rfl) (by decide) (by decide)) qa321 qc321 (g := (mkF m 271 #[lI p0, lI p1, lI p2, lJ p3, lS, lI 0, lI 1, lI 1, lI 1, lJ v15, lS, lI v16, lI v17, lR b18, lR b20, lR b22, lI 0, lI 1, lI 2, lI 1, lI 1, lI (-1), lU, lU, lU, lU] [(.ref b22)])) rfl (by rw [hml]; rfl) (Steps.refl _) (argsL := []) (rest := []) (lenOf pd_11 rfl) rfl (by show 2 * 0 + _ ≤ _; exact Nat.le_of_eq rfl) (hb hby at_271) (fun _ _ => ⟨rfl, e308, (by decide : 14 + 0 ≤ _), (by decide : 789 + 0 ≤ _)⟩)
          dsimp only [Pt.U, Pt.locs, Pt.cells, Pt.slots] at X321 l321 y321 z321 st321 hQ321
          subst l321 y321 z321
          obtain ⟨h321, e321⟩ : ∃ h, T321.heap = h := ⟨_, rfl⟩
          rw [e321] at hQ321
          obtain ⟨rfl, N321q, Kq321, F325, F326⟩ := hQ321
          have Z321 : n0 ≤ h321.size := Nat.le_trans Z308 Kq321.1
          have N321 := Fr.app N308 N321q
          refine own_viaT st321 ?_
          show own_Go p e below s _ _ _ (T321.setTop (mkF m 274 #[lI p0, lI p1, lI p2, lJ p3, lS, lI 0, lI 1, lI 1, lI 1, lJ v15, lS, lI v16, lI v17, lR b18, lR b20, lR b22, lI 0, lI 1, lI 2, lI 1, lI 1, lI (-1), lU, lU, lU, lU] [(.int (1 : Int32))]))
          refine own_via (fun _ k => XS.istore X321.here hx rfl (hb hby at_274) rfl (l' := #[lI p0, lI p1, lI p2, lJ p3, lS, lI 0, lI 1, lI 1, lI 1, lJ v15, lS, lI v16, lI v17, lR b18, lR b20, lR b22, lI 0, lI 1, lI 2, lI 1, lI 1, lI 1, lU, lU, lU, lU]) rfl k) ?_
          show own_Go p e below s _ _ _ (T321.setTop (mkF m 276 #[lI p0, lI p1, lI p2, lJ p3, lS, lI 0, lI 1, lI 1, lI 1, lJ v15, lS, lI v16, lI v17, lR b18, lR b20, lR b22, lI 0, lI 1, lI 2, lI 1, lI 1, lI 1, lU, lU, lU, lU] []))
          refine own_via (fun _ k => XS.iconst X321.here hx rfl (hb hby at_276) k) ?_
          show own_Go p e below s _ _ _ (T321.setTop (mkF m 277 #[lI p0, lI p1, lI p2, lJ p3, lS, lI 0, lI 1, lI 1, lI 1, lJ v15, lS, lI v16, lI v17, lR b18, lR b20, lR b22, lI 0, lI 1, lI 2, lI 1, lI 1, lI 1, lU, lU, lU, lU] [(.int (-1 : Int32))]))
          refine own_via (fun _ k => XS.istore X321.here hx rfl (hb hby at_277) rfl (l' := #[lI p0, lI p1, lI p2, lJ p3, lS, lI 0, lI 1, lI 1, lI 1, lJ v15, lS, lI v16, lI v17, lR b18, lR b20, lR b22, lI 0, lI 1, lI 2, lI 1, lI 1, lI 1, lI (-1), lU, lU, lU]) rfl k) ?_
          show own_Go p e below s _ _ _ (T321.setTop (mkF m 279 #[lI p0, lI p1, lI p2, lJ p3, lS, lI 0, lI 1, lI 1, lI 1, lJ v15, lS, lI v16, lI v17, lR b18, lR b20, lR b22, lI 0, lI 1, lI 2, lI 1, lI 1, lI 1, lI (-1), lU, lU, lU] []))
          refine own_via (fun _ k => XS.iload X321.here hx rfl (hb hby at_279) rfl k) ?_
          show own_Go p e below s _ _ _ (T321.setTop (mkF m 281 #[lI p0, lI p1, lI p2, lJ p3, lS, lI 0, lI 1, lI 1, lI 1, lJ v15, lS, lI v16, lI v17, lR b18, lR b20, lR b22, lI 0, lI 1, lI 2, lI 1, lI 1, lI 1, lI (-1), lU, lU, lU] [(.int (1 : Int32))]))
          refine own_via (fun _ k => XS.ifNo X321.here hx rfl (hb hby at_281) rfl (Jvm.Free.XT.i0_eq_f (by decide)) k) ?_
          show own_Go p e below s _ _ _ (T321.setTop (mkF m 284 #[lI p0, lI p1, lI p2, lJ p3, lS, lI 0, lI 1, lI 1, lI 1, lJ v15, lS, lI v16, lI v17, lR b18, lR b20, lR b22, lI 0, lI 1, lI 2, lI 1, lI 1, lI 1, lI (-1), lU, lU, lU] []))
          refine own_via (fun _ k => XS.iload X321.here hx rfl (hb hby at_284) rfl k) ?_
          show own_Go p e below s _ _ _ (T321.setTop (mkF m 286 #[lI p0, lI p1, lI p2, lJ p3, lS, lI 0, lI 1, lI 1, lI 1, lJ v15, lS, lI v16, lI v17, lR b18, lR b20, lR b22, lI 0, lI 1, lI 2, lI 1, lI 1, lI 1, lI (-1), lU, lU, lU] [(.int (0 : Int32))]))
          refine own_via (fun _ k => XS.ifYes X321.here hx rfl (pc0 := 286) (pc' := 308) rfl (hb hby at_286) rfl (Jvm.Free.XT.i0_eq_t (by decide)) (by decide) (by decide) k) ?_
          show own_Go p e below s _ _ _ (T321.setTop (mkF m 308 #[lI p0, lI p1, lI p2, lJ p3, lS, lI 0, lI 1, lI 1, lI 1, lJ v15, lS, lI v16, lI v17, lR b18, lR b20, lR b22, lI 0, lI 1, lI 2, lI 1, lI 1, lI 1, lI (-1), lU, lU, lU] []))
          refine own_via (fun _ k => XS.iload X321.here hx rfl (hb hby at_308) rfl k) ?_
          show own_Go p e below s _ _ _ (T321.setTop (mkF m 310 #[lI p0, lI p1, lI p2, lJ p3, lS, lI 0, lI 1, lI 1, lI 1, lJ v15, lS, lI v16, lI v17, lR b18, lR b20, lR b22, lI 0, lI 1, lI 2, lI 1, lI 1, lI 1, lI (-1), lU, lU, lU] [(.int (1 : Int32))]))
          refine own_via (fun _ k => XS.istore X321.here hx rfl (hb hby at_310) rfl (l' := #[lI p0, lI p1, lI p2, lJ p3, lS, lI 0, lI 1, lI 1, lI 1, lJ v15, lS, lI v16, lI v17, lR b18, lR b20, lR b22, lI 0, lI 1, lI 2, lI 1, lI 1, lI 1, lI 1, lU, lU, lU]) rfl k) ?_
          show own_Go p e below s _ _ _ (T321.setTop (mkF m 312 #[lI p0, lI p1, lI p2, lJ p3, lS, lI 0, lI 1, lI 1, lI 1, lJ v15, lS, lI v16, lI v17, lR b18, lR b20, lR b22, lI 0, lI 1, lI 2, lI 1, lI 1, lI 1, lI 1, lU, lU, lU] []))
          exact jz (0 : Int32) (1 : Int32) (1 : Int32) (1 : Int32) (1 : Int32) (1 : Int32) (1 : Int32) (1 : Int32) (own_pol (own_dec (own_inc (0 : Int64) (1 : Int32) v15) (1 : Int32) v15) (1 : Int32) (1 : Int32) v15) _ _ _ X321 e321 N321 Z321 F325 F326 (rfl) (by rcases own_l3 v15 with ⟨a1, a2⟩ | ⟨a1, a2⟩ | ⟨a1, a2⟩ <;> simp only [own_exp, own_any, own_pol, own_inc, own_dec, own_w0, own_w1, a1, a2, if_true, if_false, reduceIte] <;> decide)
  · show own_Go p e below s _ _ _ (T206.setTop (mkF m 166 #[lI p0, lI p1, lI p2, lJ p3, lS, lI 1, lI v6, lI v9, lI v12, lJ v15, lS, lI v16, lI v17, lR b18, lR b20, lR b22, lI 0, lI 1, lI 2, lU, lU, lU, lU, lU, lU, lU] []))
    refine own_via (fun _ k => XS.iload X206.here hx rfl (hb hby at_166) rfl k) ?_
    show own_Go p e below s _ _ _ (T206.setTop (mkF m 168 #[lI p0, lI p1, lI p2, lJ p3, lS, lI 1, lI v6, lI v9, lI v12, lJ v15, lS, lI v16, lI v17, lR b18, lR b20, lR b22, lI 0, lI 1, lI 2, lU, lU, lU, lU, lU, lU, lU] [(.int (1 : Int32))]))
    refine own_via (fun _ k => XS.ifNo X206.here hx rfl (hb hby at_168) rfl (Jvm.Free.XT.i0_eq_f (by decide)) k) ?_
    show own_Go p e below s _ _ _ (T206.setTop (mkF m 171 #[lI p0, lI p1, lI p2, lJ p3, lS, lI 1, lI v6, lI v9, lI v12, lJ v15, lS, lI v16, lI v17, lR b18, lR b20, lR b22, lI 0, lI 1, lI 2, lU, lU, lU, lU, lU, lU, lU] []))
    refine own_via (fun _ k => XS.aload X206.here hx rfl (hb hby at_171) rfl rfl k) ?_
    show own_Go p e below s _ _ _ (T206.setTop (mkF m 173 #[lI p0, lI p1, lI p2, lJ p3, lS, lI 1, lI v6, lI v9, lI v12, lJ v15, lS, lI v16, lI v17, lR b18, lR b20, lR b22, lI 0, lI 1, lI 2, lU, lU, lU, lU, lU, lU, lU] [(.ref b22)]))
    refine own_via (fun _ k => XS.iload X206.here hx rfl (hb hby at_173) rfl k) ?_
    show own_Go p e below s _ _ _ (T206.setTop (mkF m 175 #[lI p0, lI p1, lI p2, lJ p3, lS, lI 1, lI v6, lI v9, lI v12, lJ v15, lS, lI v16, lI v17, lR b18, lR b20, lR b22, lI 0, lI 1, lI 2, lU, lU, lU, lU, lU, lU, lU] [(.int (0 : Int32)), (.ref b22)]))
    have F328 := (((F81.keep Kq140 (ninS (Ne.symm ne_b22_bf_42) (ninS (Ne.symm F91) (ninS (Ne.symm F100) (ninS (Ne.symm F108) (ninS (Ne.symm F115) (ninS (Ne.symm F121) (ninS (Ne.symm F126) nin0)))))))).keep Kq173 (ninS (Ne.symm ne_b22_bf_42) (ninS (Ne.symm F91) (ninS (Ne.symm F100) (ninS (Ne.symm F108) (ninS (Ne.symm F115) (ninS (Ne.symm F121) (ninS (Ne.symm F126) nin0)))))))).keep Kq206 (ninS (Ne.symm ne_b22_bf_42) (ninS (Ne.symm F91) (ninS (Ne.symm F100) (ninS (Ne.symm F108) (ninS (Ne.symm F115) (ninS (Ne.symm F121) (ninS (Ne.symm F126) nin0))))))))
    have F329 := (((F82.keep Kq140 (ninS (Ne.symm ne_b22_br_42) (ninS (Ne.symm F92) (ninS (Ne.symm F101) (ninS (Ne.symm F109) (ninS (Ne.symm F116) (ninS (Ne.symm F122) (ninS (Ne.symm F127) nin0)))))))).keep Kq173 (ninS (Ne.symm ne_b22_br_42) (ninS (Ne.symm F92) (ninS (Ne.symm F101) (ninS (Ne.symm F109) (ninS (Ne.symm F116) (ninS (Ne.symm F122) (ninS (Ne.symm F127) nin0)))))))).keep Kq206 (ninS (Ne.symm ne_b22_br_42) (ninS (Ne.symm F92) (ninS (Ne.symm F101) (ninS (Ne.symm F109) (ninS (Ne.symm F116) (ninS (Ne.symm F122) (ninS (Ne.symm F127) nin0))))))))
    obtain ⟨cq327, kq327, qa327, qb327, qc327⟩ := isOf hZ e206 F208
    obtain ⟨_, _, ⟨T327, L327, k327, n327⟩, -, X327, ⟨Lc327, hQ327, l327, y327, z327⟩, st327⟩ := X206.virtualBack hx (y := (⟨"com/example/trajectory/trajectory/search/Nodes", "queue", "(I)V"⟩ : MethodName)) (z := (⟨"com/example/trajectory/trajectory/search/Nodes", "queue", "(I)V"⟩ : MethodName)) hown (mvT hZ (hwi hw 83 rfl)) (mvT hZ (hwi hw 84 rfl)) (notFace_of_selects (args := #[]) (mvT hZ (hwi hw 86 rfl))) (mvT hZ (hwi hw 86 rfl)) (mvT hZ (hwi hw 85 rfl)) (by decide) (backOf (W := 0) (rmq0 l Z a0 hw [] b22 (0 : Int32) v15 (0 : Int64) (0 : Int32) bc_42 bl_42 bz_42 bk_42 bT_42 bf_42 br_42 kc_42 kl_42 kf_42 kr_42 [(.double dq0), (.double dq1), (.double dq2), (.double (0 : UInt64))] [(.int (0 : Int32)), (.int (1 : Int32)), (.int (1 : Int32)), (.int (0 : Int32))] dq0 h206 n0 Z206 F208 F209 F210 F213 F215 F218 F219 F220 F221 F222 F223 F224 F225 F237 F238 F328 F329 g_b22 g_bf_42 g_br_42 ne_b22_bf_42 ne_b22_br_42 ne_b22_bl_42 F137 F115 F116 ⟨by decide, by decide⟩ rfl rfl) hZ (hwi hw 87 rfl) (hwi hw 4 rfl) (by decide) (by decide)) qa327 qc327 (g := (mkF m 175 #[lI p0, lI p1, lI p2, lJ p3, lS, lI 1, lI v6, lI v9, lI v12, lJ v15, lS, lI v16, lI v17, lR b18, lR b20, lR b22, lI 0, lI 1, lI 2, lU, lU, lU, lU, lU, lU, lU] [(.int (0 : Int32)), (.ref b22)])) rfl (by rw [hml]; rfl) (Steps.refl _) (argsL := [(.int (0 : Int32))]) (rest := []) (lenOf pd_7 rfl) rfl (by show 2 * 0 + _ ≤ _; exact Nat.le_of_eq rfl) (hb hby at_175) (fun _ _ => ⟨rfl, e206, (by decide : 14 + 0 ≤ _), (by decide : 789 + 0 ≤ _)⟩)
    dsimp only [Pt.U, Pt.locs, Pt.cells, Pt.slots] at X327 l327 y327 z327 st327 hQ327
    subst l327 y327 z327
    obtain ⟨h327, e327⟩ : ∃ h, T327.heap = h := ⟨_, rfl⟩
    rw [e327] at hQ327
    obtain ⟨rfl, N327q, Kq327, F330, F331, F332, F333, F334, F335, F336, F337, F338, F339, F340, F341, F342, F343, F344⟩ := hQ327
    have Z327 : n0 ≤ h327.size := Nat.le_trans Z206 Kq327.1
    have N327 := Fr.app N206 N327q
    refine own_viaT st327 ?_
    show own_Go p e below s _ _ _ (T327.setTop (mkF m 178 #[lI p0, lI p1, lI p2, lJ p3, lS, lI 1, lI v6, lI v9, lI v12, lJ v15, lS, lI v16, lI v17, lR b18, lR b20, lR b22, lI 0, lI 1, lI 2, lU, lU, lU, lU, lU, lU, lU] []))
    rcases (own_01 hv6) with rfl | rfl
    · show own_Go p e below s _ _ _ (T327.setTop (mkF m 178 #[lI p0, lI p1, lI p2, lJ p3, lS, lI 1, lI 0, lI v9, lI v12, lJ v15, lS, lI v16, lI v17, lR b18, lR b20, lR b22, lI 0, lI 1, lI 2, lU, lU, lU, lU, lU, lU, lU] []))
      refine own_via (fun _ k => XS.iload X327.here hx rfl (hb hby at_178) rfl k) ?_
      show own_Go p e below s _ _ _ (T327.setTop (mkF m 180 #[lI p0, lI p1, lI p2, lJ p3, lS, lI 1, lI 0, lI v9, lI v12, lJ v15, lS, lI v16, lI v17, lR b18, lR b20, lR b22, lI 0, lI 1, lI 2, lU, lU, lU, lU, lU, lU, lU] [(.int (0 : Int32))]))
      refine own_via (fun _ k => XS.ifYes X327.here hx rfl (pc0 := 180) (pc' := 190) rfl (hb hby at_180) rfl (Jvm.Free.XT.i0_eq_t (by decide)) (by decide) (by decide) k) ?_
      show own_Go p e below s _ _ _ (T327.setTop (mkF m 190 #[lI p0, lI p1, lI p2, lJ p3, lS, lI 1, lI 0, lI v9, lI v12, lJ v15, lS, lI v16, lI v17, lR b18, lR b20, lR b22, lI 0, lI 1, lI 2, lU, lU, lU, lU, lU, lU, lU] []))
      have st345 : ∀ t, Steps p.tables e below (T327.setTop (mkF m 205 #[lI p0, lI p1, lI p2, lJ p3, lS, lI 1, lI 0, lI v9, lI v12, lJ v15, lS, lI v16, lI v17, lR b18, lR b20, lR b22, lI 0, lI 1, lI 2, lU, lU, lU, lU, lU, lU, lU] [(.int (0 : Int32))])) t → Steps p.tables e below (T327.setTop (mkF m 190 #[lI p0, lI p1, lI p2, lJ p3, lS, lI 1, lI 0, lI v9, lI v12, lJ v15, lS, lI v16, lI v17, lR b18, lR b20, lR b22, lI 0, lI 1, lI 2, lU, lU, lU, lU, lU, lU, lU] [])) t := by
        intro t k
        refine XS.iload X327.here hx rfl (hb hby at_190) rfl ?_
        show Steps p.tables e below (T327.setTop (mkF m 192 #[lI p0, lI p1, lI p2, lJ p3, lS, lI 1, lI 0, lI v9, lI v12, lJ v15, lS, lI v16, lI v17, lR b18, lR b20, lR b22, lI 0, lI 1, lI 2, lU, lU, lU, lU, lU, lU, lU] [(.int v9)])) t
        by_cases hq346 : v9 = (0 : Int32)
        · refine XS.ifYes X327.here hx rfl (pc0 := 192) (pc' := 204) rfl (hb hby at_192) rfl (Jvm.Free.XT.i0_eq_t hq346) (by decide) (by decide) ?_
          show Steps p.tables e below (T327.setTop (mkF m 204 #[lI p0, lI p1, lI p2, lJ p3, lS, lI 1, lI 0, lI v9, lI v12, lJ v15, lS, lI v16, lI v17, lR b18, lR b20, lR b22, lI 0, lI 1, lI 2, lU, lU, lU, lU, lU, lU, lU] [])) t
          refine XS.iconst X327.here hx rfl (hb hby at_204) ?_
          show Steps p.tables e below (T327.setTop (mkF m 205 #[lI p0, lI p1, lI p2, lJ p3, lS, lI 1, lI 0, lI v9, lI v12, lJ v15, lS, lI v16, lI v17, lR b18, lR b20, lR b22, lI 0, lI 1, lI 2, lU, lU, lU, lU, lU, lU, lU] [(.int (0 : Int32))])) t
          try simp only [if_pos hq346] at k
          exact k
        · refine XS.ifNo X327.here hx rfl (hb hby at_192) rfl (Jvm.Free.XT.i0_eq_f hq346) ?_
          show Steps p.tables e below (T327.setTop (mkF m 195 #[lI p0, lI p1, lI p2, lJ p3, lS, lI 1, lI 0, lI v9, lI v12, lJ v15, lS, lI v16, lI v17, lR b18, lR b20, lR b22, lI 0, lI 1, lI 2, lU, lU, lU, lU, lU, lU, lU] [])) t
          refine XS.iload X327.here hx rfl (hb hby at_195) rfl ?_
          show Steps p.tables e below (T327.setTop (mkF m 197 #[lI p0, lI p1, lI p2, lJ p3, lS, lI 1, lI 0, lI v9, lI v12, lJ v15, lS, lI v16, lI v17, lR b18, lR b20, lR b22, lI 0, lI 1, lI 2, lU, lU, lU, lU, lU, lU, lU] [(.int (0 : Int32))])) t
          refine XS.ifYes X327.here hx rfl (pc0 := 197) (pc' := 204) rfl (hb hby at_197) rfl (Jvm.Free.XT.i0_eq_t (by decide)) (by decide) (by decide) ?_
          show Steps p.tables e below (T327.setTop (mkF m 204 #[lI p0, lI p1, lI p2, lJ p3, lS, lI 1, lI 0, lI v9, lI v12, lJ v15, lS, lI v16, lI v17, lR b18, lR b20, lR b22, lI 0, lI 1, lI 2, lU, lU, lU, lU, lU, lU, lU] [])) t
          refine XS.iconst X327.here hx rfl (hb hby at_204) ?_
          show Steps p.tables e below (T327.setTop (mkF m 205 #[lI p0, lI p1, lI p2, lJ p3, lS, lI 1, lI 0, lI v9, lI v12, lJ v15, lS, lI v16, lI v17, lR b18, lR b20, lR b22, lI 0, lI 1, lI 2, lU, lU, lU, lU, lU, lU, lU] [(.int (0 : Int32))])) t
          try simp only [if_neg hq346] at k
          exact k
      refine own_via st345 ?_
      show own_Go p e below s _ _ _ (T327.setTop (mkF m 205 #[lI p0, lI p1, lI p2, lJ p3, lS, lI 1, lI 0, lI v9, lI v12, lJ v15, lS, lI v16, lI v17, lR b18, lR b20, lR b22, lI 0, lI 1, lI 2, lU, lU, lU, lU, lU, lU, lU] [(.int (0 : Int32))]))
      refine own_via (fun _ k => XS.istore X327.here hx rfl (hb hby at_205) rfl (l' := #[lI p0, lI p1, lI p2, lJ p3, lS, lI 1, lI 0, lI v9, lI v12, lJ v15, lS, lI v16, lI v17, lR b18, lR b20, lR b22, lI 0, lI 1, lI 2, lI 0, lU, lU, lU, lU, lU, lU]) rfl k) ?_
      show own_Go p e below s _ _ _ (T327.setTop (mkF m 207 #[lI p0, lI p1, lI p2, lJ p3, lS, lI 1, lI 0, lI v9, lI v12, lJ v15, lS, lI v16, lI v17, lR b18, lR b20, lR b22, lI 0, lI 1, lI 2, lI 0, lU, lU, lU, lU, lU, lU] []))
      refine own_via (fun _ k => XS.iload X327.here hx rfl (hb hby at_207) rfl k) ?_
      show own_Go p e below s _ _ _ (T327.setTop (mkF m 209 #[lI p0, lI p1, lI p2, lJ p3, lS, lI 1, lI 0, lI v9, lI v12, lJ v15, lS, lI v16, lI v17, lR b18, lR b20, lR b22, lI 0, lI 1, lI 2, lI 0, lU, lU, lU, lU, lU, lU] [(.int (0 : Int32))]))
      refine own_via (fun _ k => XS.ifYes X327.here hx rfl (pc0 := 209) (pc' := 239) rfl (hb hby at_209) rfl (Jvm.Free.XT.i0_eq_t (by decide)) (by decide) (by decide) k) ?_
      show own_Go p e below s _ _ _ (T327.setTop (mkF m 239 #[lI p0, lI p1, lI p2, lJ p3, lS, lI 1, lI 0, lI v9, lI v12, lJ v15, lS, lI v16, lI v17, lR b18, lR b20, lR b22, lI 0, lI 1, lI 2, lI 0, lU, lU, lU, lU, lU, lU] []))
      rcases (own_01 hv12) with rfl | rfl
      · show own_Go p e below s _ _ _ (T327.setTop (mkF m 239 #[lI p0, lI p1, lI p2, lJ p3, lS, lI 1, lI 0, lI v9, lI 0, lJ v15, lS, lI v16, lI v17, lR b18, lR b20, lR b22, lI 0, lI 1, lI 2, lI 0, lU, lU, lU, lU, lU, lU] []))
        refine own_via (fun _ k => XS.iload X327.here hx rfl (hb hby at_239) rfl k) ?_
        show own_Go p e below s _ _ _ (T327.setTop (mkF m 241 #[lI p0, lI p1, lI p2, lJ p3, lS, lI 1, lI 0, lI v9, lI 0, lJ v15, lS, lI v16, lI v17, lR b18, lR b20, lR b22, lI 0, lI 1, lI 2, lI 0, lU, lU, lU, lU, lU, lU] [(.int (0 : Int32))]))
        refine own_via (fun _ k => XS.ifYes X327.here hx rfl (pc0 := 241) (pc' := 258) rfl (hb hby at_241) rfl (Jvm.Free.XT.i0_eq_t (by decide)) (by decide) (by decide) k) ?_
        show own_Go p e below s _ _ _ (T327.setTop (mkF m 258 #[lI p0, lI p1, lI p2, lJ p3, lS, lI 1, lI 0, lI v9, lI 0, lJ v15, lS, lI v16, lI v17, lR b18, lR b20, lR b22, lI 0, lI 1, lI 2, lI 0, lU, lU, lU, lU, lU, lU] []))
        refine own_via (fun _ k => XS.iconst X327.here hx rfl (hb hby at_258) k) ?_
        show own_Go p e below s _ _ _ (T327.setTop (mkF m 259 #[lI p0, lI p1, lI p2, lJ p3, lS, lI 1, lI 0, lI v9, lI 0, lJ v15, lS, lI v16, lI v17, lR b18, lR b20, lR b22, lI 0, lI 1, lI 2, lI 0, lU, lU, lU, lU, lU, lU] [(.int (0 : Int32))]))
        refine own_via (fun _ k => XS.istore X327.here hx rfl (hb hby at_259) rfl (l' := #[lI p0, lI p1, lI p2, lJ p3, lS, lI 1, lI 0, lI v9, lI 0, lJ v15, lS, lI v16, lI v17, lR b18, lR b20, lR b22, lI 0, lI 1, lI 2, lI 0, lI 0, lU, lU, lU, lU, lU]) rfl k) ?_
        show own_Go p e below s _ _ _ (T327.setTop (mkF m 261 #[lI p0, lI p1, lI p2, lJ p3, lS, lI 1, lI 0, lI v9, lI 0, lJ v15, lS, lI v16, lI v17, lR b18, lR b20, lR b22, lI 0, lI 1, lI 2, lI 0, lI 0, lU, lU, lU, lU, lU] []))
        refine own_via (fun _ k => XS.iconst X327.here hx rfl (hb hby at_261) k) ?_
        show own_Go p e below s _ _ _ (T327.setTop (mkF m 262 #[lI p0, lI p1, lI p2, lJ p3, lS, lI 1, lI 0, lI v9, lI 0, lJ v15, lS, lI v16, lI v17, lR b18, lR b20, lR b22, lI 0, lI 1, lI 2, lI 0, lI 0, lU, lU, lU, lU, lU] [(.int (-1 : Int32))]))
        refine own_via (fun _ k => XS.istore X327.here hx rfl (hb hby at_262) rfl (l' := #[lI p0, lI p1, lI p2, lJ p3, lS, lI 1, lI 0, lI v9, lI 0, lJ v15, lS, lI v16, lI v17, lR b18, lR b20, lR b22, lI 0, lI 1, lI 2, lI 0, lI 0, lI (-1), lU, lU, lU, lU]) rfl k) ?_
        show own_Go p e below s _ _ _ (T327.setTop (mkF m 264 #[lI p0, lI p1, lI p2, lJ p3, lS, lI 1, lI 0, lI v9, lI 0, lJ v15, lS, lI v16, lI v17, lR b18, lR b20, lR b22, lI 0, lI 1, lI 2, lI 0, lI 0, lI (-1), lU, lU, lU, lU] []))
        refine own_via (fun _ k => XS.iload X327.here hx rfl (hb hby at_264) rfl k) ?_
        show own_Go p e below s _ _ _ (T327.setTop (mkF m 266 #[lI p0, lI p1, lI p2, lJ p3, lS, lI 1, lI 0, lI v9, lI 0, lJ v15, lS, lI v16, lI v17, lR b18, lR b20, lR b22, lI 0, lI 1, lI 2, lI 0, lI 0, lI (-1), lU, lU, lU, lU] [(.int (0 : Int32))]))
        refine own_via (fun _ k => XS.ifYes X327.here hx rfl (pc0 := 266) (pc' := 276) rfl (hb hby at_266) rfl (Jvm.Free.XT.i0_eq_t (by decide)) (by decide) (by decide) k) ?_
        show own_Go p e below s _ _ _ (T327.setTop (mkF m 276 #[lI p0, lI p1, lI p2, lJ p3, lS, lI 1, lI 0, lI v9, lI 0, lJ v15, lS, lI v16, lI v17, lR b18, lR b20, lR b22, lI 0, lI 1, lI 2, lI 0, lI 0, lI (-1), lU, lU, lU, lU] []))
        refine own_via (fun _ k => XS.iconst X327.here hx rfl (hb hby at_276) k) ?_
        show own_Go p e below s _ _ _ (T327.setTop (mkF m 277 #[lI p0, lI p1, lI p2, lJ p3, lS, lI 1, lI 0, lI v9, lI 0, lJ v15, lS, lI v16, lI v17, lR b18, lR b20, lR b22, lI 0, lI 1, lI 2, lI 0, lI 0, lI (-1), lU, lU, lU, lU] [(.int (-1 : Int32))]))
        refine own_via (fun _ k => XS.istore X327.here hx rfl (hb hby at_277) rfl (l' := #[lI p0, lI p1, lI p2, lJ p3, lS, lI 1, lI 0, lI v9, lI 0, lJ v15, lS, lI v16, lI v17, lR b18, lR b20, lR b22, lI 0, lI 1, lI 2, lI 0, lI 0, lI (-1), lI (-1), lU, lU, lU]) rfl k) ?_
        show own_Go p e below s _ _ _ (T327.setTop (mkF m 279 #[lI p0, lI p1, lI p2, lJ p3, lS, lI 1, lI 0, lI v9, lI 0, lJ v15, lS, lI v16, lI v17, lR b18, lR b20, lR b22, lI 0, lI 1, lI 2, lI 0, lI 0, lI (-1), lI (-1), lU, lU, lU] []))
        refine own_via (fun _ k => XS.iload X327.here hx rfl (hb hby at_279) rfl k) ?_
        show own_Go p e below s _ _ _ (T327.setTop (mkF m 281 #[lI p0, lI p1, lI p2, lJ p3, lS, lI 1, lI 0, lI v9, lI 0, lJ v15, lS, lI v16, lI v17, lR b18, lR b20, lR b22, lI 0, lI 1, lI 2, lI 0, lI 0, lI (-1), lI (-1), lU, lU, lU] [(.int (0 : Int32))]))
        refine own_via (fun _ k => XS.ifYes X327.here hx rfl (pc0 := 281) (pc' := 312) rfl (hb hby at_281) rfl (Jvm.Free.XT.i0_eq_t (by decide)) (by decide) (by decide) k) ?_
        show own_Go p e below s _ _ _ (T327.setTop (mkF m 312 #[lI p0, lI p1, lI p2, lJ p3, lS, lI 1, lI 0, lI v9, lI 0, lJ v15, lS, lI v16, lI v17, lR b18, lR b20, lR b22, lI 0, lI 1, lI 2, lI 0, lI 0, lI (-1), lI (-1), lU, lU, lU] []))
        exact jz (1 : Int32) (0 : Int32) v9 (0 : Int32) (0 : Int32) (0 : Int32) (-1 : Int32) (-1 : Int32) (own_inc (0 : Int64) (0 : Int32) v15) _ _ _ X327 e327 N327 Z327 F330 F341 (rfl) (by rcases own_l3 v15 with ⟨a1, a2⟩ | ⟨a1, a2⟩ | ⟨a1, a2⟩ <;> simp only [own_exp, own_any, own_pol, own_inc, own_dec, own_w0, own_w1, a1, a2, if_true, if_false, reduceIte] <;> decide)
      · show own_Go p e below s _ _ _ (T327.setTop (mkF m 239 #[lI p0, lI p1, lI p2, lJ p3, lS, lI 1, lI 0, lI v9, lI 1, lJ v15, lS, lI v16, lI v17, lR b18, lR b20, lR b22, lI 0, lI 1, lI 2, lI 0, lU, lU, lU, lU, lU, lU] []))
        refine own_via (fun _ k => XS.iload X327.here hx rfl (hb hby at_239) rfl k) ?_
        show own_Go p e below s _ _ _ (T327.setTop (mkF m 241 #[lI p0, lI p1, lI p2, lJ p3, lS, lI 1, lI 0, lI v9, lI 1, lJ v15, lS, lI v16, lI v17, lR b18, lR b20, lR b22, lI 0, lI 1, lI 2, lI 0, lU, lU, lU, lU, lU, lU] [(.int (1 : Int32))]))
        refine own_via (fun _ k => XS.ifNo X327.here hx rfl (hb hby at_241) rfl (Jvm.Free.XT.i0_eq_f (by decide)) k) ?_
        show own_Go p e below s _ _ _ (T327.setTop (mkF m 244 #[lI p0, lI p1, lI p2, lJ p3, lS, lI 1, lI 0, lI v9, lI 1, lJ v15, lS, lI v16, lI v17, lR b18, lR b20, lR b22, lI 0, lI 1, lI 2, lI 0, lU, lU, lU, lU, lU, lU] []))
        refine own_via (fun _ k => XS.iload X327.here hx rfl (hb hby at_244) rfl k) ?_
        show own_Go p e below s _ _ _ (T327.setTop (mkF m 246 #[lI p0, lI p1, lI p2, lJ p3, lS, lI 1, lI 0, lI v9, lI 1, lJ v15, lS, lI v16, lI v17, lR b18, lR b20, lR b22, lI 0, lI 1, lI 2, lI 0, lU, lU, lU, lU, lU, lU] [(.int (1 : Int32))]))
        refine own_via (fun _ k => XS.ifYes X327.here hx rfl (pc0 := 246) (pc' := 254) rfl (hb hby at_246) rfl (Jvm.Free.XT.i0_ne_t (by decide)) (by decide) (by decide) k) ?_
        show own_Go p e below s _ _ _ (T327.setTop (mkF m 254 #[lI p0, lI p1, lI p2, lJ p3, lS, lI 1, lI 0, lI v9, lI 1, lJ v15, lS, lI v16, lI v17, lR b18, lR b20, lR b22, lI 0, lI 1, lI 2, lI 0, lU, lU, lU, lU, lU, lU] []))
        refine own_via (fun _ k => XS.iconst X327.here hx rfl (hb hby at_254) k) ?_
        show own_Go p e below s _ _ _ (T327.setTop (mkF m 255 #[lI p0, lI p1, lI p2, lJ p3, lS, lI 1, lI 0, lI v9, lI 1, lJ v15, lS, lI v16, lI v17, lR b18, lR b20, lR b22, lI 0, lI 1, lI 2, lI 0, lU, lU, lU, lU, lU, lU] [(.int (1 : Int32))]))
        refine own_via (fun _ k => XS.goto X327.here hx rfl (pc0 := 255) (pc' := 259) rfl (hb hby at_255) (by decide) (by decide) k) ?_
        show own_Go p e below s _ _ _ (T327.setTop (mkF m 259 #[lI p0, lI p1, lI p2, lJ p3, lS, lI 1, lI 0, lI v9, lI 1, lJ v15, lS, lI v16, lI v17, lR b18, lR b20, lR b22, lI 0, lI 1, lI 2, lI 0, lU, lU, lU, lU, lU, lU] [(.int (1 : Int32))]))
        refine own_via (fun _ k => XS.istore X327.here hx rfl (hb hby at_259) rfl (l' := #[lI p0, lI p1, lI p2, lJ p3, lS, lI 1, lI 0, lI v9, lI 1, lJ v15, lS, lI v16, lI v17, lR b18, lR b20, lR b22, lI 0, lI 1, lI 2, lI 0, lI 1, lU, lU, lU, lU, lU]) rfl k) ?_
        show own_Go p e below s _ _ _ (T327.setTop (mkF m 261 #[lI p0, lI p1, lI p2, lJ p3, lS, lI 1, lI 0, lI v9, lI 1, lJ v15, lS, lI v16, lI v17, lR b18, lR b20, lR b22, lI 0, lI 1, lI 2, lI 0, lI 1, lU, lU, lU, lU, lU] []))
        refine own_via (fun _ k => XS.iconst X327.here hx rfl (hb hby at_261) k) ?_
        show own_Go p e below s _ _ _ (T327.setTop (mkF m 262 #[lI p0, lI p1, lI p2, lJ p3, lS, lI 1, lI 0, lI v9, lI 1, lJ v15, lS, lI v16, lI v17, lR b18, lR b20, lR b22, lI 0, lI 1, lI 2, lI 0, lI 1, lU, lU, lU, lU, lU] [(.int (-1 : Int32))]))
        refine own_via (fun _ k => XS.istore X327.here hx rfl (hb hby at_262) rfl (l' := #[lI p0, lI p1, lI p2, lJ p3, lS, lI 1, lI 0, lI v9, lI 1, lJ v15, lS, lI v16, lI v17, lR b18, lR b20, lR b22, lI 0, lI 1, lI 2, lI 0, lI 1, lI (-1), lU, lU, lU, lU]) rfl k) ?_
        show own_Go p e below s _ _ _ (T327.setTop (mkF m 264 #[lI p0, lI p1, lI p2, lJ p3, lS, lI 1, lI 0, lI v9, lI 1, lJ v15, lS, lI v16, lI v17, lR b18, lR b20, lR b22, lI 0, lI 1, lI 2, lI 0, lI 1, lI (-1), lU, lU, lU, lU] []))
        refine own_via (fun _ k => XS.iload X327.here hx rfl (hb hby at_264) rfl k) ?_
        show own_Go p e below s _ _ _ (T327.setTop (mkF m 266 #[lI p0, lI p1, lI p2, lJ p3, lS, lI 1, lI 0, lI v9, lI 1, lJ v15, lS, lI v16, lI v17, lR b18, lR b20, lR b22, lI 0, lI 1, lI 2, lI 0, lI 1, lI (-1), lU, lU, lU, lU] [(.int (1 : Int32))]))
        refine own_via (fun _ k => XS.ifNo X327.here hx rfl (hb hby at_266) rfl (Jvm.Free.XT.i0_eq_f (by decide)) k) ?_
        show own_Go p e below s _ _ _ (T327.setTop (mkF m 269 #[lI p0, lI p1, lI p2, lJ p3, lS, lI 1, lI 0, lI v9, lI 1, lJ v15, lS, lI v16, lI v17, lR b18, lR b20, lR b22, lI 0, lI 1, lI 2, lI 0, lI 1, lI (-1), lU, lU, lU, lU] []))
        refine own_via (fun _ k => XS.aload X327.here hx rfl (hb hby at_269) rfl rfl k) ?_
        show own_Go p e below s _ _ _ (T327.setTop (mkF m 271 #[lI p0, lI p1, lI p2, lJ p3, lS, lI 1, lI 0, lI v9, lI 1, lJ v15, lS, lI v16, lI v17, lR b18, lR b20, lR b22, lI 0, lI 1, lI 2, lI 0, lI 1, lI (-1), lU, lU, lU, lU] [(.ref b22)]))
        have F348 := (F238.keep Kq327 (ninS (Ne.symm ne_b22_bl_42) (ninS F115 (ninS F116 nin0))))
        have F349 := ((((F78.keep Kq140 (ninS (Ne.symm ne_b22_bz_42) (ninS (Ne.symm F88) (ninS (Ne.symm F97) (ninS (Ne.symm F105) (ninS (Ne.symm F112) (ninS (Ne.symm F118) (ninS (Ne.symm F123) nin0)))))))).keep Kq173 (ninS (Ne.symm ne_b22_bz_42) (ninS (Ne.symm F88) (ninS (Ne.symm F97) (ninS (Ne.symm F105) (ninS (Ne.symm F112) (ninS (Ne.symm F118) (ninS (Ne.symm F123) nin0)))))))).keep Kq206 (ninS (Ne.symm ne_b22_bz_42) (ninS (Ne.symm F88) (ninS (Ne.symm F97) (ninS (Ne.symm F105) (ninS (Ne.symm F112) (ninS (Ne.symm F118) (ninS (Ne.symm F123) nin0)))))))).keep Kq327 (ninS (Ne.symm ne_b22_bz_42) (ninS F130 (ninS F131 nin0))))
        obtain ⟨cq347, kq347, qa347, qb347, qc347⟩ := isOf hZ e327 F330
        obtain ⟨_, _, ⟨T347, L347, k347, n347⟩, -, X347, ⟨Lc347, hQ347, l347, y347, z347⟩, st347⟩ := X327.virtualBack hx (y := (⟨"com/example/trajectory/trajectory/search/Nodes", "poll", "()I"⟩ : MethodName)) (z := (⟨"com/example/trajectory/trajectory/search/Nodes", "poll", "()I"⟩ : MethodName)) hown (mvT hZ (hwi hw 98 rfl)) (mvT hZ (hwi hw 99 rfl)) (notFace_of_selects (args := #[]) (mvT hZ (hwi hw 101 rfl))) (mvT hZ (hwi hw 101 rfl)) (mvT hZ (hwi hw 100 rfl)) (by decide) (backOf (W := 0) (rmpo1 l Z a0 hw [] b22 v15 (own_inc (0 : Int64) (0 : Int32) v15) (0 : Int32) (0 : Int32) (0 : Int32) dq0 (0 : UInt64) (own_rk (0 : Int32) (0 : Int32)) (0 : Int64) bl_42 bz_42 bf_42 br_42 kl_42 kz_42 kf_42 kr_42 [(.int (0 : Int32)), (.int (1 : Int32)), (.int (1 : Int32)), (.int (0 : Int32))] [(.int (0 : Int32)), (.int (0 : Int32)), (.int (0 : Int32)), (.int (0 : Int32))] h327 n0 Z327 F330 F332 F334 F335 F338 F339 F340 F341 F348 F349 F343 F344 g_b22 g_bf_42 g_br_42 ne_b22_bf_42 ne_b22_br_42 F137 (by decide) ⟨by decide, by decide⟩ rfl rfl) hZ (hwi hw 102 rfl) (hwi hw 4 rfl) (by decide) (by decide)) qa347 qc347 (g := (mkF m 271 #[lI p0, lI p1, lI p2, lJ p3, lS, lI 1, lI 0, lI v9, lI 1, lJ v15, lS, lI v16, lI v17, lR b18, lR b20, lR b22, lI 0, lI 1, lI 2, lI 0, lI 1, lI (-1), lU, lU, lU, lU] [(.ref b22)])) rfl (by rw [hml]; rfl) (Steps.refl _) (argsL := []) (rest := []) (lenOf pd_11 rfl) rfl (by show 2 * 0 + _ ≤ _; exact Nat.le_of_eq rfl) (hb hby at_271) (fun _ _ => ⟨rfl, e327, (by decide : 14 + 0 ≤ _), (by decide : 789 + 0 ≤ _)⟩)
        dsimp only [Pt.U, Pt.locs, Pt.cells, Pt.slots] at X347 l347 y347 z347 st347 hQ347
        subst l347 y347 z347
        obtain ⟨h347, e347⟩ : ∃ h, T347.heap = h := ⟨_, rfl⟩
        rw [e347] at hQ347
        obtain ⟨rfl, N347q, Kq347, F350, F351⟩ := hQ347
        have Z347 : n0 ≤ h347.size := Nat.le_trans Z327 Kq347.1
        have N347 := Fr.app N327 N347q
        refine own_viaT st347 ?_
        show own_Go p e below s _ _ _ (T347.setTop (mkF m 274 #[lI p0, lI p1, lI p2, lJ p3, lS, lI 1, lI 0, lI v9, lI 1, lJ v15, lS, lI v16, lI v17, lR b18, lR b20, lR b22, lI 0, lI 1, lI 2, lI 0, lI 1, lI (-1), lU, lU, lU, lU] [(.int (0 : Int32))]))
        refine own_via (fun _ k => XS.istore X347.here hx rfl (hb hby at_274) rfl (l' := #[lI p0, lI p1, lI p2, lJ p3, lS, lI 1, lI 0, lI v9, lI 1, lJ v15, lS, lI v16, lI v17, lR b18, lR b20, lR b22, lI 0, lI 1, lI 2, lI 0, lI 1, lI 0, lU, lU, lU, lU]) rfl k) ?_
        show own_Go p e below s _ _ _ (T347.setTop (mkF m 276 #[lI p0, lI p1, lI p2, lJ p3, lS, lI 1, lI 0, lI v9, lI 1, lJ v15, lS, lI v16, lI v17, lR b18, lR b20, lR b22, lI 0, lI 1, lI 2, lI 0, lI 1, lI 0, lU, lU, lU, lU] []))
        refine own_via (fun _ k => XS.iconst X347.here hx rfl (hb hby at_276) k) ?_
        show own_Go p e below s _ _ _ (T347.setTop (mkF m 277 #[lI p0, lI p1, lI p2, lJ p3, lS, lI 1, lI 0, lI v9, lI 1, lJ v15, lS, lI v16, lI v17, lR b18, lR b20, lR b22, lI 0, lI 1, lI 2, lI 0, lI 1, lI 0, lU, lU, lU, lU] [(.int (-1 : Int32))]))
        refine own_via (fun _ k => XS.istore X347.here hx rfl (hb hby at_277) rfl (l' := #[lI p0, lI p1, lI p2, lJ p3, lS, lI 1, lI 0, lI v9, lI 1, lJ v15, lS, lI v16, lI v17, lR b18, lR b20, lR b22, lI 0, lI 1, lI 2, lI 0, lI 1, lI 0, lI (-1), lU, lU, lU]) rfl k) ?_
        show own_Go p e below s _ _ _ (T347.setTop (mkF m 279 #[lI p0, lI p1, lI p2, lJ p3, lS, lI 1, lI 0, lI v9, lI 1, lJ v15, lS, lI v16, lI v17, lR b18, lR b20, lR b22, lI 0, lI 1, lI 2, lI 0, lI 1, lI 0, lI (-1), lU, lU, lU] []))
        refine own_via (fun _ k => XS.iload X347.here hx rfl (hb hby at_279) rfl k) ?_
        show own_Go p e below s _ _ _ (T347.setTop (mkF m 281 #[lI p0, lI p1, lI p2, lJ p3, lS, lI 1, lI 0, lI v9, lI 1, lJ v15, lS, lI v16, lI v17, lR b18, lR b20, lR b22, lI 0, lI 1, lI 2, lI 0, lI 1, lI 0, lI (-1), lU, lU, lU] [(.int (1 : Int32))]))
        refine own_via (fun _ k => XS.ifNo X347.here hx rfl (hb hby at_281) rfl (Jvm.Free.XT.i0_eq_f (by decide)) k) ?_
        show own_Go p e below s _ _ _ (T347.setTop (mkF m 284 #[lI p0, lI p1, lI p2, lJ p3, lS, lI 1, lI 0, lI v9, lI 1, lJ v15, lS, lI v16, lI v17, lR b18, lR b20, lR b22, lI 0, lI 1, lI 2, lI 0, lI 1, lI 0, lI (-1), lU, lU, lU] []))
        refine own_via (fun _ k => XS.iload X347.here hx rfl (hb hby at_284) rfl k) ?_
        show own_Go p e below s _ _ _ (T347.setTop (mkF m 286 #[lI p0, lI p1, lI p2, lJ p3, lS, lI 1, lI 0, lI v9, lI 1, lJ v15, lS, lI v16, lI v17, lR b18, lR b20, lR b22, lI 0, lI 1, lI 2, lI 0, lI 1, lI 0, lI (-1), lU, lU, lU] [(.int (1 : Int32))]))
        refine own_via (fun _ k => XS.ifNo X347.here hx rfl (hb hby at_286) rfl (Jvm.Free.XT.i0_eq_f (by decide)) k) ?_
        show own_Go p e below s _ _ _ (T347.setTop (mkF m 289 #[lI p0, lI p1, lI p2, lJ p3, lS, lI 1, lI 0, lI v9, lI 1, lJ v15, lS, lI v16, lI v17, lR b18, lR b20, lR b22, lI 0, lI 1, lI 2, lI 0, lI 1, lI 0, lI (-1), lU, lU, lU] []))
        refine own_via (fun _ k => XS.iload X347.here hx rfl (hb hby at_289) rfl k) ?_
        show own_Go p e below s _ _ _ (T347.setTop (mkF m 291 #[lI p0, lI p1, lI p2, lJ p3, lS, lI 1, lI 0, lI v9, lI 1, lJ v15, lS, lI v16, lI v17, lR b18, lR b20, lR b22, lI 0, lI 1, lI 2, lI 0, lI 1, lI 0, lI (-1), lU, lU, lU] [(.int (0 : Int32))]))
        refine own_via (fun _ k => XS.ifYes X347.here hx rfl (pc0 := 291) (pc' := 301) rfl (hb hby at_291) rfl (Jvm.Free.XT.i0_eq_t (by decide)) (by decide) (by decide) k) ?_
        show own_Go p e below s _ _ _ (T347.setTop (mkF m 301 #[lI p0, lI p1, lI p2, lJ p3, lS, lI 1, lI 0, lI v9, lI 1, lJ v15, lS, lI v16, lI v17, lR b18, lR b20, lR b22, lI 0, lI 1, lI 2, lI 0, lI 1, lI 0, lI (-1), lU, lU, lU] []))
        refine own_via (fun _ k => XS.iload X347.here hx rfl (hb hby at_301) rfl k) ?_
        show own_Go p e below s _ _ _ (T347.setTop (mkF m 303 #[lI p0, lI p1, lI p2, lJ p3, lS, lI 1, lI 0, lI v9, lI 1, lJ v15, lS, lI v16, lI v17, lR b18, lR b20, lR b22, lI 0, lI 1, lI 2, lI 0, lI 1, lI 0, lI (-1), lU, lU, lU] [(.int (0 : Int32))]))
        refine own_via (fun _ k => XS.istore X347.here hx rfl (hb hby at_303) rfl (l' := #[lI p0, lI p1, lI p2, lJ p3, lS, lI 1, lI 0, lI v9, lI 1, lJ v15, lS, lI v16, lI v17, lR b18, lR b20, lR b22, lI 0, lI 1, lI 2, lI 0, lI 1, lI 0, lI 0, lU, lU, lU]) rfl k) ?_
        show own_Go p e below s _ _ _ (T347.setTop (mkF m 305 #[lI p0, lI p1, lI p2, lJ p3, lS, lI 1, lI 0, lI v9, lI 1, lJ v15, lS, lI v16, lI v17, lR b18, lR b20, lR b22, lI 0, lI 1, lI 2, lI 0, lI 1, lI 0, lI 0, lU, lU, lU] []))
        refine own_via (fun _ k => XS.goto X347.here hx rfl (pc0 := 305) (pc' := 312) rfl (hb hby at_305) (by decide) (by decide) k) ?_
        show own_Go p e below s _ _ _ (T347.setTop (mkF m 312 #[lI p0, lI p1, lI p2, lJ p3, lS, lI 1, lI 0, lI v9, lI 1, lJ v15, lS, lI v16, lI v17, lR b18, lR b20, lR b22, lI 0, lI 1, lI 2, lI 0, lI 1, lI 0, lI 0, lU, lU, lU] []))
        exact jz (1 : Int32) (0 : Int32) v9 (1 : Int32) (0 : Int32) (1 : Int32) (0 : Int32) (0 : Int32) (own_pol (own_inc (0 : Int64) (0 : Int32) v15) (0 : Int32) (0 : Int32) v15) _ _ _ X347 e347 N347 Z347 F350 F351 (rfl) (by rcases own_l3 v15 with ⟨a1, a2⟩ | ⟨a1, a2⟩ | ⟨a1, a2⟩ <;> simp only [own_exp, own_any, own_pol, own_inc, own_dec, own_w0, own_w1, a1, a2, if_true, if_false, reduceIte] <;> decide)
    · show own_Go p e below s _ _ _ (T327.setTop (mkF m 178 #[lI p0, lI p1, lI p2, lJ p3, lS, lI 1, lI 1, lI v9, lI v12, lJ v15, lS, lI v16, lI v17, lR b18, lR b20, lR b22, lI 0, lI 1, lI 2, lU, lU, lU, lU, lU, lU, lU] []))
      refine own_via (fun _ k => XS.iload X327.here hx rfl (hb hby at_178) rfl k) ?_
      show own_Go p e below s _ _ _ (T327.setTop (mkF m 180 #[lI p0, lI p1, lI p2, lJ p3, lS, lI 1, lI 1, lI v9, lI v12, lJ v15, lS, lI v16, lI v17, lR b18, lR b20, lR b22, lI 0, lI 1, lI 2, lU, lU, lU, lU, lU, lU, lU] [(.int (1 : Int32))]))
      refine own_via (fun _ k => XS.ifNo X327.here hx rfl (hb hby at_180) rfl (Jvm.Free.XT.i0_eq_f (by decide)) k) ?_
      show own_Go p e below s _ _ _ (T327.setTop (mkF m 183 #[lI p0, lI p1, lI p2, lJ p3, lS, lI 1, lI 1, lI v9, lI v12, lJ v15, lS, lI v16, lI v17, lR b18, lR b20, lR b22, lI 0, lI 1, lI 2, lU, lU, lU, lU, lU, lU, lU] []))
      by_cases hlt : v17 < v16
      · show own_Go p e below s _ _ _ (T327.setTop (mkF m 183 #[lI p0, lI p1, lI p2, lJ p3, lS, lI 1, lI 1, lI v9, lI v12, lJ v15, lS, lI v16, lI v17, lR b18, lR b20, lR b22, lI 0, lI 1, lI 2, lU, lU, lU, lU, lU, lU, lU] []))
        refine own_via (fun _ k => XS.aload X327.here hx rfl (hb hby at_183) rfl rfl k) ?_
        show own_Go p e below s _ _ _ (T327.setTop (mkF m 185 #[lI p0, lI p1, lI p2, lJ p3, lS, lI 1, lI 1, lI v9, lI v12, lJ v15, lS, lI v16, lI v17, lR b18, lR b20, lR b22, lI 0, lI 1, lI 2, lU, lU, lU, lU, lU, lU, lU] [(.ref b22)]))
        refine own_via (fun _ k => XS.iload X327.here hx rfl (hb hby at_185) rfl k) ?_
        show own_Go p e below s _ _ _ (T327.setTop (mkF m 187 #[lI p0, lI p1, lI p2, lJ p3, lS, lI 1, lI 1, lI v9, lI v12, lJ v15, lS, lI v16, lI v17, lR b18, lR b20, lR b22, lI 0, lI 1, lI 2, lU, lU, lU, lU, lU, lU, lU] [(.int (1 : Int32)), (.ref b22)]))
        have F353 := (F237.keep Kq327 (ninS (Ne.symm ne_b22_bc_42) (ninS F100 (ninS F101 nin0))))
        have F354 := (F238.keep Kq327 (ninS (Ne.symm ne_b22_bl_42) (ninS F115 (ninS F116 nin0))))
        obtain ⟨cq352, kq352, qa352, qb352, qc352⟩ := isOf hZ e327 F330
        obtain ⟨_, _, ⟨T352, L352, k352, n352⟩, -, X352, ⟨Lc352, hQ352, l352, y352, z352⟩, st352⟩ := X327.virtualBack hx (y := (⟨"com/example/trajectory/trajectory/search/Nodes", "queue", "(I)V"⟩ : MethodName)) (z := (⟨"com/example/trajectory/trajectory/search/Nodes", "queue", "(I)V"⟩ : MethodName)) hown (mvT hZ (hwi hw 83 rfl)) (mvT hZ (hwi hw 84 rfl)) (notFace_of_selects (args := #[]) (mvT hZ (hwi hw 86 rfl))) (mvT hZ (hwi hw 86 rfl)) (mvT hZ (hwi hw 85 rfl)) (by decide) (backOf (W := 0) (rmq1b l Z a0 hw [] b22 (1 : Int32) v15 (own_inc (0 : Int64) (0 : Int32) v15) (1 : Int32) bc_42 bl_42 bz_42 bk_42 bT_42 bf_42 br_42 kc_42 kl_42 kf_42 kr_42 [(.double dq0), (.double dq1), (.double dq2), (.double (0 : UInt64))] [(.int (0 : Int32)), (.int (1 : Int32)), (.int (1 : Int32)), (.int (0 : Int32))] dq0 dq1 v16 v17 (own_rk (0 : Int32) (0 : Int32)) h327 n0 Z327 F330 F331 F332 F333 F334 F335 F336 F337 F338 F339 F340 F341 F342 F353 F354 F343 F344 g_b22 g_bf_42 g_br_42 ne_b22_bf_42 ne_b22_br_42 ne_b22_bl_42 F137 F115 F116 ⟨by decide, by decide⟩ rfl rfl hdq1.symm hdq0.symm hlt) hZ (hwi hw 87 rfl) (hwi hw 4 rfl) (by decide) (by decide)) qa352 qc352 (g := (mkF m 187 #[lI p0, lI p1, lI p2, lJ p3, lS, lI 1, lI 1, lI v9, lI v12, lJ v15, lS, lI v16, lI v17, lR b18, lR b20, lR b22, lI 0, lI 1, lI 2, lU, lU, lU, lU, lU, lU, lU] [(.int (1 : Int32)), (.ref b22)])) rfl (by rw [hml]; rfl) (Steps.refl _) (argsL := [(.int (1 : Int32))]) (rest := []) (lenOf pd_7 rfl) rfl (by show 2 * 0 + _ ≤ _; exact Nat.le_of_eq rfl) (hb hby at_187) (fun _ _ => ⟨rfl, e327, (by decide : 14 + 0 ≤ _), (by decide : 789 + 0 ≤ _)⟩)
        dsimp only [Pt.U, Pt.locs, Pt.cells, Pt.slots] at X352 l352 y352 z352 st352 hQ352
        subst l352 y352 z352
        obtain ⟨h352, e352⟩ : ∃ h, T352.heap = h := ⟨_, rfl⟩
        rw [e352] at hQ352
        obtain ⟨rfl, N352q, Kq352, F355, F356, F357, F358, F359, F360, F361, F362, F363, F364, F365, F366, F367, F368, F369⟩ := hQ352
        have Z352 : n0 ≤ h352.size := Nat.le_trans Z327 Kq352.1
        have N352 := Fr.app N327 N352q
        refine own_viaT st352 ?_
        show own_Go p e below s _ _ _ (T352.setTop (mkF m 190 #[lI p0, lI p1, lI p2, lJ p3, lS, lI 1, lI 1, lI v9, lI v12, lJ v15, lS, lI v16, lI v17, lR b18, lR b20, lR b22, lI 0, lI 1, lI 2, lU, lU, lU, lU, lU, lU, lU] []))
        rcases (own_01 hv9) with rfl | rfl
        · show own_Go p e below s _ _ _ (T352.setTop (mkF m 190 #[lI p0, lI p1, lI p2, lJ p3, lS, lI 1, lI 1, lI 0, lI v12, lJ v15, lS, lI v16, lI v17, lR b18, lR b20, lR b22, lI 0, lI 1, lI 2, lU, lU, lU, lU, lU, lU, lU] []))
          refine own_via (fun _ k => XS.iload X352.here hx rfl (hb hby at_190) rfl k) ?_
          show own_Go p e below s _ _ _ (T352.setTop (mkF m 192 #[lI p0, lI p1, lI p2, lJ p3, lS, lI 1, lI 1, lI 0, lI v12, lJ v15, lS, lI v16, lI v17, lR b18, lR b20, lR b22, lI 0, lI 1, lI 2, lU, lU, lU, lU, lU, lU, lU] [(.int (0 : Int32))]))
          refine own_via (fun _ k => XS.ifYes X352.here hx rfl (pc0 := 192) (pc' := 204) rfl (hb hby at_192) rfl (Jvm.Free.XT.i0_eq_t (by decide)) (by decide) (by decide) k) ?_
          show own_Go p e below s _ _ _ (T352.setTop (mkF m 204 #[lI p0, lI p1, lI p2, lJ p3, lS, lI 1, lI 1, lI 0, lI v12, lJ v15, lS, lI v16, lI v17, lR b18, lR b20, lR b22, lI 0, lI 1, lI 2, lU, lU, lU, lU, lU, lU, lU] []))
          refine own_via (fun _ k => XS.iconst X352.here hx rfl (hb hby at_204) k) ?_
          show own_Go p e below s _ _ _ (T352.setTop (mkF m 205 #[lI p0, lI p1, lI p2, lJ p3, lS, lI 1, lI 1, lI 0, lI v12, lJ v15, lS, lI v16, lI v17, lR b18, lR b20, lR b22, lI 0, lI 1, lI 2, lU, lU, lU, lU, lU, lU, lU] [(.int (0 : Int32))]))
          refine own_via (fun _ k => XS.istore X352.here hx rfl (hb hby at_205) rfl (l' := #[lI p0, lI p1, lI p2, lJ p3, lS, lI 1, lI 1, lI 0, lI v12, lJ v15, lS, lI v16, lI v17, lR b18, lR b20, lR b22, lI 0, lI 1, lI 2, lI 0, lU, lU, lU, lU, lU, lU]) rfl k) ?_
          show own_Go p e below s _ _ _ (T352.setTop (mkF m 207 #[lI p0, lI p1, lI p2, lJ p3, lS, lI 1, lI 1, lI 0, lI v12, lJ v15, lS, lI v16, lI v17, lR b18, lR b20, lR b22, lI 0, lI 1, lI 2, lI 0, lU, lU, lU, lU, lU, lU] []))
          refine own_via (fun _ k => XS.iload X352.here hx rfl (hb hby at_207) rfl k) ?_
          show own_Go p e below s _ _ _ (T352.setTop (mkF m 209 #[lI p0, lI p1, lI p2, lJ p3, lS, lI 1, lI 1, lI 0, lI v12, lJ v15, lS, lI v16, lI v17, lR b18, lR b20, lR b22, lI 0, lI 1, lI 2, lI 0, lU, lU, lU, lU, lU, lU] [(.int (0 : Int32))]))
          refine own_via (fun _ k => XS.ifYes X352.here hx rfl (pc0 := 209) (pc' := 239) rfl (hb hby at_209) rfl (Jvm.Free.XT.i0_eq_t (by decide)) (by decide) (by decide) k) ?_
          show own_Go p e below s _ _ _ (T352.setTop (mkF m 239 #[lI p0, lI p1, lI p2, lJ p3, lS, lI 1, lI 1, lI 0, lI v12, lJ v15, lS, lI v16, lI v17, lR b18, lR b20, lR b22, lI 0, lI 1, lI 2, lI 0, lU, lU, lU, lU, lU, lU] []))
          rcases (own_01 hv12) with rfl | rfl
          · show own_Go p e below s _ _ _ (T352.setTop (mkF m 239 #[lI p0, lI p1, lI p2, lJ p3, lS, lI 1, lI 1, lI 0, lI 0, lJ v15, lS, lI v16, lI v17, lR b18, lR b20, lR b22, lI 0, lI 1, lI 2, lI 0, lU, lU, lU, lU, lU, lU] []))
            refine own_via (fun _ k => XS.iload X352.here hx rfl (hb hby at_239) rfl k) ?_
            show own_Go p e below s _ _ _ (T352.setTop (mkF m 241 #[lI p0, lI p1, lI p2, lJ p3, lS, lI 1, lI 1, lI 0, lI 0, lJ v15, lS, lI v16, lI v17, lR b18, lR b20, lR b22, lI 0, lI 1, lI 2, lI 0, lU, lU, lU, lU, lU, lU] [(.int (0 : Int32))]))
            refine own_via (fun _ k => XS.ifYes X352.here hx rfl (pc0 := 241) (pc' := 258) rfl (hb hby at_241) rfl (Jvm.Free.XT.i0_eq_t (by decide)) (by decide) (by decide) k) ?_
            show own_Go p e below s _ _ _ (T352.setTop (mkF m 258 #[lI p0, lI p1, lI p2, lJ p3, lS, lI 1, lI 1, lI 0, lI 0, lJ v15, lS, lI v16, lI v17, lR b18, lR b20, lR b22, lI 0, lI 1, lI 2, lI 0, lU, lU, lU, lU, lU, lU] []))
            refine own_via (fun _ k => XS.iconst X352.here hx rfl (hb hby at_258) k) ?_
            show own_Go p e below s _ _ _ (T352.setTop (mkF m 259 #[lI p0, lI p1, lI p2, lJ p3, lS, lI 1, lI 1, lI 0, lI 0, lJ v15, lS, lI v16, lI v17, lR b18, lR b20, lR b22, lI 0, lI 1, lI 2, lI 0, lU, lU, lU, lU, lU, lU] [(.int (0 : Int32))]))
            refine own_via (fun _ k => XS.istore X352.here hx rfl (hb hby at_259) rfl (l' := #[lI p0, lI p1, lI p2, lJ p3, lS, lI 1, lI 1, lI 0, lI 0, lJ v15, lS, lI v16, lI v17, lR b18, lR b20, lR b22, lI 0, lI 1, lI 2, lI 0, lI 0, lU, lU, lU, lU, lU]) rfl k) ?_
            show own_Go p e below s _ _ _ (T352.setTop (mkF m 261 #[lI p0, lI p1, lI p2, lJ p3, lS, lI 1, lI 1, lI 0, lI 0, lJ v15, lS, lI v16, lI v17, lR b18, lR b20, lR b22, lI 0, lI 1, lI 2, lI 0, lI 0, lU, lU, lU, lU, lU] []))
            refine own_via (fun _ k => XS.iconst X352.here hx rfl (hb hby at_261) k) ?_
            show own_Go p e below s _ _ _ (T352.setTop (mkF m 262 #[lI p0, lI p1, lI p2, lJ p3, lS, lI 1, lI 1, lI 0, lI 0, lJ v15, lS, lI v16, lI v17, lR b18, lR b20, lR b22, lI 0, lI 1, lI 2, lI 0, lI 0, lU, lU, lU, lU, lU] [(.int (-1 : Int32))]))
            refine own_via (fun _ k => XS.istore X352.here hx rfl (hb hby at_262) rfl (l' := #[lI p0, lI p1, lI p2, lJ p3, lS, lI 1, lI 1, lI 0, lI 0, lJ v15, lS, lI v16, lI v17, lR b18, lR b20, lR b22, lI 0, lI 1, lI 2, lI 0, lI 0, lI (-1), lU, lU, lU, lU]) rfl k) ?_
            show own_Go p e below s _ _ _ (T352.setTop (mkF m 264 #[lI p0, lI p1, lI p2, lJ p3, lS, lI 1, lI 1, lI 0, lI 0, lJ v15, lS, lI v16, lI v17, lR b18, lR b20, lR b22, lI 0, lI 1, lI 2, lI 0, lI 0, lI (-1), lU, lU, lU, lU] []))
            refine own_via (fun _ k => XS.iload X352.here hx rfl (hb hby at_264) rfl k) ?_
            show own_Go p e below s _ _ _ (T352.setTop (mkF m 266 #[lI p0, lI p1, lI p2, lJ p3, lS, lI 1, lI 1, lI 0, lI 0, lJ v15, lS, lI v16, lI v17, lR b18, lR b20, lR b22, lI 0, lI 1, lI 2, lI 0, lI 0, lI (-1), lU, lU, lU, lU] [(.int (0 : Int32))]))
            refine own_via (fun _ k => XS.ifYes X352.here hx rfl (pc0 := 266) (pc' := 276) rfl (hb hby at_266) rfl (Jvm.Free.XT.i0_eq_t (by decide)) (by decide) (by decide) k) ?_
            show own_Go p e below s _ _ _ (T352.setTop (mkF m 276 #[lI p0, lI p1, lI p2, lJ p3, lS, lI 1, lI 1, lI 0, lI 0, lJ v15, lS, lI v16, lI v17, lR b18, lR b20, lR b22, lI 0, lI 1, lI 2, lI 0, lI 0, lI (-1), lU, lU, lU, lU] []))
            refine own_via (fun _ k => XS.iconst X352.here hx rfl (hb hby at_276) k) ?_
            show own_Go p e below s _ _ _ (T352.setTop (mkF m 277 #[lI p0, lI p1, lI p2, lJ p3, lS, lI 1, lI 1, lI 0, lI 0, lJ v15, lS, lI v16, lI v17, lR b18, lR b20, lR b22, lI 0, lI 1, lI 2, lI 0, lI 0, lI (-1), lU, lU, lU, lU] [(.int (-1 : Int32))]))
            refine own_via (fun _ k => XS.istore X352.here hx rfl (hb hby at_277) rfl (l' := #[lI p0, lI p1, lI p2, lJ p3, lS, lI 1, lI 1, lI 0, lI 0, lJ v15, lS, lI v16, lI v17, lR b18, lR b20, lR b22, lI 0, lI 1, lI 2, lI 0, lI 0, lI (-1), lI (-1), lU, lU, lU]) rfl k) ?_
            show own_Go p e below s _ _ _ (T352.setTop (mkF m 279 #[lI p0, lI p1, lI p2, lJ p3, lS, lI 1, lI 1, lI 0, lI 0, lJ v15, lS, lI v16, lI v17, lR b18, lR b20, lR b22, lI 0, lI 1, lI 2, lI 0, lI 0, lI (-1), lI (-1), lU, lU, lU] []))
            refine own_via (fun _ k => XS.iload X352.here hx rfl (hb hby at_279) rfl k) ?_
            show own_Go p e below s _ _ _ (T352.setTop (mkF m 281 #[lI p0, lI p1, lI p2, lJ p3, lS, lI 1, lI 1, lI 0, lI 0, lJ v15, lS, lI v16, lI v17, lR b18, lR b20, lR b22, lI 0, lI 1, lI 2, lI 0, lI 0, lI (-1), lI (-1), lU, lU, lU] [(.int (0 : Int32))]))
            refine own_via (fun _ k => XS.ifYes X352.here hx rfl (pc0 := 281) (pc' := 312) rfl (hb hby at_281) rfl (Jvm.Free.XT.i0_eq_t (by decide)) (by decide) (by decide) k) ?_
            show own_Go p e below s _ _ _ (T352.setTop (mkF m 312 #[lI p0, lI p1, lI p2, lJ p3, lS, lI 1, lI 1, lI 0, lI 0, lJ v15, lS, lI v16, lI v17, lR b18, lR b20, lR b22, lI 0, lI 1, lI 2, lI 0, lI 0, lI (-1), lI (-1), lU, lU, lU] []))
            exact jz (1 : Int32) (1 : Int32) (0 : Int32) (0 : Int32) (0 : Int32) (0 : Int32) (-1 : Int32) (-1 : Int32) (own_inc (own_inc (0 : Int64) (0 : Int32) v15) (1 : Int32) v15) _ _ _ X352 e352 N352 Z352 F355 F366 (rfl) (by rcases own_l3 v15 with ⟨a1, a2⟩ | ⟨a1, a2⟩ | ⟨a1, a2⟩ <;> simp only [own_exp, own_any, own_pol, own_inc, own_dec, own_w0, own_w1, a1, a2, if_true, if_false, reduceIte] <;> decide)
          · show own_Go p e below s _ _ _ (T352.setTop (mkF m 239 #[lI p0, lI p1, lI p2, lJ p3, lS, lI 1, lI 1, lI 0, lI 1, lJ v15, lS, lI v16, lI v17, lR b18, lR b20, lR b22, lI 0, lI 1, lI 2, lI 0, lU, lU, lU, lU, lU, lU] []))
            refine own_via (fun _ k => XS.iload X352.here hx rfl (hb hby at_239) rfl k) ?_
            show own_Go p e below s _ _ _ (T352.setTop (mkF m 241 #[lI p0, lI p1, lI p2, lJ p3, lS, lI 1, lI 1, lI 0, lI 1, lJ v15, lS, lI v16, lI v17, lR b18, lR b20, lR b22, lI 0, lI 1, lI 2, lI 0, lU, lU, lU, lU, lU, lU] [(.int (1 : Int32))]))
            refine own_via (fun _ k => XS.ifNo X352.here hx rfl (hb hby at_241) rfl (Jvm.Free.XT.i0_eq_f (by decide)) k) ?_
            show own_Go p e below s _ _ _ (T352.setTop (mkF m 244 #[lI p0, lI p1, lI p2, lJ p3, lS, lI 1, lI 1, lI 0, lI 1, lJ v15, lS, lI v16, lI v17, lR b18, lR b20, lR b22, lI 0, lI 1, lI 2, lI 0, lU, lU, lU, lU, lU, lU] []))
            refine own_via (fun _ k => XS.iload X352.here hx rfl (hb hby at_244) rfl k) ?_
            show own_Go p e below s _ _ _ (T352.setTop (mkF m 246 #[lI p0, lI p1, lI p2, lJ p3, lS, lI 1, lI 1, lI 0, lI 1, lJ v15, lS, lI v16, lI v17, lR b18, lR b20, lR b22, lI 0, lI 1, lI 2, lI 0, lU, lU, lU, lU, lU, lU] [(.int (1 : Int32))]))
            refine own_via (fun _ k => XS.ifYes X352.here hx rfl (pc0 := 246) (pc' := 254) rfl (hb hby at_246) rfl (Jvm.Free.XT.i0_ne_t (by decide)) (by decide) (by decide) k) ?_
            show own_Go p e below s _ _ _ (T352.setTop (mkF m 254 #[lI p0, lI p1, lI p2, lJ p3, lS, lI 1, lI 1, lI 0, lI 1, lJ v15, lS, lI v16, lI v17, lR b18, lR b20, lR b22, lI 0, lI 1, lI 2, lI 0, lU, lU, lU, lU, lU, lU] []))
            refine own_via (fun _ k => XS.iconst X352.here hx rfl (hb hby at_254) k) ?_
            show own_Go p e below s _ _ _ (T352.setTop (mkF m 255 #[lI p0, lI p1, lI p2, lJ p3, lS, lI 1, lI 1, lI 0, lI 1, lJ v15, lS, lI v16, lI v17, lR b18, lR b20, lR b22, lI 0, lI 1, lI 2, lI 0, lU, lU, lU, lU, lU, lU] [(.int (1 : Int32))]))
            refine own_via (fun _ k => XS.goto X352.here hx rfl (pc0 := 255) (pc' := 259) rfl (hb hby at_255) (by decide) (by decide) k) ?_
            show own_Go p e below s _ _ _ (T352.setTop (mkF m 259 #[lI p0, lI p1, lI p2, lJ p3, lS, lI 1, lI 1, lI 0, lI 1, lJ v15, lS, lI v16, lI v17, lR b18, lR b20, lR b22, lI 0, lI 1, lI 2, lI 0, lU, lU, lU, lU, lU, lU] [(.int (1 : Int32))]))
            refine own_via (fun _ k => XS.istore X352.here hx rfl (hb hby at_259) rfl (l' := #[lI p0, lI p1, lI p2, lJ p3, lS, lI 1, lI 1, lI 0, lI 1, lJ v15, lS, lI v16, lI v17, lR b18, lR b20, lR b22, lI 0, lI 1, lI 2, lI 0, lI 1, lU, lU, lU, lU, lU]) rfl k) ?_
            show own_Go p e below s _ _ _ (T352.setTop (mkF m 261 #[lI p0, lI p1, lI p2, lJ p3, lS, lI 1, lI 1, lI 0, lI 1, lJ v15, lS, lI v16, lI v17, lR b18, lR b20, lR b22, lI 0, lI 1, lI 2, lI 0, lI 1, lU, lU, lU, lU, lU] []))
            refine own_via (fun _ k => XS.iconst X352.here hx rfl (hb hby at_261) k) ?_
            show own_Go p e below s _ _ _ (T352.setTop (mkF m 262 #[lI p0, lI p1, lI p2, lJ p3, lS, lI 1, lI 1, lI 0, lI 1, lJ v15, lS, lI v16, lI v17, lR b18, lR b20, lR b22, lI 0, lI 1, lI 2, lI 0, lI 1, lU, lU, lU, lU, lU] [(.int (-1 : Int32))]))
            refine own_via (fun _ k => XS.istore X352.here hx rfl (hb hby at_262) rfl (l' := #[lI p0, lI p1, lI p2, lJ p3, lS, lI 1, lI 1, lI 0, lI 1, lJ v15, lS, lI v16, lI v17, lR b18, lR b20, lR b22, lI 0, lI 1, lI 2, lI 0, lI 1, lI (-1), lU, lU, lU, lU]) rfl k) ?_
            show own_Go p e below s _ _ _ (T352.setTop (mkF m 264 #[lI p0, lI p1, lI p2, lJ p3, lS, lI 1, lI 1, lI 0, lI 1, lJ v15, lS, lI v16, lI v17, lR b18, lR b20, lR b22, lI 0, lI 1, lI 2, lI 0, lI 1, lI (-1), lU, lU, lU, lU] []))
            refine own_via (fun _ k => XS.iload X352.here hx rfl (hb hby at_264) rfl k) ?_
            show own_Go p e below s _ _ _ (T352.setTop (mkF m 266 #[lI p0, lI p1, lI p2, lJ p3, lS, lI 1, lI 1, lI 0, lI 1, lJ v15, lS, lI v16, lI v17, lR b18, lR b20, lR b22, lI 0, lI 1, lI 2, lI 0, lI 1, lI (-1), lU, lU, lU, lU] [(.int (1 : Int32))]))
            refine own_via (fun _ k => XS.ifNo X352.here hx rfl (hb hby at_266) rfl (Jvm.Free.XT.i0_eq_f (by decide)) k) ?_
            show own_Go p e below s _ _ _ (T352.setTop (mkF m 269 #[lI p0, lI p1, lI p2, lJ p3, lS, lI 1, lI 1, lI 0, lI 1, lJ v15, lS, lI v16, lI v17, lR b18, lR b20, lR b22, lI 0, lI 1, lI 2, lI 0, lI 1, lI (-1), lU, lU, lU, lU] []))
            refine own_via (fun _ k => XS.aload X352.here hx rfl (hb hby at_269) rfl rfl k) ?_
            show own_Go p e below s _ _ _ (T352.setTop (mkF m 271 #[lI p0, lI p1, lI p2, lJ p3, lS, lI 1, lI 1, lI 0, lI 1, lJ v15, lS, lI v16, lI v17, lR b18, lR b20, lR b22, lI 0, lI 1, lI 2, lI 0, lI 1, lI (-1), lU, lU, lU, lU] [(.ref b22)]))
            have F371 := (F354.keep Kq352 (ninS (Ne.symm ne_b22_bl_42) (ninS F115 (ninS F116 nin0))))
            have F372 := (((((F78.keep Kq140 (ninS (Ne.symm ne_b22_bz_42) (ninS (Ne.symm F88) (ninS (Ne.symm F97) (ninS (Ne.symm F105) (ninS (Ne.symm F112) (ninS (Ne.symm F118) (ninS (Ne.symm F123) nin0)))))))).keep Kq173 (ninS (Ne.symm ne_b22_bz_42) (ninS (Ne.symm F88) (ninS (Ne.symm F97) (ninS (Ne.symm F105) (ninS (Ne.symm F112) (ninS (Ne.symm F118) (ninS (Ne.symm F123) nin0)))))))).keep Kq206 (ninS (Ne.symm ne_b22_bz_42) (ninS (Ne.symm F88) (ninS (Ne.symm F97) (ninS (Ne.symm F105) (ninS (Ne.symm F112) (ninS (Ne.symm F118) (ninS (Ne.symm F123) nin0)))))))).keep Kq327 (ninS (Ne.symm ne_b22_bz_42) (ninS F130 (ninS F131 nin0)))).keep Kq352 (ninS (Ne.symm ne_b22_bz_42) (ninS F130 (ninS F131 nin0))))
            obtain ⟨cq370, kq370, qa370, qb370, qc370⟩ := isOf hZ e352 F355
            obtain ⟨_, _, ⟨T370, L370, k370, n370⟩, -, X370, ⟨Lc370, hQ370, l370, y370, z370⟩, st370⟩ := X352.virtualBack hx (y := (⟨"com/example/trajectory/trajectory/search/Nodes", "poll", "()I"⟩ : MethodName)) (z := (⟨"com/example/trajectory/trajectory/search/Nodes", "poll", "()I"⟩ : MethodName)) hown (mvT hZ (hwi hw 98 rfl)) (mvT hZ (hwi hw 99 rfl)) (notFace_of_selects (args := #[]) (mvT hZ (hwi hw 101 rfl))) (mvT hZ (hwi hw 101 rfl)) (mvT hZ (hwi hw 100 rfl)) (by decide) (backOf (W := 0) (rmpo2 l Z a0 hw [] b22 v15 (own_inc (own_inc (0 : Int64) (0 : Int32) v15) (1 : Int32) v15) (1 : Int32) (0 : Int32) (1 : Int32) dq1 dq0 (own_rk (1 : Int32) (1 : Int32)) (own_rk (0 : Int32) (0 : Int32)) bl_42 bz_42 bf_42 br_42 kl_42 kz_42 kf_42 kr_42 [(.int (0 : Int32)), (.int (1 : Int32)), (.int (1 : Int32)), (.int (0 : Int32))] [(.int (0 : Int32)), (.int (0 : Int32)), (.int (0 : Int32)), (.int (0 : Int32))] h352 n0 Z352 F355 F357 F359 F360 F363 F364 F365 F366 F371 F372 F368 F369 g_b22 g_bf_42 g_br_42 ne_b22_bf_42 ne_b22_br_42 F137 (by decide) ⟨by decide, by decide⟩ rfl rfl) hZ (hwi hw 102 rfl) (hwi hw 4 rfl) (by decide) (by decide)) qa370 qc370 (g := (mkF m 271 #[lI p0, lI p1, lI p2, lJ p3, lS, lI 1, lI 1, lI 0, lI 1, lJ v15, lS, lI v16, lI v17, lR b18, lR b20, lR b22, lI 0, lI 1, lI 2, lI 0, lI 1, lI (-1), lU, lU, lU, lU] [(.ref b22)])) rfl (by rw [hml]; rfl) (Steps.refl _) (argsL := []) (rest := []) (lenOf pd_11 rfl) rfl (by show 2 * 0 + _ ≤ _; exact Nat.le_of_eq rfl) (hb hby at_271) (fun _ _ => ⟨rfl, e352, (by decide : 14 + 0 ≤ _), (by decide : 789 + 0 ≤ _)⟩)
            dsimp only [Pt.U, Pt.locs, Pt.cells, Pt.slots] at X370 l370 y370 z370 st370 hQ370
            subst l370 y370 z370
            obtain ⟨h370, e370⟩ : ∃ h, T370.heap = h := ⟨_, rfl⟩
            rw [e370] at hQ370
            obtain ⟨rfl, N370q, Kq370, F373, F374⟩ := hQ370
            have Z370 : n0 ≤ h370.size := Nat.le_trans Z352 Kq370.1
            have N370 := Fr.app N352 N370q
            refine own_viaT st370 ?_
            show own_Go p e below s _ _ _ (T370.setTop (mkF m 274 #[lI p0, lI p1, lI p2, lJ p3, lS, lI 1, lI 1, lI 0, lI 1, lJ v15, lS, lI v16, lI v17, lR b18, lR b20, lR b22, lI 0, lI 1, lI 2, lI 0, lI 1, lI (-1), lU, lU, lU, lU] [(.int (1 : Int32))]))
            refine own_via (fun _ k => XS.istore X370.here hx rfl (hb hby at_274) rfl (l' := #[lI p0, lI p1, lI p2, lJ p3, lS, lI 1, lI 1, lI 0, lI 1, lJ v15, lS, lI v16, lI v17, lR b18, lR b20, lR b22, lI 0, lI 1, lI 2, lI 0, lI 1, lI 1, lU, lU, lU, lU]) rfl k) ?_
            show own_Go p e below s _ _ _ (T370.setTop (mkF m 276 #[lI p0, lI p1, lI p2, lJ p3, lS, lI 1, lI 1, lI 0, lI 1, lJ v15, lS, lI v16, lI v17, lR b18, lR b20, lR b22, lI 0, lI 1, lI 2, lI 0, lI 1, lI 1, lU, lU, lU, lU] []))
            refine own_via (fun _ k => XS.iconst X370.here hx rfl (hb hby at_276) k) ?_
            show own_Go p e below s _ _ _ (T370.setTop (mkF m 277 #[lI p0, lI p1, lI p2, lJ p3, lS, lI 1, lI 1, lI 0, lI 1, lJ v15, lS, lI v16, lI v17, lR b18, lR b20, lR b22, lI 0, lI 1, lI 2, lI 0, lI 1, lI 1, lU, lU, lU, lU] [(.int (-1 : Int32))]))
            refine own_via (fun _ k => XS.istore X370.here hx rfl (hb hby at_277) rfl (l' := #[lI p0, lI p1, lI p2, lJ p3, lS, lI 1, lI 1, lI 0, lI 1, lJ v15, lS, lI v16, lI v17, lR b18, lR b20, lR b22, lI 0, lI 1, lI 2, lI 0, lI 1, lI 1, lI (-1), lU, lU, lU]) rfl k) ?_
            show own_Go p e below s _ _ _ (T370.setTop (mkF m 279 #[lI p0, lI p1, lI p2, lJ p3, lS, lI 1, lI 1, lI 0, lI 1, lJ v15, lS, lI v16, lI v17, lR b18, lR b20, lR b22, lI 0, lI 1, lI 2, lI 0, lI 1, lI 1, lI (-1), lU, lU, lU] []))
            refine own_via (fun _ k => XS.iload X370.here hx rfl (hb hby at_279) rfl k) ?_
            show own_Go p e below s _ _ _ (T370.setTop (mkF m 281 #[lI p0, lI p1, lI p2, lJ p3, lS, lI 1, lI 1, lI 0, lI 1, lJ v15, lS, lI v16, lI v17, lR b18, lR b20, lR b22, lI 0, lI 1, lI 2, lI 0, lI 1, lI 1, lI (-1), lU, lU, lU] [(.int (1 : Int32))]))
            refine own_via (fun _ k => XS.ifNo X370.here hx rfl (hb hby at_281) rfl (Jvm.Free.XT.i0_eq_f (by decide)) k) ?_
            show own_Go p e below s _ _ _ (T370.setTop (mkF m 284 #[lI p0, lI p1, lI p2, lJ p3, lS, lI 1, lI 1, lI 0, lI 1, lJ v15, lS, lI v16, lI v17, lR b18, lR b20, lR b22, lI 0, lI 1, lI 2, lI 0, lI 1, lI 1, lI (-1), lU, lU, lU] []))
            refine own_via (fun _ k => XS.iload X370.here hx rfl (hb hby at_284) rfl k) ?_
            show own_Go p e below s _ _ _ (T370.setTop (mkF m 286 #[lI p0, lI p1, lI p2, lJ p3, lS, lI 1, lI 1, lI 0, lI 1, lJ v15, lS, lI v16, lI v17, lR b18, lR b20, lR b22, lI 0, lI 1, lI 2, lI 0, lI 1, lI 1, lI (-1), lU, lU, lU] [(.int (1 : Int32))]))
            refine own_via (fun _ k => XS.ifNo X370.here hx rfl (hb hby at_286) rfl (Jvm.Free.XT.i0_eq_f (by decide)) k) ?_
            show own_Go p e below s _ _ _ (T370.setTop (mkF m 289 #[lI p0, lI p1, lI p2, lJ p3, lS, lI 1, lI 1, lI 0, lI 1, lJ v15, lS, lI v16, lI v17, lR b18, lR b20, lR b22, lI 0, lI 1, lI 2, lI 0, lI 1, lI 1, lI (-1), lU, lU, lU] []))
            refine own_via (fun _ k => XS.iload X370.here hx rfl (hb hby at_289) rfl k) ?_
            show own_Go p e below s _ _ _ (T370.setTop (mkF m 291 #[lI p0, lI p1, lI p2, lJ p3, lS, lI 1, lI 1, lI 0, lI 1, lJ v15, lS, lI v16, lI v17, lR b18, lR b20, lR b22, lI 0, lI 1, lI 2, lI 0, lI 1, lI 1, lI (-1), lU, lU, lU] [(.int (1 : Int32))]))
            refine own_via (fun _ k => XS.ifNo X370.here hx rfl (hb hby at_291) rfl (Jvm.Free.XT.i0_eq_f (by decide)) k) ?_
            show own_Go p e below s _ _ _ (T370.setTop (mkF m 294 #[lI p0, lI p1, lI p2, lJ p3, lS, lI 1, lI 1, lI 0, lI 1, lJ v15, lS, lI v16, lI v17, lR b18, lR b20, lR b22, lI 0, lI 1, lI 2, lI 0, lI 1, lI 1, lI (-1), lU, lU, lU] []))
            refine own_via (fun _ k => XS.iload X370.here hx rfl (hb hby at_294) rfl k) ?_
            show own_Go p e below s _ _ _ (T370.setTop (mkF m 296 #[lI p0, lI p1, lI p2, lJ p3, lS, lI 1, lI 1, lI 0, lI 1, lJ v15, lS, lI v16, lI v17, lR b18, lR b20, lR b22, lI 0, lI 1, lI 2, lI 0, lI 1, lI 1, lI (-1), lU, lU, lU] [(.int v16)]))
            refine own_via (fun _ k => XS.iload X370.here hx rfl (hb hby at_296) rfl k) ?_
            show own_Go p e below s _ _ _ (T370.setTop (mkF m 298 #[lI p0, lI p1, lI p2, lJ p3, lS, lI 1, lI 1, lI 0, lI 1, lJ v15, lS, lI v16, lI v17, lR b18, lR b20, lR b22, lI 0, lI 1, lI 2, lI 0, lI 1, lI 1, lI (-1), lU, lU, lU] [(.int v17), (.int v16)]))
            have hc375 : v17 < v16 := hlt
            refine own_via (fun _ k => XS.icmpYes X370.here hx rfl (pc0 := 298) (pc' := 308) rfl (hb hby at_298) rfl (Jvm.Free.XT.ii_gt_t hc375) (by decide) (by decide) k) ?_
            show own_Go p e below s _ _ _ (T370.setTop (mkF m 308 #[lI p0, lI p1, lI p2, lJ p3, lS, lI 1, lI 1, lI 0, lI 1, lJ v15, lS, lI v16, lI v17, lR b18, lR b20, lR b22, lI 0, lI 1, lI 2, lI 0, lI 1, lI 1, lI (-1), lU, lU, lU] []))
            refine own_via (fun _ k => XS.iload X370.here hx rfl (hb hby at_308) rfl k) ?_
            show own_Go p e below s _ _ _ (T370.setTop (mkF m 310 #[lI p0, lI p1, lI p2, lJ p3, lS, lI 1, lI 1, lI 0, lI 1, lJ v15, lS, lI v16, lI v17, lR b18, lR b20, lR b22, lI 0, lI 1, lI 2, lI 0, lI 1, lI 1, lI (-1), lU, lU, lU] [(.int (1 : Int32))]))
            refine own_via (fun _ k => XS.istore X370.here hx rfl (hb hby at_310) rfl (l' := #[lI p0, lI p1, lI p2, lJ p3, lS, lI 1, lI 1, lI 0, lI 1, lJ v15, lS, lI v16, lI v17, lR b18, lR b20, lR b22, lI 0, lI 1, lI 2, lI 0, lI 1, lI 1, lI 1, lU, lU, lU]) rfl k) ?_
            show own_Go p e below s _ _ _ (T370.setTop (mkF m 312 #[lI p0, lI p1, lI p2, lJ p3, lS, lI 1, lI 1, lI 0, lI 1, lJ v15, lS, lI v16, lI v17, lR b18, lR b20, lR b22, lI 0, lI 1, lI 2, lI 0, lI 1, lI 1, lI 1, lU, lU, lU] []))
            exact jz (1 : Int32) (1 : Int32) (0 : Int32) (1 : Int32) (0 : Int32) (1 : Int32) (1 : Int32) (1 : Int32) (own_pol (own_inc (own_inc (0 : Int64) (0 : Int32) v15) (1 : Int32) v15) (0 : Int32) (1 : Int32) v15) _ _ _ X370 e370 N370 Z370 F373 F374 (rfl) (by rcases own_l3 v15 with ⟨a1, a2⟩ | ⟨a1, a2⟩ | ⟨a1, a2⟩ <;> simp only [own_exp, own_any, own_pol, own_inc, own_dec, own_w0, own_w1, a1, a2, if_true, if_false, reduceIte] <;> decide)
        · show own_Go p e below s _ _ _ (T352.setTop (mkF m 190 #[lI p0, lI p1, lI p2, lJ p3, lS, lI 1, lI 1, lI 1, lI v12, lJ v15, lS, lI v16, lI v17, lR b18, lR b20, lR b22, lI 0, lI 1, lI 2, lU, lU, lU, lU, lU, lU, lU] []))
          refine own_via (fun _ k => XS.iload X352.here hx rfl (hb hby at_190) rfl k) ?_
          show own_Go p e below s _ _ _ (T352.setTop (mkF m 192 #[lI p0, lI p1, lI p2, lJ p3, lS, lI 1, lI 1, lI 1, lI v12, lJ v15, lS, lI v16, lI v17, lR b18, lR b20, lR b22, lI 0, lI 1, lI 2, lU, lU, lU, lU, lU, lU, lU] [(.int (1 : Int32))]))
          refine own_via (fun _ k => XS.ifNo X352.here hx rfl (hb hby at_192) rfl (Jvm.Free.XT.i0_eq_f (by decide)) k) ?_
          show own_Go p e below s _ _ _ (T352.setTop (mkF m 195 #[lI p0, lI p1, lI p2, lJ p3, lS, lI 1, lI 1, lI 1, lI v12, lJ v15, lS, lI v16, lI v17, lR b18, lR b20, lR b22, lI 0, lI 1, lI 2, lU, lU, lU, lU, lU, lU, lU] []))
          refine own_via (fun _ k => XS.iload X352.here hx rfl (hb hby at_195) rfl k) ?_
          show own_Go p e below s _ _ _ (T352.setTop (mkF m 197 #[lI p0, lI p1, lI p2, lJ p3, lS, lI 1, lI 1, lI 1, lI v12, lJ v15, lS, lI v16, lI v17, lR b18, lR b20, lR b22, lI 0, lI 1, lI 2, lU, lU, lU, lU, lU, lU, lU] [(.int (1 : Int32))]))
          refine own_via (fun _ k => XS.ifNo X352.here hx rfl (hb hby at_197) rfl (Jvm.Free.XT.i0_eq_f (by decide)) k) ?_
          show own_Go p e below s _ _ _ (T352.setTop (mkF m 200 #[lI p0, lI p1, lI p2, lJ p3, lS, lI 1, lI 1, lI 1, lI v12, lJ v15, lS, lI v16, lI v17, lR b18, lR b20, lR b22, lI 0, lI 1, lI 2, lU, lU, lU, lU, lU, lU, lU] []))
          refine own_via (fun _ k => XS.iconst X352.here hx rfl (hb hby at_200) k) ?_
          show own_Go p e below s _ _ _ (T352.setTop (mkF m 201 #[lI p0, lI p1, lI p2, lJ p3, lS, lI 1, lI 1, lI 1, lI v12, lJ v15, lS, lI v16, lI v17, lR b18, lR b20, lR b22, lI 0, lI 1, lI 2, lU, lU, lU, lU, lU, lU, lU] [(.int (1 : Int32))]))
          refine own_via (fun _ k => XS.goto X352.here hx rfl (pc0 := 201) (pc' := 205) rfl (hb hby at_201) (by decide) (by decide) k) ?_
          show own_Go p e below s _ _ _ (T352.setTop (mkF m 205 #[lI p0, lI p1, lI p2, lJ p3, lS, lI 1, lI 1, lI 1, lI v12, lJ v15, lS, lI v16, lI v17, lR b18, lR b20, lR b22, lI 0, lI 1, lI 2, lU, lU, lU, lU, lU, lU, lU] [(.int (1 : Int32))]))
          refine own_via (fun _ k => XS.istore X352.here hx rfl (hb hby at_205) rfl (l' := #[lI p0, lI p1, lI p2, lJ p3, lS, lI 1, lI 1, lI 1, lI v12, lJ v15, lS, lI v16, lI v17, lR b18, lR b20, lR b22, lI 0, lI 1, lI 2, lI 1, lU, lU, lU, lU, lU, lU]) rfl k) ?_
          show own_Go p e below s _ _ _ (T352.setTop (mkF m 207 #[lI p0, lI p1, lI p2, lJ p3, lS, lI 1, lI 1, lI 1, lI v12, lJ v15, lS, lI v16, lI v17, lR b18, lR b20, lR b22, lI 0, lI 1, lI 2, lI 1, lU, lU, lU, lU, lU, lU] []))
          refine own_via (fun _ k => XS.iload X352.here hx rfl (hb hby at_207) rfl k) ?_
          show own_Go p e below s _ _ _ (T352.setTop (mkF m 209 #[lI p0, lI p1, lI p2, lJ p3, lS, lI 1, lI 1, lI 1, lI v12, lJ v15, lS, lI v16, lI v17, lR b18, lR b20, lR b22, lI 0, lI 1, lI 2, lI 1, lU, lU, lU, lU, lU, lU] [(.int (1 : Int32))]))
          refine own_via (fun _ k => XS.ifNo X352.here hx rfl (hb hby at_209) rfl (Jvm.Free.XT.i0_eq_f (by decide)) k) ?_
          show own_Go p e below s _ _ _ (T352.setTop (mkF m 212 #[lI p0, lI p1, lI p2, lJ p3, lS, lI 1, lI 1, lI 1, lI v12, lJ v15, lS, lI v16, lI v17, lR b18, lR b20, lR b22, lI 0, lI 1, lI 2, lI 1, lU, lU, lU, lU, lU, lU] []))
          refine own_via (fun _ k => XS.aload X352.here hx rfl (hb hby at_212) rfl rfl k) ?_
          show own_Go p e below s _ _ _ (T352.setTop (mkF m 214 #[lI p0, lI p1, lI p2, lJ p3, lS, lI 1, lI 1, lI 1, lI v12, lJ v15, lS, lI v16, lI v17, lR b18, lR b20, lR b22, lI 0, lI 1, lI 2, lI 1, lU, lU, lU, lU, lU, lU] [(.ref b22)]))
          refine own_via (fun _ k => XS.aload X352.here hx rfl (hb hby at_214) rfl rfl k) ?_
          show own_Go p e below s _ _ _ (T352.setTop (mkF m 216 #[lI p0, lI p1, lI p2, lJ p3, lS, lI 1, lI 1, lI 1, lI v12, lJ v15, lS, lI v16, lI v17, lR b18, lR b20, lR b22, lI 0, lI 1, lI 2, lI 1, lU, lU, lU, lU, lU, lU] [(.ref b20), (.ref b22)]))
          have F377 := (((((F80.keep Kq140 (ninS (Ne.symm ne_b22_bT_42) (ninS (Ne.symm F90) (ninS (Ne.symm F99) (ninS (Ne.symm F107) (ninS (Ne.symm F114) (ninS (Ne.symm F120) (ninS (Ne.symm F125) nin0)))))))).keep Kq173 (ninS (Ne.symm ne_b22_bT_42) (ninS (Ne.symm F90) (ninS (Ne.symm F99) (ninS (Ne.symm F107) (ninS (Ne.symm F114) (ninS (Ne.symm F120) (ninS (Ne.symm F125) nin0)))))))).keep Kq206 (ninS (Ne.symm ne_b22_bT_42) (ninS (Ne.symm F90) (ninS (Ne.symm F99) (ninS (Ne.symm F107) (ninS (Ne.symm F114) (ninS (Ne.symm F120) (ninS (Ne.symm F125) nin0)))))))).keep Kq327 (ninS (Ne.symm ne_b22_bT_42) (ninS F135 (ninS F136 nin0)))).keep Kq352 (ninS (Ne.symm ne_b22_bT_42) (ninS F135 (ninS F136 nin0))))
          have F378 := (((F207.keep Kq206 (ninS ne_b20_b22 (ninS ne_b20_bs_42 (ninS ne_b20_bc_42 (ninS ne_b20_bt_42 (ninS ne_b20_bl_42 (ninS ne_b20_bp_42 (ninS ne_b20_bu_42 nin0)))))))).keep Kq327 (ninS ne_b20_b22 (ninS ne_b20_bf_42 (ninS ne_b20_br_42 nin0)))).keep Kq352 (ninS ne_b20_b22 (ninS ne_b20_bf_42 (ninS ne_b20_br_42 nin0))))
          obtain ⟨cq376, kq376, qa376, qb376, qc376⟩ := isOf hZ e352 F355
          obtain ⟨_, _, ⟨T376, L376, k376, n376⟩, -, X376, ⟨Lc376, hQ376, l376, y376, z376⟩, st376⟩ := X352.virtualBack hx (y := (⟨"com/example/trajectory/trajectory/search/Nodes", "slot", "([J)I"⟩ : MethodName)) (z := (⟨"com/example/trajectory/trajectory/search/Nodes", "slot", "([J)I"⟩ : MethodName)) hown (mvT hZ (hwi hw 103 rfl)) (mvT hZ (hwi hw 104 rfl)) (notFace_of_selects (args := #[]) (mvT hZ (hwi hw 106 rfl))) (mvT hZ (hwi hw 106 rfl)) (mvT hZ (hwi hw 105 rfl)) (by decide) (backOf (W := 0) (rm14 l Z a0 hw [] b22 b20 bT_42 kT_42 wT_42 k20 h352 n0 Z352 F355 F356 F362 F377 F378 F139) hZ (hwi hw 107 rfl) (hwi hw 4 rfl) (by decide) (by decide)) qa376 qc376 (g := (mkF m 216 #[lI p0, lI p1, lI p2, lJ p3, lS, lI 1, lI 1, lI 1, lI v12, lJ v15, lS, lI v16, lI v17, lR b18, lR b20, lR b22, lI 0, lI 1, lI 2, lI 1, lU, lU, lU, lU, lU, lU] [(.ref b20), (.ref b22)])) rfl (by rw [hml]; rfl) (Steps.refl _) (argsL := [(.ref b20)]) (rest := []) (lenOf pd_12 rfl) rfl (by show 2 * 0 + _ ≤ _; exact Nat.le_of_eq rfl) (hb hby at_216) (fun _ _ => ⟨rfl, e352, (by decide : 14 + 0 ≤ _), (by decide : 789 + 0 ≤ _)⟩)
          dsimp only [Pt.U, Pt.locs, Pt.cells, Pt.slots] at X376 l376 y376 z376 st376 hQ376
          subst l376 y376 z376
          obtain ⟨rfl, N376q, e376⟩ := hQ376
          have N376 := Fr.app N352 N376q
          refine own_viaT st376 ?_
          show own_Go p e below s _ _ _ (T376.setTop (mkF m 219 #[lI p0, lI p1, lI p2, lJ p3, lS, lI 1, lI 1, lI 1, lI v12, lJ v15, lS, lI v16, lI v17, lR b18, lR b20, lR b22, lI 0, lI 1, lI 2, lI 1, lU, lU, lU, lU, lU, lU] [(.int (44 : Int32))]))
          refine own_via (fun _ k => XS.istore X376.here hx rfl (hb hby at_219) rfl (l' := #[lI p0, lI p1, lI p2, lJ p3, lS, lI 1, lI 1, lI 1, lI v12, lJ v15, lS, lI v16, lI v17, lR b18, lR b20, lR b22, lI 0, lI 1, lI 2, lI 1, lI 44, lU, lU, lU, lU, lU]) rfl k) ?_
          show own_Go p e below s _ _ _ (T376.setTop (mkF m 221 #[lI p0, lI p1, lI p2, lJ p3, lS, lI 1, lI 1, lI 1, lI v12, lJ v15, lS, lI v16, lI v17, lR b18, lR b20, lR b22, lI 0, lI 1, lI 2, lI 1, lI 44, lU, lU, lU, lU, lU] []))
          refine own_via (fun _ k => XS.aload X376.here hx rfl (hb hby at_221) rfl rfl k) ?_
          show own_Go p e below s _ _ _ (T376.setTop (mkF m 223 #[lI p0, lI p1, lI p2, lJ p3, lS, lI 1, lI 1, lI 1, lI v12, lJ v15, lS, lI v16, lI v17, lR b18, lR b20, lR b22, lI 0, lI 1, lI 2, lI 1, lI 44, lU, lU, lU, lU, lU] [(.ref b22)]))
          refine own_via (fun _ k => XS.iload X376.here hx rfl (hb hby at_223) rfl k) ?_
          show own_Go p e below s _ _ _ (T376.setTop (mkF m 225 #[lI p0, lI p1, lI p2, lJ p3, lS, lI 1, lI 1, lI 1, lI v12, lJ v15, lS, lI v16, lI v17, lR b18, lR b20, lR b22, lI 0, lI 1, lI 2, lI 1, lI 44, lU, lU, lU, lU, lU] [(.int (44 : Int32)), (.ref b22)]))
          refine own_via (fun _ k => XS.iload X376.here hx rfl (hb hby at_225) rfl k) ?_
          show own_Go p e below s _ _ _ (T376.setTop (mkF m 227 #[lI p0, lI p1, lI p2, lJ p3, lS, lI 1, lI 1, lI 1, lI v12, lJ v15, lS, lI v16, lI v17, lR b18, lR b20, lR b22, lI 0, lI 1, lI 2, lI 1, lI 44, lU, lU, lU, lU, lU] [(.int (1 : Int32)), (.int (44 : Int32)), (.ref b22)]))
          have F380 := (((((F79.keep Kq140 (ninS (Ne.symm ne_b22_bk_42) (ninS (Ne.symm F89) (ninS (Ne.symm F98) (ninS (Ne.symm F106) (ninS (Ne.symm F113) (ninS (Ne.symm F119) (ninS (Ne.symm F124) nin0)))))))).keep Kq173 (ninS (Ne.symm ne_b22_bk_42) (ninS (Ne.symm F89) (ninS (Ne.symm F98) (ninS (Ne.symm F106) (ninS (Ne.symm F113) (ninS (Ne.symm F119) (ninS (Ne.symm F124) nin0)))))))).keep Kq206 (ninS (Ne.symm ne_b22_bk_42) (ninS (Ne.symm F89) (ninS (Ne.symm F98) (ninS (Ne.symm F106) (ninS (Ne.symm F113) (ninS (Ne.symm F119) (ninS (Ne.symm F124) nin0)))))))).keep Kq327 (ninS (Ne.symm ne_b22_bk_42) (ninS F133 (ninS F134 nin0)))).keep Kq352 (ninS (Ne.symm ne_b22_bk_42) (ninS F133 (ninS F134 nin0))))
          obtain ⟨cq379, kq379, qa379, qb379, qc379⟩ := isOf hZ e376 F355
          obtain ⟨_, _, ⟨T379, L379, k379, n379⟩, -, X379, ⟨Lc379, hQ379, l379, y379, z379⟩, st379⟩ := X376.virtualBack hx (y := (⟨"com/example/trajectory/trajectory/search/Nodes", "keep", "(II)V"⟩ : MethodName)) (z := (⟨"com/example/trajectory/trajectory/search/Nodes", "keep", "(II)V"⟩ : MethodName)) hown (mvT hZ (hwi hw 113 rfl)) (mvT hZ (hwi hw 114 rfl)) (notFace_of_selects (args := #[]) (mvT hZ (hwi hw 116 rfl))) (mvT hZ (hwi hw 116 rfl)) (mvT hZ (hwi hw 115 rfl)) (by decide) (backOf (W := 0) (rmkA l Z a0 hw [] b22 (44 : Int32) (1 : Int32) v15 (own_inc (own_inc (0 : Int64) (0 : Int32) v15) (1 : Int32) v15) (2 : Int32) bc_42 bl_42 bz_42 bk_42 bT_42 bf_42 br_42 kT_42 kk_42 wT_42 h352 n0 Z352 F355 F357 F358 F359 F360 F361 F362 F363 F364 F365 F366 F367 F377 F380 g_b22 g_bk_42 g_bT_42 ne_b22_bk_42 ne_b22_bT_42 F132 rfl rfl F138 F139) hZ (hwi hw 117 rfl) (hwi hw 4 rfl) (by decide) (by decide)) qa379 qc379 (g := (mkF m 227 #[lI p0, lI p1, lI p2, lJ p3, lS, lI 1, lI 1, lI 1, lI v12, lJ v15, lS, lI v16, lI v17, lR b18, lR b20, lR b22, lI 0, lI 1, lI 2, lI 1, lI 44, lU, lU, lU, lU, lU] [(.int (1 : Int32)), (.int (44 : Int32)), (.ref b22)])) rfl (by rw [hml]; rfl) (Steps.refl _) (argsL := [(.int (44 : Int32)), (.int (1 : Int32))]) (rest := []) (lenOf pd_13 rfl) rfl (by show 2 * 0 + _ ≤ _; exact Nat.le_of_eq rfl) (hb hby at_227) (fun _ _ => ⟨rfl, e376, (by decide : 14 + 0 ≤ _), (by decide : 789 + 0 ≤ _)⟩)
          dsimp only [Pt.U, Pt.locs, Pt.cells, Pt.slots] at X379 l379 y379 z379 st379 hQ379
          subst l379 y379 z379
          obtain ⟨h379, e379⟩ : ∃ h, T379.heap = h := ⟨_, rfl⟩
          rw [e379] at hQ379
          obtain ⟨wT_379, rfl, N379q, Kq379, F381, F382, F383, F384, F385, F386, F387, F388, F389, F390, F391, F392, F393, F394, F395, F396⟩ := hQ379
          have Z379 : n0 ≤ h379.size := Nat.le_trans Z352 Kq379.1
          have N379 := Fr.app N376 N379q
          refine own_viaT st379 ?_
          show own_Go p e below s _ _ _ (T379.setTop (mkF m 230 #[lI p0, lI p1, lI p2, lJ p3, lS, lI 1, lI 1, lI 1, lI v12, lJ v15, lS, lI v16, lI v17, lR b18, lR b20, lR b22, lI 0, lI 1, lI 2, lI 1, lI 44, lU, lU, lU, lU, lU] []))
          refine own_via (fun _ k => XS.aload X379.here hx rfl (hb hby at_230) rfl rfl k) ?_
          show own_Go p e below s _ _ _ (T379.setTop (mkF m 232 #[lI p0, lI p1, lI p2, lJ p3, lS, lI 1, lI 1, lI 1, lI v12, lJ v15, lS, lI v16, lI v17, lR b18, lR b20, lR b22, lI 0, lI 1, lI 2, lI 1, lI 44, lU, lU, lU, lU, lU] [(.ref b22)]))
          refine own_via (fun _ k => XS.iload X379.here hx rfl (hb hby at_232) rfl k) ?_
          show own_Go p e below s _ _ _ (T379.setTop (mkF m 234 #[lI p0, lI p1, lI p2, lJ p3, lS, lI 1, lI 1, lI 1, lI v12, lJ v15, lS, lI v16, lI v17, lR b18, lR b20, lR b22, lI 0, lI 1, lI 2, lI 1, lI 44, lU, lU, lU, lU, lU] [(.int (44 : Int32)), (.ref b22)]))
          refine own_via (fun _ k => XS.iload X379.here hx rfl (hb hby at_234) rfl k) ?_
          show own_Go p e below s _ _ _ (T379.setTop (mkF m 236 #[lI p0, lI p1, lI p2, lJ p3, lS, lI 1, lI 1, lI 1, lI v12, lJ v15, lS, lI v16, lI v17, lR b18, lR b20, lR b22, lI 0, lI 1, lI 2, lI 1, lI 44, lU, lU, lU, lU, lU] [(.int (2 : Int32)), (.int (44 : Int32)), (.ref b22)]))
          have F398 := ((F353.keep Kq352 (ninS (Ne.symm ne_b22_bc_42) (ninS F100 (ninS F101 nin0)))).keep Kq379 (ninS (Ne.symm ne_b22_bc_42) (ninS F98 (ninS F99 nin0))))
          have F399 := ((F354.keep Kq352 (ninS (Ne.symm ne_b22_bl_42) (ninS F115 (ninS F116 nin0)))).keep Kq379 (ninS (Ne.symm ne_b22_bl_42) (ninS F113 (ninS F114 nin0))))
          have F400 := ((((((F78.keep Kq140 (ninS (Ne.symm ne_b22_bz_42) (ninS (Ne.symm F88) (ninS (Ne.symm F97) (ninS (Ne.symm F105) (ninS (Ne.symm F112) (ninS (Ne.symm F118) (ninS (Ne.symm F123) nin0)))))))).keep Kq173 (ninS (Ne.symm ne_b22_bz_42) (ninS (Ne.symm F88) (ninS (Ne.symm F97) (ninS (Ne.symm F105) (ninS (Ne.symm F112) (ninS (Ne.symm F118) (ninS (Ne.symm F123) nin0)))))))).keep Kq206 (ninS (Ne.symm ne_b22_bz_42) (ninS (Ne.symm F88) (ninS (Ne.symm F97) (ninS (Ne.symm F105) (ninS (Ne.symm F112) (ninS (Ne.symm F118) (ninS (Ne.symm F123) nin0)))))))).keep Kq327 (ninS (Ne.symm ne_b22_bz_42) (ninS F130 (ninS F131 nin0)))).keep Kq352 (ninS (Ne.symm ne_b22_bz_42) (ninS F130 (ninS F131 nin0)))).keep Kq379 (ninS (Ne.symm ne_b22_bz_42) (ninS F128 (ninS F129 nin0))))
          obtain ⟨cq397, kq397, qa397, qb397, qc397⟩ := isOf hZ e379 F381
          obtain ⟨_, _, ⟨T397, L397, k397, n397⟩, -, X397, ⟨Lc397, hQ397, l397, y397, z397⟩, st397⟩ := X379.virtualBack hx (y := (⟨"com/example/trajectory/trajectory/search/Nodes", "keep", "(II)V"⟩ : MethodName)) (z := (⟨"com/example/trajectory/trajectory/search/Nodes", "keep", "(II)V"⟩ : MethodName)) hown (mvT hZ (hwi hw 113 rfl)) (mvT hZ (hwi hw 114 rfl)) (notFace_of_selects (args := #[]) (mvT hZ (hwi hw 116 rfl))) (mvT hZ (hwi hw 116 rfl)) (mvT hZ (hwi hw 115 rfl)) (by decide) (backOf (W := 0) (rmkB l Z a0 hw [] b22 (44 : Int32) (2 : Int32) v15 (own_inc (own_inc (0 : Int64) (0 : Int32) v15) (1 : Int32) v15) (2 : Int32) (1 : Int32) (1 : Int32) dq1 dq2 v17 (v17 - (1 : Int32)) bc_42 bl_42 bz_42 bk_42 bT_42 bf_42 br_42 kT_42 kk_42 kc_42 kl_42 kz_42 wT_379 [(.double dq0), (.double dq1), (.double dq2), (.double (0 : UInt64))] [(.int (0 : Int32)), (.int (1 : Int32)), (.int (1 : Int32)), (.int (0 : Int32))] h379 n0 Z379 F381 F382 F383 F384 F385 F386 F387 F388 F389 F390 F391 F392 F393 F394 F398 F399 F400 g_b22 g_bk_42 g_bT_42 g_bz_42 ne_b22_bk_42 ne_b22_bT_42 ne_b22_bz_42 F132 (Ne.symm F128) (Ne.symm F129) F112 rfl rfl F395 F396 rfl rfl rfl rfl (own_cm hv17) (by decide) hdq2.symm hdq1.symm) hZ (hwi hw 117 rfl) (hwi hw 4 rfl) (by decide) (by decide)) qa397 qc397 (g := (mkF m 236 #[lI p0, lI p1, lI p2, lJ p3, lS, lI 1, lI 1, lI 1, lI v12, lJ v15, lS, lI v16, lI v17, lR b18, lR b20, lR b22, lI 0, lI 1, lI 2, lI 1, lI 44, lU, lU, lU, lU, lU] [(.int (2 : Int32)), (.int (44 : Int32)), (.ref b22)])) rfl (by rw [hml]; rfl) (Steps.refl _) (argsL := [(.int (44 : Int32)), (.int (2 : Int32))]) (rest := []) (lenOf pd_13 rfl) rfl (by show 2 * 0 + _ ≤ _; exact Nat.le_of_eq rfl) (hb hby at_236) (fun _ _ => ⟨rfl, e379, (by decide : 14 + 0 ≤ _), (by decide : 789 + 0 ≤ _)⟩)
          dsimp only [Pt.U, Pt.locs, Pt.cells, Pt.slots] at X397 l397 y397 z397 st397 hQ397
          subst l397 y397 z397
          obtain ⟨h397, e397⟩ : ∃ h, T397.heap = h := ⟨_, rfl⟩
          rw [e397] at hQ397
          obtain ⟨rfl, N397q, Kq397, F401, F402, F403, F404, F405, F406, F407, F408, F409⟩ := hQ397
          have Z397 : n0 ≤ h397.size := Nat.le_trans Z379 Kq397.1
          have N397 := Fr.app N379 N397q
          refine own_viaT st397 ?_
          show own_Go p e below s _ _ _ (T397.setTop (mkF m 239 #[lI p0, lI p1, lI p2, lJ p3, lS, lI 1, lI 1, lI 1, lI v12, lJ v15, lS, lI v16, lI v17, lR b18, lR b20, lR b22, lI 0, lI 1, lI 2, lI 1, lI 44, lU, lU, lU, lU, lU] []))
          rcases (own_01 hv12) with rfl | rfl
          · show own_Go p e below s _ _ _ (T397.setTop (mkF m 239 #[lI p0, lI p1, lI p2, lJ p3, lS, lI 1, lI 1, lI 1, lI 0, lJ v15, lS, lI v16, lI v17, lR b18, lR b20, lR b22, lI 0, lI 1, lI 2, lI 1, lI 44, lU, lU, lU, lU, lU] []))
            refine own_via (fun _ k => XS.iload X397.here hx rfl (hb hby at_239) rfl k) ?_
            show own_Go p e below s _ _ _ (T397.setTop (mkF m 241 #[lI p0, lI p1, lI p2, lJ p3, lS, lI 1, lI 1, lI 1, lI 0, lJ v15, lS, lI v16, lI v17, lR b18, lR b20, lR b22, lI 0, lI 1, lI 2, lI 1, lI 44, lU, lU, lU, lU, lU] [(.int (0 : Int32))]))
            refine own_via (fun _ k => XS.ifYes X397.here hx rfl (pc0 := 241) (pc' := 258) rfl (hb hby at_241) rfl (Jvm.Free.XT.i0_eq_t (by decide)) (by decide) (by decide) k) ?_
            show own_Go p e below s _ _ _ (T397.setTop (mkF m 258 #[lI p0, lI p1, lI p2, lJ p3, lS, lI 1, lI 1, lI 1, lI 0, lJ v15, lS, lI v16, lI v17, lR b18, lR b20, lR b22, lI 0, lI 1, lI 2, lI 1, lI 44, lU, lU, lU, lU, lU] []))
            refine own_via (fun _ k => XS.iconst X397.here hx rfl (hb hby at_258) k) ?_
            show own_Go p e below s _ _ _ (T397.setTop (mkF m 259 #[lI p0, lI p1, lI p2, lJ p3, lS, lI 1, lI 1, lI 1, lI 0, lJ v15, lS, lI v16, lI v17, lR b18, lR b20, lR b22, lI 0, lI 1, lI 2, lI 1, lI 44, lU, lU, lU, lU, lU] [(.int (0 : Int32))]))
            refine own_via (fun _ k => XS.istore X397.here hx rfl (hb hby at_259) rfl (l' := #[lI p0, lI p1, lI p2, lJ p3, lS, lI 1, lI 1, lI 1, lI 0, lJ v15, lS, lI v16, lI v17, lR b18, lR b20, lR b22, lI 0, lI 1, lI 2, lI 1, lI 0, lU, lU, lU, lU, lU]) rfl k) ?_
            show own_Go p e below s _ _ _ (T397.setTop (mkF m 261 #[lI p0, lI p1, lI p2, lJ p3, lS, lI 1, lI 1, lI 1, lI 0, lJ v15, lS, lI v16, lI v17, lR b18, lR b20, lR b22, lI 0, lI 1, lI 2, lI 1, lI 0, lU, lU, lU, lU, lU] []))
            refine own_via (fun _ k => XS.iconst X397.here hx rfl (hb hby at_261) k) ?_
            show own_Go p e below s _ _ _ (T397.setTop (mkF m 262 #[lI p0, lI p1, lI p2, lJ p3, lS, lI 1, lI 1, lI 1, lI 0, lJ v15, lS, lI v16, lI v17, lR b18, lR b20, lR b22, lI 0, lI 1, lI 2, lI 1, lI 0, lU, lU, lU, lU, lU] [(.int (-1 : Int32))]))
            refine own_via (fun _ k => XS.istore X397.here hx rfl (hb hby at_262) rfl (l' := #[lI p0, lI p1, lI p2, lJ p3, lS, lI 1, lI 1, lI 1, lI 0, lJ v15, lS, lI v16, lI v17, lR b18, lR b20, lR b22, lI 0, lI 1, lI 2, lI 1, lI 0, lI (-1), lU, lU, lU, lU]) rfl k) ?_
            show own_Go p e below s _ _ _ (T397.setTop (mkF m 264 #[lI p0, lI p1, lI p2, lJ p3, lS, lI 1, lI 1, lI 1, lI 0, lJ v15, lS, lI v16, lI v17, lR b18, lR b20, lR b22, lI 0, lI 1, lI 2, lI 1, lI 0, lI (-1), lU, lU, lU, lU] []))
            refine own_via (fun _ k => XS.iload X397.here hx rfl (hb hby at_264) rfl k) ?_
            show own_Go p e below s _ _ _ (T397.setTop (mkF m 266 #[lI p0, lI p1, lI p2, lJ p3, lS, lI 1, lI 1, lI 1, lI 0, lJ v15, lS, lI v16, lI v17, lR b18, lR b20, lR b22, lI 0, lI 1, lI 2, lI 1, lI 0, lI (-1), lU, lU, lU, lU] [(.int (0 : Int32))]))
            refine own_via (fun _ k => XS.ifYes X397.here hx rfl (pc0 := 266) (pc' := 276) rfl (hb hby at_266) rfl (Jvm.Free.XT.i0_eq_t (by decide)) (by decide) (by decide) k) ?_
            show own_Go p e below s _ _ _ (T397.setTop (mkF m 276 #[lI p0, lI p1, lI p2, lJ p3, lS, lI 1, lI 1, lI 1, lI 0, lJ v15, lS, lI v16, lI v17, lR b18, lR b20, lR b22, lI 0, lI 1, lI 2, lI 1, lI 0, lI (-1), lU, lU, lU, lU] []))
            refine own_via (fun _ k => XS.iconst X397.here hx rfl (hb hby at_276) k) ?_
            show own_Go p e below s _ _ _ (T397.setTop (mkF m 277 #[lI p0, lI p1, lI p2, lJ p3, lS, lI 1, lI 1, lI 1, lI 0, lJ v15, lS, lI v16, lI v17, lR b18, lR b20, lR b22, lI 0, lI 1, lI 2, lI 1, lI 0, lI (-1), lU, lU, lU, lU] [(.int (-1 : Int32))]))
            refine own_via (fun _ k => XS.istore X397.here hx rfl (hb hby at_277) rfl (l' := #[lI p0, lI p1, lI p2, lJ p3, lS, lI 1, lI 1, lI 1, lI 0, lJ v15, lS, lI v16, lI v17, lR b18, lR b20, lR b22, lI 0, lI 1, lI 2, lI 1, lI 0, lI (-1), lI (-1), lU, lU, lU]) rfl k) ?_
            show own_Go p e below s _ _ _ (T397.setTop (mkF m 279 #[lI p0, lI p1, lI p2, lJ p3, lS, lI 1, lI 1, lI 1, lI 0, lJ v15, lS, lI v16, lI v17, lR b18, lR b20, lR b22, lI 0, lI 1, lI 2, lI 1, lI 0, lI (-1), lI (-1), lU, lU, lU] []))
            refine own_via (fun _ k => XS.iload X397.here hx rfl (hb hby at_279) rfl k) ?_
            show own_Go p e below s _ _ _ (T397.setTop (mkF m 281 #[lI p0, lI p1, lI p2, lJ p3, lS, lI 1, lI 1, lI 1, lI 0, lJ v15, lS, lI v16, lI v17, lR b18, lR b20, lR b22, lI 0, lI 1, lI 2, lI 1, lI 0, lI (-1), lI (-1), lU, lU, lU] [(.int (0 : Int32))]))
            refine own_via (fun _ k => XS.ifYes X397.here hx rfl (pc0 := 281) (pc' := 312) rfl (hb hby at_281) rfl (Jvm.Free.XT.i0_eq_t (by decide)) (by decide) (by decide) k) ?_
            show own_Go p e below s _ _ _ (T397.setTop (mkF m 312 #[lI p0, lI p1, lI p2, lJ p3, lS, lI 1, lI 1, lI 1, lI 0, lJ v15, lS, lI v16, lI v17, lR b18, lR b20, lR b22, lI 0, lI 1, lI 2, lI 1, lI 0, lI (-1), lI (-1), lU, lU, lU] []))
            exact jz (1 : Int32) (1 : Int32) (1 : Int32) (0 : Int32) (1 : Int32) (0 : Int32) (-1 : Int32) (-1 : Int32) (own_dec (own_inc (own_inc (0 : Int64) (0 : Int32) v15) (1 : Int32) v15) (1 : Int32) v15) _ _ _ X397 e397 N397 Z397 F401 F408 (rfl) (by rcases own_l3 v15 with ⟨a1, a2⟩ | ⟨a1, a2⟩ | ⟨a1, a2⟩ <;> simp only [own_exp, own_any, own_pol, own_inc, own_dec, own_w0, own_w1, a1, a2, if_true, if_false, reduceIte] <;> decide)
          · show own_Go p e below s _ _ _ (T397.setTop (mkF m 239 #[lI p0, lI p1, lI p2, lJ p3, lS, lI 1, lI 1, lI 1, lI 1, lJ v15, lS, lI v16, lI v17, lR b18, lR b20, lR b22, lI 0, lI 1, lI 2, lI 1, lI 44, lU, lU, lU, lU, lU] []))
            refine own_via (fun _ k => XS.iload X397.here hx rfl (hb hby at_239) rfl k) ?_
            show own_Go p e below s _ _ _ (T397.setTop (mkF m 241 #[lI p0, lI p1, lI p2, lJ p3, lS, lI 1, lI 1, lI 1, lI 1, lJ v15, lS, lI v16, lI v17, lR b18, lR b20, lR b22, lI 0, lI 1, lI 2, lI 1, lI 44, lU, lU, lU, lU, lU] [(.int (1 : Int32))]))
            refine own_via (fun _ k => XS.ifNo X397.here hx rfl (hb hby at_241) rfl (Jvm.Free.XT.i0_eq_f (by decide)) k) ?_
            show own_Go p e below s _ _ _ (T397.setTop (mkF m 244 #[lI p0, lI p1, lI p2, lJ p3, lS, lI 1, lI 1, lI 1, lI 1, lJ v15, lS, lI v16, lI v17, lR b18, lR b20, lR b22, lI 0, lI 1, lI 2, lI 1, lI 44, lU, lU, lU, lU, lU] []))
            refine own_via (fun _ k => XS.iload X397.here hx rfl (hb hby at_244) rfl k) ?_
            show own_Go p e below s _ _ _ (T397.setTop (mkF m 246 #[lI p0, lI p1, lI p2, lJ p3, lS, lI 1, lI 1, lI 1, lI 1, lJ v15, lS, lI v16, lI v17, lR b18, lR b20, lR b22, lI 0, lI 1, lI 2, lI 1, lI 44, lU, lU, lU, lU, lU] [(.int (1 : Int32))]))
            refine own_via (fun _ k => XS.ifYes X397.here hx rfl (pc0 := 246) (pc' := 254) rfl (hb hby at_246) rfl (Jvm.Free.XT.i0_ne_t (by decide)) (by decide) (by decide) k) ?_
            show own_Go p e below s _ _ _ (T397.setTop (mkF m 254 #[lI p0, lI p1, lI p2, lJ p3, lS, lI 1, lI 1, lI 1, lI 1, lJ v15, lS, lI v16, lI v17, lR b18, lR b20, lR b22, lI 0, lI 1, lI 2, lI 1, lI 44, lU, lU, lU, lU, lU] []))
            refine own_via (fun _ k => XS.iconst X397.here hx rfl (hb hby at_254) k) ?_
            show own_Go p e below s _ _ _ (T397.setTop (mkF m 255 #[lI p0, lI p1, lI p2, lJ p3, lS, lI 1, lI 1, lI 1, lI 1, lJ v15, lS, lI v16, lI v17, lR b18, lR b20, lR b22, lI 0, lI 1, lI 2, lI 1, lI 44, lU, lU, lU, lU, lU] [(.int (1 : Int32))]))
            refine own_via (fun _ k => XS.goto X397.here hx rfl (pc0 := 255) (pc' := 259) rfl (hb hby at_255) (by decide) (by decide) k) ?_
            show own_Go p e below s _ _ _ (T397.setTop (mkF m 259 #[lI p0, lI p1, lI p2, lJ p3, lS, lI 1, lI 1, lI 1, lI 1, lJ v15, lS, lI v16, lI v17, lR b18, lR b20, lR b22, lI 0, lI 1, lI 2, lI 1, lI 44, lU, lU, lU, lU, lU] [(.int (1 : Int32))]))
            refine own_via (fun _ k => XS.istore X397.here hx rfl (hb hby at_259) rfl (l' := #[lI p0, lI p1, lI p2, lJ p3, lS, lI 1, lI 1, lI 1, lI 1, lJ v15, lS, lI v16, lI v17, lR b18, lR b20, lR b22, lI 0, lI 1, lI 2, lI 1, lI 1, lU, lU, lU, lU, lU]) rfl k) ?_
            show own_Go p e below s _ _ _ (T397.setTop (mkF m 261 #[lI p0, lI p1, lI p2, lJ p3, lS, lI 1, lI 1, lI 1, lI 1, lJ v15, lS, lI v16, lI v17, lR b18, lR b20, lR b22, lI 0, lI 1, lI 2, lI 1, lI 1, lU, lU, lU, lU, lU] []))
            refine own_via (fun _ k => XS.iconst X397.here hx rfl (hb hby at_261) k) ?_
            show own_Go p e below s _ _ _ (T397.setTop (mkF m 262 #[lI p0, lI p1, lI p2, lJ p3, lS, lI 1, lI 1, lI 1, lI 1, lJ v15, lS, lI v16, lI v17, lR b18, lR b20, lR b22, lI 0, lI 1, lI 2, lI 1, lI 1, lU, lU, lU, lU, lU] [(.int (-1 : Int32))]))
            refine own_via (fun _ k => XS.istore X397.here hx rfl (hb hby at_262) rfl (l' := #[lI p0, lI p1, lI p2, lJ p3, lS, lI 1, lI 1, lI 1, lI 1, lJ v15, lS, lI v16, lI v17, lR b18, lR b20, lR b22, lI 0, lI 1, lI 2, lI 1, lI 1, lI (-1), lU, lU, lU, lU]) rfl k) ?_
            show own_Go p e below s _ _ _ (T397.setTop (mkF m 264 #[lI p0, lI p1, lI p2, lJ p3, lS, lI 1, lI 1, lI 1, lI 1, lJ v15, lS, lI v16, lI v17, lR b18, lR b20, lR b22, lI 0, lI 1, lI 2, lI 1, lI 1, lI (-1), lU, lU, lU, lU] []))
            refine own_via (fun _ k => XS.iload X397.here hx rfl (hb hby at_264) rfl k) ?_
            show own_Go p e below s _ _ _ (T397.setTop (mkF m 266 #[lI p0, lI p1, lI p2, lJ p3, lS, lI 1, lI 1, lI 1, lI 1, lJ v15, lS, lI v16, lI v17, lR b18, lR b20, lR b22, lI 0, lI 1, lI 2, lI 1, lI 1, lI (-1), lU, lU, lU, lU] [(.int (1 : Int32))]))
            refine own_via (fun _ k => XS.ifNo X397.here hx rfl (hb hby at_266) rfl (Jvm.Free.XT.i0_eq_f (by decide)) k) ?_
            show own_Go p e below s _ _ _ (T397.setTop (mkF m 269 #[lI p0, lI p1, lI p2, lJ p3, lS, lI 1, lI 1, lI 1, lI 1, lJ v15, lS, lI v16, lI v17, lR b18, lR b20, lR b22, lI 0, lI 1, lI 2, lI 1, lI 1, lI (-1), lU, lU, lU, lU] []))
            refine own_via (fun _ k => XS.aload X397.here hx rfl (hb hby at_269) rfl rfl k) ?_
            show own_Go p e below s _ _ _ (T397.setTop (mkF m 271 #[lI p0, lI p1, lI p2, lJ p3, lS, lI 1, lI 1, lI 1, lI 1, lJ v15, lS, lI v16, lI v17, lR b18, lR b20, lR b22, lI 0, lI 1, lI 2, lI 1, lI 1, lI (-1), lU, lU, lU, lU] [(.ref b22)]))
            have F411 := (F399.keep Kq397 (ninS (Ne.symm ne_b22_bl_42) (ninS F113 (ninS F114 (ninS F112 nin0)))))
            have F412 := ((F368.keep Kq379 (ninS (Ne.symm ne_b22_bf_42) (ninS (Ne.symm F133) (ninS (Ne.symm F135) nin0)))).keep Kq397 (ninS (Ne.symm ne_b22_bf_42) (ninS (Ne.symm F133) (ninS (Ne.symm F135) (ninS (Ne.symm F130) nin0)))))
            have F413 := ((F369.keep Kq379 (ninS (Ne.symm ne_b22_br_42) (ninS (Ne.symm F134) (ninS (Ne.symm F136) nin0)))).keep Kq397 (ninS (Ne.symm ne_b22_br_42) (ninS (Ne.symm F134) (ninS (Ne.symm F136) (ninS (Ne.symm F131) nin0)))))
            obtain ⟨cq410, kq410, qa410, qb410, qc410⟩ := isOf hZ e397 F401
            obtain ⟨_, _, ⟨T410, L410, k410, n410⟩, -, X410, ⟨Lc410, hQ410, l410, y410, z410⟩, st410⟩ := X397.virtualBack hx (y := (⟨"com/example/trajectory/trajectory/search/Nodes", "poll", "()I"⟩ : MethodName)) (z := (⟨"com/example/trajectory/trajectory/search/Nodes", "poll", "()I"⟩ : MethodName)) hown (mvT hZ (hwi hw 98 rfl)) (mvT hZ (hwi hw 99 rfl)) (notFace_of_selects (args := #[]) (mvT hZ (hwi hw 101 rfl))) (mvT hZ (hwi hw 101 rfl)) (mvT hZ (hwi hw 100 rfl)) (by decide) (backOf (W := 0) (rmpo2 l Z a0 hw [] b22 v15 (own_dec (own_inc (own_inc (0 : Int64) (0 : Int32) v15) (1 : Int32) v15) (1 : Int32) v15) (1 : Int32) (1 : Int32) (1 : Int32) dq1 dq0 (own_rk (1 : Int32) (1 : Int32)) (own_rk (0 : Int32) (0 : Int32)) bl_42 bz_42 bf_42 br_42 kl_42 kz_42 kf_42 kr_42 [(.int (0 : Int32)), (.int (1 : Int32)), (.int (1 : Int32)), (.int (0 : Int32))] [(.int (0 : Int32)), (.int (1 : Int32)), (.int (0 : Int32)), (.int (0 : Int32))] h397 n0 Z397 F401 F402 F403 F404 F405 F406 F407 F408 F411 F409 F412 F413 g_b22 g_bf_42 g_br_42 ne_b22_bf_42 ne_b22_br_42 F137 (by decide) ⟨by decide, by decide⟩ rfl rfl) hZ (hwi hw 102 rfl) (hwi hw 4 rfl) (by decide) (by decide)) qa410 qc410 (g := (mkF m 271 #[lI p0, lI p1, lI p2, lJ p3, lS, lI 1, lI 1, lI 1, lI 1, lJ v15, lS, lI v16, lI v17, lR b18, lR b20, lR b22, lI 0, lI 1, lI 2, lI 1, lI 1, lI (-1), lU, lU, lU, lU] [(.ref b22)])) rfl (by rw [hml]; rfl) (Steps.refl _) (argsL := []) (rest := []) (lenOf pd_11 rfl) rfl (by show 2 * 0 + _ ≤ _; exact Nat.le_of_eq rfl) (hb hby at_271) (fun _ _ => ⟨rfl, e397, (by decide : 14 + 0 ≤ _), (by decide : 789 + 0 ≤ _)⟩)
            dsimp only [Pt.U, Pt.locs, Pt.cells, Pt.slots] at X410 l410 y410 z410 st410 hQ410
            subst l410 y410 z410
            obtain ⟨h410, e410⟩ : ∃ h, T410.heap = h := ⟨_, rfl⟩
            rw [e410] at hQ410
            obtain ⟨rfl, N410q, Kq410, F414, F415⟩ := hQ410
            have Z410 : n0 ≤ h410.size := Nat.le_trans Z397 Kq410.1
            have N410 := Fr.app N397 N410q
            refine own_viaT st410 ?_
            show own_Go p e below s _ _ _ (T410.setTop (mkF m 274 #[lI p0, lI p1, lI p2, lJ p3, lS, lI 1, lI 1, lI 1, lI 1, lJ v15, lS, lI v16, lI v17, lR b18, lR b20, lR b22, lI 0, lI 1, lI 2, lI 1, lI 1, lI (-1), lU, lU, lU, lU] [(.int (1 : Int32))]))
            refine own_via (fun _ k => XS.istore X410.here hx rfl (hb hby at_274) rfl (l' := #[lI p0, lI p1, lI p2, lJ p3, lS, lI 1, lI 1, lI 1, lI 1, lJ v15, lS, lI v16, lI v17, lR b18, lR b20, lR b22, lI 0, lI 1, lI 2, lI 1, lI 1, lI 1, lU, lU, lU, lU]) rfl k) ?_
            show own_Go p e below s _ _ _ (T410.setTop (mkF m 276 #[lI p0, lI p1, lI p2, lJ p3, lS, lI 1, lI 1, lI 1, lI 1, lJ v15, lS, lI v16, lI v17, lR b18, lR b20, lR b22, lI 0, lI 1, lI 2, lI 1, lI 1, lI 1, lU, lU, lU, lU] []))
            refine own_via (fun _ k => XS.iconst X410.here hx rfl (hb hby at_276) k) ?_
            show own_Go p e below s _ _ _ (T410.setTop (mkF m 277 #[lI p0, lI p1, lI p2, lJ p3, lS, lI 1, lI 1, lI 1, lI 1, lJ v15, lS, lI v16, lI v17, lR b18, lR b20, lR b22, lI 0, lI 1, lI 2, lI 1, lI 1, lI 1, lU, lU, lU, lU] [(.int (-1 : Int32))]))
            refine own_via (fun _ k => XS.istore X410.here hx rfl (hb hby at_277) rfl (l' := #[lI p0, lI p1, lI p2, lJ p3, lS, lI 1, lI 1, lI 1, lI 1, lJ v15, lS, lI v16, lI v17, lR b18, lR b20, lR b22, lI 0, lI 1, lI 2, lI 1, lI 1, lI 1, lI (-1), lU, lU, lU]) rfl k) ?_
            show own_Go p e below s _ _ _ (T410.setTop (mkF m 279 #[lI p0, lI p1, lI p2, lJ p3, lS, lI 1, lI 1, lI 1, lI 1, lJ v15, lS, lI v16, lI v17, lR b18, lR b20, lR b22, lI 0, lI 1, lI 2, lI 1, lI 1, lI 1, lI (-1), lU, lU, lU] []))
            refine own_via (fun _ k => XS.iload X410.here hx rfl (hb hby at_279) rfl k) ?_
            show own_Go p e below s _ _ _ (T410.setTop (mkF m 281 #[lI p0, lI p1, lI p2, lJ p3, lS, lI 1, lI 1, lI 1, lI 1, lJ v15, lS, lI v16, lI v17, lR b18, lR b20, lR b22, lI 0, lI 1, lI 2, lI 1, lI 1, lI 1, lI (-1), lU, lU, lU] [(.int (1 : Int32))]))
            refine own_via (fun _ k => XS.ifNo X410.here hx rfl (hb hby at_281) rfl (Jvm.Free.XT.i0_eq_f (by decide)) k) ?_
            show own_Go p e below s _ _ _ (T410.setTop (mkF m 284 #[lI p0, lI p1, lI p2, lJ p3, lS, lI 1, lI 1, lI 1, lI 1, lJ v15, lS, lI v16, lI v17, lR b18, lR b20, lR b22, lI 0, lI 1, lI 2, lI 1, lI 1, lI 1, lI (-1), lU, lU, lU] []))
            refine own_via (fun _ k => XS.iload X410.here hx rfl (hb hby at_284) rfl k) ?_
            show own_Go p e below s _ _ _ (T410.setTop (mkF m 286 #[lI p0, lI p1, lI p2, lJ p3, lS, lI 1, lI 1, lI 1, lI 1, lJ v15, lS, lI v16, lI v17, lR b18, lR b20, lR b22, lI 0, lI 1, lI 2, lI 1, lI 1, lI 1, lI (-1), lU, lU, lU] [(.int (1 : Int32))]))
            refine own_via (fun _ k => XS.ifNo X410.here hx rfl (hb hby at_286) rfl (Jvm.Free.XT.i0_eq_f (by decide)) k) ?_
            show own_Go p e below s _ _ _ (T410.setTop (mkF m 289 #[lI p0, lI p1, lI p2, lJ p3, lS, lI 1, lI 1, lI 1, lI 1, lJ v15, lS, lI v16, lI v17, lR b18, lR b20, lR b22, lI 0, lI 1, lI 2, lI 1, lI 1, lI 1, lI (-1), lU, lU, lU] []))
            refine own_via (fun _ k => XS.iload X410.here hx rfl (hb hby at_289) rfl k) ?_
            show own_Go p e below s _ _ _ (T410.setTop (mkF m 291 #[lI p0, lI p1, lI p2, lJ p3, lS, lI 1, lI 1, lI 1, lI 1, lJ v15, lS, lI v16, lI v17, lR b18, lR b20, lR b22, lI 0, lI 1, lI 2, lI 1, lI 1, lI 1, lI (-1), lU, lU, lU] [(.int (1 : Int32))]))
            refine own_via (fun _ k => XS.ifNo X410.here hx rfl (hb hby at_291) rfl (Jvm.Free.XT.i0_eq_f (by decide)) k) ?_
            show own_Go p e below s _ _ _ (T410.setTop (mkF m 294 #[lI p0, lI p1, lI p2, lJ p3, lS, lI 1, lI 1, lI 1, lI 1, lJ v15, lS, lI v16, lI v17, lR b18, lR b20, lR b22, lI 0, lI 1, lI 2, lI 1, lI 1, lI 1, lI (-1), lU, lU, lU] []))
            refine own_via (fun _ k => XS.iload X410.here hx rfl (hb hby at_294) rfl k) ?_
            show own_Go p e below s _ _ _ (T410.setTop (mkF m 296 #[lI p0, lI p1, lI p2, lJ p3, lS, lI 1, lI 1, lI 1, lI 1, lJ v15, lS, lI v16, lI v17, lR b18, lR b20, lR b22, lI 0, lI 1, lI 2, lI 1, lI 1, lI 1, lI (-1), lU, lU, lU] [(.int v16)]))
            refine own_via (fun _ k => XS.iload X410.here hx rfl (hb hby at_296) rfl k) ?_
            show own_Go p e below s _ _ _ (T410.setTop (mkF m 298 #[lI p0, lI p1, lI p2, lJ p3, lS, lI 1, lI 1, lI 1, lI 1, lJ v15, lS, lI v16, lI v17, lR b18, lR b20, lR b22, lI 0, lI 1, lI 2, lI 1, lI 1, lI 1, lI (-1), lU, lU, lU] [(.int v17), (.int v16)]))
            have hc416 : v17 < v16 := hlt
            refine own_via (fun _ k => XS.icmpYes X410.here hx rfl (pc0 := 298) (pc' := 308) rfl (hb hby at_298) rfl (Jvm.Free.XT.ii_gt_t hc416) (by decide) (by decide) k) ?_
            show own_Go p e below s _ _ _ (T410.setTop (mkF m 308 #[lI p0, lI p1, lI p2, lJ p3, lS, lI 1, lI 1, lI 1, lI 1, lJ v15, lS, lI v16, lI v17, lR b18, lR b20, lR b22, lI 0, lI 1, lI 2, lI 1, lI 1, lI 1, lI (-1), lU, lU, lU] []))
            refine own_via (fun _ k => XS.iload X410.here hx rfl (hb hby at_308) rfl k) ?_
            show own_Go p e below s _ _ _ (T410.setTop (mkF m 310 #[lI p0, lI p1, lI p2, lJ p3, lS, lI 1, lI 1, lI 1, lI 1, lJ v15, lS, lI v16, lI v17, lR b18, lR b20, lR b22, lI 0, lI 1, lI 2, lI 1, lI 1, lI 1, lI (-1), lU, lU, lU] [(.int (1 : Int32))]))
            refine own_via (fun _ k => XS.istore X410.here hx rfl (hb hby at_310) rfl (l' := #[lI p0, lI p1, lI p2, lJ p3, lS, lI 1, lI 1, lI 1, lI 1, lJ v15, lS, lI v16, lI v17, lR b18, lR b20, lR b22, lI 0, lI 1, lI 2, lI 1, lI 1, lI 1, lI 1, lU, lU, lU]) rfl k) ?_
            show own_Go p e below s _ _ _ (T410.setTop (mkF m 312 #[lI p0, lI p1, lI p2, lJ p3, lS, lI 1, lI 1, lI 1, lI 1, lJ v15, lS, lI v16, lI v17, lR b18, lR b20, lR b22, lI 0, lI 1, lI 2, lI 1, lI 1, lI 1, lI 1, lU, lU, lU] []))
            exact jz (1 : Int32) (1 : Int32) (1 : Int32) (1 : Int32) (1 : Int32) (1 : Int32) (1 : Int32) (1 : Int32) (own_pol (own_dec (own_inc (own_inc (0 : Int64) (0 : Int32) v15) (1 : Int32) v15) (1 : Int32) v15) (1 : Int32) (1 : Int32) v15) _ _ _ X410 e410 N410 Z410 F414 F415 (rfl) (by rcases own_l3 v15 with ⟨a1, a2⟩ | ⟨a1, a2⟩ | ⟨a1, a2⟩ <;> simp only [own_exp, own_any, own_pol, own_inc, own_dec, own_w0, own_w1, a1, a2, if_true, if_false, reduceIte] <;> decide)
      · show own_Go p e below s _ _ _ (T327.setTop (mkF m 183 #[lI p0, lI p1, lI p2, lJ p3, lS, lI 1, lI 1, lI v9, lI v12, lJ v15, lS, lI v16, lI v17, lR b18, lR b20, lR b22, lI 0, lI 1, lI 2, lU, lU, lU, lU, lU, lU, lU] []))
        refine own_via (fun _ k => XS.aload X327.here hx rfl (hb hby at_183) rfl rfl k) ?_
        show own_Go p e below s _ _ _ (T327.setTop (mkF m 185 #[lI p0, lI p1, lI p2, lJ p3, lS, lI 1, lI 1, lI v9, lI v12, lJ v15, lS, lI v16, lI v17, lR b18, lR b20, lR b22, lI 0, lI 1, lI 2, lU, lU, lU, lU, lU, lU, lU] [(.ref b22)]))
        refine own_via (fun _ k => XS.iload X327.here hx rfl (hb hby at_185) rfl k) ?_
        show own_Go p e below s _ _ _ (T327.setTop (mkF m 187 #[lI p0, lI p1, lI p2, lJ p3, lS, lI 1, lI 1, lI v9, lI v12, lJ v15, lS, lI v16, lI v17, lR b18, lR b20, lR b22, lI 0, lI 1, lI 2, lU, lU, lU, lU, lU, lU, lU] [(.int (1 : Int32)), (.ref b22)]))
        have F418 := (F237.keep Kq327 (ninS (Ne.symm ne_b22_bc_42) (ninS F100 (ninS F101 nin0))))
        have F419 := (F238.keep Kq327 (ninS (Ne.symm ne_b22_bl_42) (ninS F115 (ninS F116 nin0))))
        obtain ⟨cq417, kq417, qa417, qb417, qc417⟩ := isOf hZ e327 F330
        obtain ⟨_, _, ⟨T417, L417, k417, n417⟩, -, X417, ⟨Lc417, hQ417, l417, y417, z417⟩, st417⟩ := X327.virtualBack hx (y := (⟨"com/example/trajectory/trajectory/search/Nodes", "queue", "(I)V"⟩ : MethodName)) (z := (⟨"com/example/trajectory/trajectory/search/Nodes", "queue", "(I)V"⟩ : MethodName)) hown (mvT hZ (hwi hw 83 rfl)) (mvT hZ (hwi hw 84 rfl)) (notFace_of_selects (args := #[]) (mvT hZ (hwi hw 86 rfl))) (mvT hZ (hwi hw 86 rfl)) (mvT hZ (hwi hw 85 rfl)) (by decide) (backOf (W := 0) (rmq1a l Z a0 hw [] b22 (1 : Int32) v15 (own_inc (0 : Int64) (0 : Int32) v15) (1 : Int32) bc_42 bl_42 bz_42 bk_42 bT_42 bf_42 br_42 kc_42 kl_42 kf_42 kr_42 [(.double dq0), (.double dq1), (.double dq2), (.double (0 : UInt64))] [(.int (0 : Int32)), (.int (1 : Int32)), (.int (1 : Int32)), (.int (0 : Int32))] dq0 dq1 v16 v17 (own_rk (0 : Int32) (0 : Int32)) h327 n0 Z327 F330 F331 F332 F333 F334 F335 F336 F337 F338 F339 F340 F341 F342 F418 F419 F343 F344 g_b22 g_bf_42 g_br_42 ne_b22_bf_42 ne_b22_br_42 ne_b22_bl_42 F137 F115 F116 ⟨by decide, by decide⟩ rfl rfl hdq1.symm hdq0.symm hlt (by decide)) hZ (hwi hw 87 rfl) (hwi hw 4 rfl) (by decide) (by decide)) qa417 qc417 (g := (mkF m 187 #[lI p0, lI p1, lI p2, lJ p3, lS, lI 1, lI 1, lI v9, lI v12, lJ v15, lS, lI v16, lI v17, lR b18, lR b20, lR b22, lI 0, lI 1, lI 2, lU, lU, lU, lU, lU, lU, lU] [(.int (1 : Int32)), (.ref b22)])) rfl (by rw [hml]; rfl) (Steps.refl _) (argsL := [(.int (1 : Int32))]) (rest := []) (lenOf pd_7 rfl) rfl (by show 2 * 0 + _ ≤ _; exact Nat.le_of_eq rfl) (hb hby at_187) (fun _ _ => ⟨rfl, e327, (by decide : 14 + 0 ≤ _), (by decide : 789 + 0 ≤ _)⟩)
        dsimp only [Pt.U, Pt.locs, Pt.cells, Pt.slots] at X417 l417 y417 z417 st417 hQ417
        subst l417 y417 z417
        obtain ⟨h417, e417⟩ : ∃ h, T417.heap = h := ⟨_, rfl⟩
        rw [e417] at hQ417
        obtain ⟨rfl, N417q, Kq417, F420, F421, F422, F423, F424, F425, F426, F427, F428, F429, F430, F431, F432, F433, F434⟩ := hQ417
        have Z417 : n0 ≤ h417.size := Nat.le_trans Z327 Kq417.1
        have N417 := Fr.app N327 N417q
        refine own_viaT st417 ?_
        show own_Go p e below s _ _ _ (T417.setTop (mkF m 190 #[lI p0, lI p1, lI p2, lJ p3, lS, lI 1, lI 1, lI v9, lI v12, lJ v15, lS, lI v16, lI v17, lR b18, lR b20, lR b22, lI 0, lI 1, lI 2, lU, lU, lU, lU, lU, lU, lU] []))
        rcases (own_01 hv9) with rfl | rfl
        · show own_Go p e below s _ _ _ (T417.setTop (mkF m 190 #[lI p0, lI p1, lI p2, lJ p3, lS, lI 1, lI 1, lI 0, lI v12, lJ v15, lS, lI v16, lI v17, lR b18, lR b20, lR b22, lI 0, lI 1, lI 2, lU, lU, lU, lU, lU, lU, lU] []))
          refine own_via (fun _ k => XS.iload X417.here hx rfl (hb hby at_190) rfl k) ?_
          show own_Go p e below s _ _ _ (T417.setTop (mkF m 192 #[lI p0, lI p1, lI p2, lJ p3, lS, lI 1, lI 1, lI 0, lI v12, lJ v15, lS, lI v16, lI v17, lR b18, lR b20, lR b22, lI 0, lI 1, lI 2, lU, lU, lU, lU, lU, lU, lU] [(.int (0 : Int32))]))
          refine own_via (fun _ k => XS.ifYes X417.here hx rfl (pc0 := 192) (pc' := 204) rfl (hb hby at_192) rfl (Jvm.Free.XT.i0_eq_t (by decide)) (by decide) (by decide) k) ?_
          show own_Go p e below s _ _ _ (T417.setTop (mkF m 204 #[lI p0, lI p1, lI p2, lJ p3, lS, lI 1, lI 1, lI 0, lI v12, lJ v15, lS, lI v16, lI v17, lR b18, lR b20, lR b22, lI 0, lI 1, lI 2, lU, lU, lU, lU, lU, lU, lU] []))
          refine own_via (fun _ k => XS.iconst X417.here hx rfl (hb hby at_204) k) ?_
          show own_Go p e below s _ _ _ (T417.setTop (mkF m 205 #[lI p0, lI p1, lI p2, lJ p3, lS, lI 1, lI 1, lI 0, lI v12, lJ v15, lS, lI v16, lI v17, lR b18, lR b20, lR b22, lI 0, lI 1, lI 2, lU, lU, lU, lU, lU, lU, lU] [(.int (0 : Int32))]))
          refine own_via (fun _ k => XS.istore X417.here hx rfl (hb hby at_205) rfl (l' := #[lI p0, lI p1, lI p2, lJ p3, lS, lI 1, lI 1, lI 0, lI v12, lJ v15, lS, lI v16, lI v17, lR b18, lR b20, lR b22, lI 0, lI 1, lI 2, lI 0, lU, lU, lU, lU, lU, lU]) rfl k) ?_
          show own_Go p e below s _ _ _ (T417.setTop (mkF m 207 #[lI p0, lI p1, lI p2, lJ p3, lS, lI 1, lI 1, lI 0, lI v12, lJ v15, lS, lI v16, lI v17, lR b18, lR b20, lR b22, lI 0, lI 1, lI 2, lI 0, lU, lU, lU, lU, lU, lU] []))
          refine own_via (fun _ k => XS.iload X417.here hx rfl (hb hby at_207) rfl k) ?_
          show own_Go p e below s _ _ _ (T417.setTop (mkF m 209 #[lI p0, lI p1, lI p2, lJ p3, lS, lI 1, lI 1, lI 0, lI v12, lJ v15, lS, lI v16, lI v17, lR b18, lR b20, lR b22, lI 0, lI 1, lI 2, lI 0, lU, lU, lU, lU, lU, lU] [(.int (0 : Int32))]))
          refine own_via (fun _ k => XS.ifYes X417.here hx rfl (pc0 := 209) (pc' := 239) rfl (hb hby at_209) rfl (Jvm.Free.XT.i0_eq_t (by decide)) (by decide) (by decide) k) ?_
          show own_Go p e below s _ _ _ (T417.setTop (mkF m 239 #[lI p0, lI p1, lI p2, lJ p3, lS, lI 1, lI 1, lI 0, lI v12, lJ v15, lS, lI v16, lI v17, lR b18, lR b20, lR b22, lI 0, lI 1, lI 2, lI 0, lU, lU, lU, lU, lU, lU] []))
          rcases (own_01 hv12) with rfl | rfl
          · show own_Go p e below s _ _ _ (T417.setTop (mkF m 239 #[lI p0, lI p1, lI p2, lJ p3, lS, lI 1, lI 1, lI 0, lI 0, lJ v15, lS, lI v16, lI v17, lR b18, lR b20, lR b22, lI 0, lI 1, lI 2, lI 0, lU, lU, lU, lU, lU, lU] []))
            refine own_via (fun _ k => XS.iload X417.here hx rfl (hb hby at_239) rfl k) ?_
            show own_Go p e below s _ _ _ (T417.setTop (mkF m 241 #[lI p0, lI p1, lI p2, lJ p3, lS, lI 1, lI 1, lI 0, lI 0, lJ v15, lS, lI v16, lI v17, lR b18, lR b20, lR b22, lI 0, lI 1, lI 2, lI 0, lU, lU, lU, lU, lU, lU] [(.int (0 : Int32))]))
            refine own_via (fun _ k => XS.ifYes X417.here hx rfl (pc0 := 241) (pc' := 258) rfl (hb hby at_241) rfl (Jvm.Free.XT.i0_eq_t (by decide)) (by decide) (by decide) k) ?_
            show own_Go p e below s _ _ _ (T417.setTop (mkF m 258 #[lI p0, lI p1, lI p2, lJ p3, lS, lI 1, lI 1, lI 0, lI 0, lJ v15, lS, lI v16, lI v17, lR b18, lR b20, lR b22, lI 0, lI 1, lI 2, lI 0, lU, lU, lU, lU, lU, lU] []))
            refine own_via (fun _ k => XS.iconst X417.here hx rfl (hb hby at_258) k) ?_
            show own_Go p e below s _ _ _ (T417.setTop (mkF m 259 #[lI p0, lI p1, lI p2, lJ p3, lS, lI 1, lI 1, lI 0, lI 0, lJ v15, lS, lI v16, lI v17, lR b18, lR b20, lR b22, lI 0, lI 1, lI 2, lI 0, lU, lU, lU, lU, lU, lU] [(.int (0 : Int32))]))
            refine own_via (fun _ k => XS.istore X417.here hx rfl (hb hby at_259) rfl (l' := #[lI p0, lI p1, lI p2, lJ p3, lS, lI 1, lI 1, lI 0, lI 0, lJ v15, lS, lI v16, lI v17, lR b18, lR b20, lR b22, lI 0, lI 1, lI 2, lI 0, lI 0, lU, lU, lU, lU, lU]) rfl k) ?_
            show own_Go p e below s _ _ _ (T417.setTop (mkF m 261 #[lI p0, lI p1, lI p2, lJ p3, lS, lI 1, lI 1, lI 0, lI 0, lJ v15, lS, lI v16, lI v17, lR b18, lR b20, lR b22, lI 0, lI 1, lI 2, lI 0, lI 0, lU, lU, lU, lU, lU] []))
            refine own_via (fun _ k => XS.iconst X417.here hx rfl (hb hby at_261) k) ?_
            show own_Go p e below s _ _ _ (T417.setTop (mkF m 262 #[lI p0, lI p1, lI p2, lJ p3, lS, lI 1, lI 1, lI 0, lI 0, lJ v15, lS, lI v16, lI v17, lR b18, lR b20, lR b22, lI 0, lI 1, lI 2, lI 0, lI 0, lU, lU, lU, lU, lU] [(.int (-1 : Int32))]))
            refine own_via (fun _ k => XS.istore X417.here hx rfl (hb hby at_262) rfl (l' := #[lI p0, lI p1, lI p2, lJ p3, lS, lI 1, lI 1, lI 0, lI 0, lJ v15, lS, lI v16, lI v17, lR b18, lR b20, lR b22, lI 0, lI 1, lI 2, lI 0, lI 0, lI (-1), lU, lU, lU, lU]) rfl k) ?_
            show own_Go p e below s _ _ _ (T417.setTop (mkF m 264 #[lI p0, lI p1, lI p2, lJ p3, lS, lI 1, lI 1, lI 0, lI 0, lJ v15, lS, lI v16, lI v17, lR b18, lR b20, lR b22, lI 0, lI 1, lI 2, lI 0, lI 0, lI (-1), lU, lU, lU, lU] []))
            refine own_via (fun _ k => XS.iload X417.here hx rfl (hb hby at_264) rfl k) ?_
            show own_Go p e below s _ _ _ (T417.setTop (mkF m 266 #[lI p0, lI p1, lI p2, lJ p3, lS, lI 1, lI 1, lI 0, lI 0, lJ v15, lS, lI v16, lI v17, lR b18, lR b20, lR b22, lI 0, lI 1, lI 2, lI 0, lI 0, lI (-1), lU, lU, lU, lU] [(.int (0 : Int32))]))
            refine own_via (fun _ k => XS.ifYes X417.here hx rfl (pc0 := 266) (pc' := 276) rfl (hb hby at_266) rfl (Jvm.Free.XT.i0_eq_t (by decide)) (by decide) (by decide) k) ?_
            show own_Go p e below s _ _ _ (T417.setTop (mkF m 276 #[lI p0, lI p1, lI p2, lJ p3, lS, lI 1, lI 1, lI 0, lI 0, lJ v15, lS, lI v16, lI v17, lR b18, lR b20, lR b22, lI 0, lI 1, lI 2, lI 0, lI 0, lI (-1), lU, lU, lU, lU] []))
            refine own_via (fun _ k => XS.iconst X417.here hx rfl (hb hby at_276) k) ?_
            show own_Go p e below s _ _ _ (T417.setTop (mkF m 277 #[lI p0, lI p1, lI p2, lJ p3, lS, lI 1, lI 1, lI 0, lI 0, lJ v15, lS, lI v16, lI v17, lR b18, lR b20, lR b22, lI 0, lI 1, lI 2, lI 0, lI 0, lI (-1), lU, lU, lU, lU] [(.int (-1 : Int32))]))
            refine own_via (fun _ k => XS.istore X417.here hx rfl (hb hby at_277) rfl (l' := #[lI p0, lI p1, lI p2, lJ p3, lS, lI 1, lI 1, lI 0, lI 0, lJ v15, lS, lI v16, lI v17, lR b18, lR b20, lR b22, lI 0, lI 1, lI 2, lI 0, lI 0, lI (-1), lI (-1), lU, lU, lU]) rfl k) ?_
            show own_Go p e below s _ _ _ (T417.setTop (mkF m 279 #[lI p0, lI p1, lI p2, lJ p3, lS, lI 1, lI 1, lI 0, lI 0, lJ v15, lS, lI v16, lI v17, lR b18, lR b20, lR b22, lI 0, lI 1, lI 2, lI 0, lI 0, lI (-1), lI (-1), lU, lU, lU] []))
            refine own_via (fun _ k => XS.iload X417.here hx rfl (hb hby at_279) rfl k) ?_
            show own_Go p e below s _ _ _ (T417.setTop (mkF m 281 #[lI p0, lI p1, lI p2, lJ p3, lS, lI 1, lI 1, lI 0, lI 0, lJ v15, lS, lI v16, lI v17, lR b18, lR b20, lR b22, lI 0, lI 1, lI 2, lI 0, lI 0, lI (-1), lI (-1), lU, lU, lU] [(.int (0 : Int32))]))
            refine own_via (fun _ k => XS.ifYes X417.here hx rfl (pc0 := 281) (pc' := 312) rfl (hb hby at_281) rfl (Jvm.Free.XT.i0_eq_t (by decide)) (by decide) (by decide) k) ?_
            show own_Go p e below s _ _ _ (T417.setTop (mkF m 312 #[lI p0, lI p1, lI p2, lJ p3, lS, lI 1, lI 1, lI 0, lI 0, lJ v15, lS, lI v16, lI v17, lR b18, lR b20, lR b22, lI 0, lI 1, lI 2, lI 0, lI 0, lI (-1), lI (-1), lU, lU, lU] []))
            exact jz (1 : Int32) (1 : Int32) (0 : Int32) (0 : Int32) (0 : Int32) (0 : Int32) (-1 : Int32) (-1 : Int32) (own_inc (own_inc (0 : Int64) (0 : Int32) v15) (1 : Int32) v15) _ _ _ X417 e417 N417 Z417 F420 F431 (rfl) (by rcases own_l3 v15 with ⟨a1, a2⟩ | ⟨a1, a2⟩ | ⟨a1, a2⟩ <;> simp only [own_exp, own_any, own_pol, own_inc, own_dec, own_w0, own_w1, a1, a2, if_true, if_false, reduceIte] <;> decide)
          · show own_Go p e below s _ _ _ (T417.setTop (mkF m 239 #[lI p0, lI p1, lI p2, lJ p3, lS, lI 1, lI 1, lI 0, lI 1, lJ v15, lS, lI v16, lI v17, lR b18, lR b20, lR b22, lI 0, lI 1, lI 2, lI 0, lU, lU, lU, lU, lU, lU] []))
            refine own_via (fun _ k => XS.iload X417.here hx rfl (hb hby at_239) rfl k) ?_
            show own_Go p e below s _ _ _ (T417.setTop (mkF m 241 #[lI p0, lI p1, lI p2, lJ p3, lS, lI 1, lI 1, lI 0, lI 1, lJ v15, lS, lI v16, lI v17, lR b18, lR b20, lR b22, lI 0, lI 1, lI 2, lI 0, lU, lU, lU, lU, lU, lU] [(.int (1 : Int32))]))
            refine own_via (fun _ k => XS.ifNo X417.here hx rfl (hb hby at_241) rfl (Jvm.Free.XT.i0_eq_f (by decide)) k) ?_
            show own_Go p e below s _ _ _ (T417.setTop (mkF m 244 #[lI p0, lI p1, lI p2, lJ p3, lS, lI 1, lI 1, lI 0, lI 1, lJ v15, lS, lI v16, lI v17, lR b18, lR b20, lR b22, lI 0, lI 1, lI 2, lI 0, lU, lU, lU, lU, lU, lU] []))
            refine own_via (fun _ k => XS.iload X417.here hx rfl (hb hby at_244) rfl k) ?_
            show own_Go p e below s _ _ _ (T417.setTop (mkF m 246 #[lI p0, lI p1, lI p2, lJ p3, lS, lI 1, lI 1, lI 0, lI 1, lJ v15, lS, lI v16, lI v17, lR b18, lR b20, lR b22, lI 0, lI 1, lI 2, lI 0, lU, lU, lU, lU, lU, lU] [(.int (1 : Int32))]))
            refine own_via (fun _ k => XS.ifYes X417.here hx rfl (pc0 := 246) (pc' := 254) rfl (hb hby at_246) rfl (Jvm.Free.XT.i0_ne_t (by decide)) (by decide) (by decide) k) ?_
            show own_Go p e below s _ _ _ (T417.setTop (mkF m 254 #[lI p0, lI p1, lI p2, lJ p3, lS, lI 1, lI 1, lI 0, lI 1, lJ v15, lS, lI v16, lI v17, lR b18, lR b20, lR b22, lI 0, lI 1, lI 2, lI 0, lU, lU, lU, lU, lU, lU] []))
            refine own_via (fun _ k => XS.iconst X417.here hx rfl (hb hby at_254) k) ?_
            show own_Go p e below s _ _ _ (T417.setTop (mkF m 255 #[lI p0, lI p1, lI p2, lJ p3, lS, lI 1, lI 1, lI 0, lI 1, lJ v15, lS, lI v16, lI v17, lR b18, lR b20, lR b22, lI 0, lI 1, lI 2, lI 0, lU, lU, lU, lU, lU, lU] [(.int (1 : Int32))]))
            refine own_via (fun _ k => XS.goto X417.here hx rfl (pc0 := 255) (pc' := 259) rfl (hb hby at_255) (by decide) (by decide) k) ?_
            show own_Go p e below s _ _ _ (T417.setTop (mkF m 259 #[lI p0, lI p1, lI p2, lJ p3, lS, lI 1, lI 1, lI 0, lI 1, lJ v15, lS, lI v16, lI v17, lR b18, lR b20, lR b22, lI 0, lI 1, lI 2, lI 0, lU, lU, lU, lU, lU, lU] [(.int (1 : Int32))]))
            refine own_via (fun _ k => XS.istore X417.here hx rfl (hb hby at_259) rfl (l' := #[lI p0, lI p1, lI p2, lJ p3, lS, lI 1, lI 1, lI 0, lI 1, lJ v15, lS, lI v16, lI v17, lR b18, lR b20, lR b22, lI 0, lI 1, lI 2, lI 0, lI 1, lU, lU, lU, lU, lU]) rfl k) ?_
            show own_Go p e below s _ _ _ (T417.setTop (mkF m 261 #[lI p0, lI p1, lI p2, lJ p3, lS, lI 1, lI 1, lI 0, lI 1, lJ v15, lS, lI v16, lI v17, lR b18, lR b20, lR b22, lI 0, lI 1, lI 2, lI 0, lI 1, lU, lU, lU, lU, lU] []))
            refine own_via (fun _ k => XS.iconst X417.here hx rfl (hb hby at_261) k) ?_
            show own_Go p e below s _ _ _ (T417.setTop (mkF m 262 #[lI p0, lI p1, lI p2, lJ p3, lS, lI 1, lI 1, lI 0, lI 1, lJ v15, lS, lI v16, lI v17, lR b18, lR b20, lR b22, lI 0, lI 1, lI 2, lI 0, lI 1, lU, lU, lU, lU, lU] [(.int (-1 : Int32))]))
            refine own_via (fun _ k => XS.istore X417.here hx rfl (hb hby at_262) rfl (l' := #[lI p0, lI p1, lI p2, lJ p3, lS, lI 1, lI 1, lI 0, lI 1, lJ v15, lS, lI v16, lI v17, lR b18, lR b20, lR b22, lI 0, lI 1, lI 2, lI 0, lI 1, lI (-1), lU, lU, lU, lU]) rfl k) ?_
            show own_Go p e below s _ _ _ (T417.setTop (mkF m 264 #[lI p0, lI p1, lI p2, lJ p3, lS, lI 1, lI 1, lI 0, lI 1, lJ v15, lS, lI v16, lI v17, lR b18, lR b20, lR b22, lI 0, lI 1, lI 2, lI 0, lI 1, lI (-1), lU, lU, lU, lU] []))
            refine own_via (fun _ k => XS.iload X417.here hx rfl (hb hby at_264) rfl k) ?_
            show own_Go p e below s _ _ _ (T417.setTop (mkF m 266 #[lI p0, lI p1, lI p2, lJ p3, lS, lI 1, lI 1, lI 0, lI 1, lJ v15, lS, lI v16, lI v17, lR b18, lR b20, lR b22, lI 0, lI 1, lI 2, lI 0, lI 1, lI (-1), lU, lU, lU, lU] [(.int (1 : Int32))]))
            refine own_via (fun _ k => XS.ifNo X417.here hx rfl (hb hby at_266) rfl (Jvm.Free.XT.i0_eq_f (by decide)) k) ?_
            show own_Go p e below s _ _ _ (T417.setTop (mkF m 269 #[lI p0, lI p1, lI p2, lJ p3, lS, lI 1, lI 1, lI 0, lI 1, lJ v15, lS, lI v16, lI v17, lR b18, lR b20, lR b22, lI 0, lI 1, lI 2, lI 0, lI 1, lI (-1), lU, lU, lU, lU] []))
            refine own_via (fun _ k => XS.aload X417.here hx rfl (hb hby at_269) rfl rfl k) ?_
            show own_Go p e below s _ _ _ (T417.setTop (mkF m 271 #[lI p0, lI p1, lI p2, lJ p3, lS, lI 1, lI 1, lI 0, lI 1, lJ v15, lS, lI v16, lI v17, lR b18, lR b20, lR b22, lI 0, lI 1, lI 2, lI 0, lI 1, lI (-1), lU, lU, lU, lU] [(.ref b22)]))
            have F436 := (F419.keep Kq417 (ninS (Ne.symm ne_b22_bl_42) (ninS F115 (ninS F116 nin0))))
            have F437 := (((((F78.keep Kq140 (ninS (Ne.symm ne_b22_bz_42) (ninS (Ne.symm F88) (ninS (Ne.symm F97) (ninS (Ne.symm F105) (ninS (Ne.symm F112) (ninS (Ne.symm F118) (ninS (Ne.symm F123) nin0)))))))).keep Kq173 (ninS (Ne.symm ne_b22_bz_42) (ninS (Ne.symm F88) (ninS (Ne.symm F97) (ninS (Ne.symm F105) (ninS (Ne.symm F112) (ninS (Ne.symm F118) (ninS (Ne.symm F123) nin0)))))))).keep Kq206 (ninS (Ne.symm ne_b22_bz_42) (ninS (Ne.symm F88) (ninS (Ne.symm F97) (ninS (Ne.symm F105) (ninS (Ne.symm F112) (ninS (Ne.symm F118) (ninS (Ne.symm F123) nin0)))))))).keep Kq327 (ninS (Ne.symm ne_b22_bz_42) (ninS F130 (ninS F131 nin0)))).keep Kq417 (ninS (Ne.symm ne_b22_bz_42) (ninS F130 (ninS F131 nin0))))
            obtain ⟨cq435, kq435, qa435, qb435, qc435⟩ := isOf hZ e417 F420
            obtain ⟨_, _, ⟨T435, L435, k435, n435⟩, -, X435, ⟨Lc435, hQ435, l435, y435, z435⟩, st435⟩ := X417.virtualBack hx (y := (⟨"com/example/trajectory/trajectory/search/Nodes", "poll", "()I"⟩ : MethodName)) (z := (⟨"com/example/trajectory/trajectory/search/Nodes", "poll", "()I"⟩ : MethodName)) hown (mvT hZ (hwi hw 98 rfl)) (mvT hZ (hwi hw 99 rfl)) (notFace_of_selects (args := #[]) (mvT hZ (hwi hw 101 rfl))) (mvT hZ (hwi hw 101 rfl)) (mvT hZ (hwi hw 100 rfl)) (by decide) (backOf (W := 0) (rmpo2 l Z a0 hw [] b22 v15 (own_inc (own_inc (0 : Int64) (0 : Int32) v15) (1 : Int32) v15) (0 : Int32) (0 : Int32) (0 : Int32) dq0 dq1 (own_rk (0 : Int32) (0 : Int32)) (own_rk (1 : Int32) (1 : Int32)) bl_42 bz_42 bf_42 br_42 kl_42 kz_42 kf_42 kr_42 [(.int (0 : Int32)), (.int (1 : Int32)), (.int (1 : Int32)), (.int (0 : Int32))] [(.int (0 : Int32)), (.int (0 : Int32)), (.int (0 : Int32)), (.int (0 : Int32))] h417 n0 Z417 F420 F422 F424 F425 F428 F429 F430 F431 F436 F437 F433 F434 g_b22 g_bf_42 g_br_42 ne_b22_bf_42 ne_b22_br_42 F137 (by decide) ⟨by decide, by decide⟩ rfl rfl) hZ (hwi hw 102 rfl) (hwi hw 4 rfl) (by decide) (by decide)) qa435 qc435 (g := (mkF m 271 #[lI p0, lI p1, lI p2, lJ p3, lS, lI 1, lI 1, lI 0, lI 1, lJ v15, lS, lI v16, lI v17, lR b18, lR b20, lR b22, lI 0, lI 1, lI 2, lI 0, lI 1, lI (-1), lU, lU, lU, lU] [(.ref b22)])) rfl (by rw [hml]; rfl) (Steps.refl _) (argsL := []) (rest := []) (lenOf pd_11 rfl) rfl (by show 2 * 0 + _ ≤ _; exact Nat.le_of_eq rfl) (hb hby at_271) (fun _ _ => ⟨rfl, e417, (by decide : 14 + 0 ≤ _), (by decide : 789 + 0 ≤ _)⟩)
            dsimp only [Pt.U, Pt.locs, Pt.cells, Pt.slots] at X435 l435 y435 z435 st435 hQ435
            subst l435 y435 z435
            obtain ⟨h435, e435⟩ : ∃ h, T435.heap = h := ⟨_, rfl⟩
            rw [e435] at hQ435
            obtain ⟨rfl, N435q, Kq435, F438, F439⟩ := hQ435
            have Z435 : n0 ≤ h435.size := Nat.le_trans Z417 Kq435.1
            have N435 := Fr.app N417 N435q
            refine own_viaT st435 ?_
            show own_Go p e below s _ _ _ (T435.setTop (mkF m 274 #[lI p0, lI p1, lI p2, lJ p3, lS, lI 1, lI 1, lI 0, lI 1, lJ v15, lS, lI v16, lI v17, lR b18, lR b20, lR b22, lI 0, lI 1, lI 2, lI 0, lI 1, lI (-1), lU, lU, lU, lU] [(.int (0 : Int32))]))
            refine own_via (fun _ k => XS.istore X435.here hx rfl (hb hby at_274) rfl (l' := #[lI p0, lI p1, lI p2, lJ p3, lS, lI 1, lI 1, lI 0, lI 1, lJ v15, lS, lI v16, lI v17, lR b18, lR b20, lR b22, lI 0, lI 1, lI 2, lI 0, lI 1, lI 0, lU, lU, lU, lU]) rfl k) ?_
            show own_Go p e below s _ _ _ (T435.setTop (mkF m 276 #[lI p0, lI p1, lI p2, lJ p3, lS, lI 1, lI 1, lI 0, lI 1, lJ v15, lS, lI v16, lI v17, lR b18, lR b20, lR b22, lI 0, lI 1, lI 2, lI 0, lI 1, lI 0, lU, lU, lU, lU] []))
            refine own_via (fun _ k => XS.iconst X435.here hx rfl (hb hby at_276) k) ?_
            show own_Go p e below s _ _ _ (T435.setTop (mkF m 277 #[lI p0, lI p1, lI p2, lJ p3, lS, lI 1, lI 1, lI 0, lI 1, lJ v15, lS, lI v16, lI v17, lR b18, lR b20, lR b22, lI 0, lI 1, lI 2, lI 0, lI 1, lI 0, lU, lU, lU, lU] [(.int (-1 : Int32))]))
            refine own_via (fun _ k => XS.istore X435.here hx rfl (hb hby at_277) rfl (l' := #[lI p0, lI p1, lI p2, lJ p3, lS, lI 1, lI 1, lI 0, lI 1, lJ v15, lS, lI v16, lI v17, lR b18, lR b20, lR b22, lI 0, lI 1, lI 2, lI 0, lI 1, lI 0, lI (-1), lU, lU, lU]) rfl k) ?_
            show own_Go p e below s _ _ _ (T435.setTop (mkF m 279 #[lI p0, lI p1, lI p2, lJ p3, lS, lI 1, lI 1, lI 0, lI 1, lJ v15, lS, lI v16, lI v17, lR b18, lR b20, lR b22, lI 0, lI 1, lI 2, lI 0, lI 1, lI 0, lI (-1), lU, lU, lU] []))
            refine own_via (fun _ k => XS.iload X435.here hx rfl (hb hby at_279) rfl k) ?_
            show own_Go p e below s _ _ _ (T435.setTop (mkF m 281 #[lI p0, lI p1, lI p2, lJ p3, lS, lI 1, lI 1, lI 0, lI 1, lJ v15, lS, lI v16, lI v17, lR b18, lR b20, lR b22, lI 0, lI 1, lI 2, lI 0, lI 1, lI 0, lI (-1), lU, lU, lU] [(.int (1 : Int32))]))
            refine own_via (fun _ k => XS.ifNo X435.here hx rfl (hb hby at_281) rfl (Jvm.Free.XT.i0_eq_f (by decide)) k) ?_
            show own_Go p e below s _ _ _ (T435.setTop (mkF m 284 #[lI p0, lI p1, lI p2, lJ p3, lS, lI 1, lI 1, lI 0, lI 1, lJ v15, lS, lI v16, lI v17, lR b18, lR b20, lR b22, lI 0, lI 1, lI 2, lI 0, lI 1, lI 0, lI (-1), lU, lU, lU] []))
            refine own_via (fun _ k => XS.iload X435.here hx rfl (hb hby at_284) rfl k) ?_
            show own_Go p e below s _ _ _ (T435.setTop (mkF m 286 #[lI p0, lI p1, lI p2, lJ p3, lS, lI 1, lI 1, lI 0, lI 1, lJ v15, lS, lI v16, lI v17, lR b18, lR b20, lR b22, lI 0, lI 1, lI 2, lI 0, lI 1, lI 0, lI (-1), lU, lU, lU] [(.int (1 : Int32))]))
            refine own_via (fun _ k => XS.ifNo X435.here hx rfl (hb hby at_286) rfl (Jvm.Free.XT.i0_eq_f (by decide)) k) ?_
            show own_Go p e below s _ _ _ (T435.setTop (mkF m 289 #[lI p0, lI p1, lI p2, lJ p3, lS, lI 1, lI 1, lI 0, lI 1, lJ v15, lS, lI v16, lI v17, lR b18, lR b20, lR b22, lI 0, lI 1, lI 2, lI 0, lI 1, lI 0, lI (-1), lU, lU, lU] []))
            refine own_via (fun _ k => XS.iload X435.here hx rfl (hb hby at_289) rfl k) ?_
            show own_Go p e below s _ _ _ (T435.setTop (mkF m 291 #[lI p0, lI p1, lI p2, lJ p3, lS, lI 1, lI 1, lI 0, lI 1, lJ v15, lS, lI v16, lI v17, lR b18, lR b20, lR b22, lI 0, lI 1, lI 2, lI 0, lI 1, lI 0, lI (-1), lU, lU, lU] [(.int (1 : Int32))]))
            refine own_via (fun _ k => XS.ifNo X435.here hx rfl (hb hby at_291) rfl (Jvm.Free.XT.i0_eq_f (by decide)) k) ?_
            show own_Go p e below s _ _ _ (T435.setTop (mkF m 294 #[lI p0, lI p1, lI p2, lJ p3, lS, lI 1, lI 1, lI 0, lI 1, lJ v15, lS, lI v16, lI v17, lR b18, lR b20, lR b22, lI 0, lI 1, lI 2, lI 0, lI 1, lI 0, lI (-1), lU, lU, lU] []))
            refine own_via (fun _ k => XS.iload X435.here hx rfl (hb hby at_294) rfl k) ?_
            show own_Go p e below s _ _ _ (T435.setTop (mkF m 296 #[lI p0, lI p1, lI p2, lJ p3, lS, lI 1, lI 1, lI 0, lI 1, lJ v15, lS, lI v16, lI v17, lR b18, lR b20, lR b22, lI 0, lI 1, lI 2, lI 0, lI 1, lI 0, lI (-1), lU, lU, lU] [(.int v16)]))
            refine own_via (fun _ k => XS.iload X435.here hx rfl (hb hby at_296) rfl k) ?_
            show own_Go p e below s _ _ _ (T435.setTop (mkF m 298 #[lI p0, lI p1, lI p2, lJ p3, lS, lI 1, lI 1, lI 0, lI 1, lJ v15, lS, lI v16, lI v17, lR b18, lR b20, lR b22, lI 0, lI 1, lI 2, lI 0, lI 1, lI 0, lI (-1), lU, lU, lU] [(.int v17), (.int v16)]))
            have hc440 : ¬ (v17 < v16) := hlt
            refine own_via (fun _ k => XS.icmpNo X435.here hx rfl (hb hby at_298) rfl (Jvm.Free.XT.ii_gt_f hc440) k) ?_
            show own_Go p e below s _ _ _ (T435.setTop (mkF m 301 #[lI p0, lI p1, lI p2, lJ p3, lS, lI 1, lI 1, lI 0, lI 1, lJ v15, lS, lI v16, lI v17, lR b18, lR b20, lR b22, lI 0, lI 1, lI 2, lI 0, lI 1, lI 0, lI (-1), lU, lU, lU] []))
            refine own_via (fun _ k => XS.iload X435.here hx rfl (hb hby at_301) rfl k) ?_
            show own_Go p e below s _ _ _ (T435.setTop (mkF m 303 #[lI p0, lI p1, lI p2, lJ p3, lS, lI 1, lI 1, lI 0, lI 1, lJ v15, lS, lI v16, lI v17, lR b18, lR b20, lR b22, lI 0, lI 1, lI 2, lI 0, lI 1, lI 0, lI (-1), lU, lU, lU] [(.int (0 : Int32))]))
            refine own_via (fun _ k => XS.istore X435.here hx rfl (hb hby at_303) rfl (l' := #[lI p0, lI p1, lI p2, lJ p3, lS, lI 1, lI 1, lI 0, lI 1, lJ v15, lS, lI v16, lI v17, lR b18, lR b20, lR b22, lI 0, lI 1, lI 2, lI 0, lI 1, lI 0, lI 0, lU, lU, lU]) rfl k) ?_
            show own_Go p e below s _ _ _ (T435.setTop (mkF m 305 #[lI p0, lI p1, lI p2, lJ p3, lS, lI 1, lI 1, lI 0, lI 1, lJ v15, lS, lI v16, lI v17, lR b18, lR b20, lR b22, lI 0, lI 1, lI 2, lI 0, lI 1, lI 0, lI 0, lU, lU, lU] []))
            refine own_via (fun _ k => XS.goto X435.here hx rfl (pc0 := 305) (pc' := 312) rfl (hb hby at_305) (by decide) (by decide) k) ?_
            show own_Go p e below s _ _ _ (T435.setTop (mkF m 312 #[lI p0, lI p1, lI p2, lJ p3, lS, lI 1, lI 1, lI 0, lI 1, lJ v15, lS, lI v16, lI v17, lR b18, lR b20, lR b22, lI 0, lI 1, lI 2, lI 0, lI 1, lI 0, lI 0, lU, lU, lU] []))
            exact jz (1 : Int32) (1 : Int32) (0 : Int32) (1 : Int32) (0 : Int32) (1 : Int32) (0 : Int32) (0 : Int32) (own_pol (own_inc (own_inc (0 : Int64) (0 : Int32) v15) (1 : Int32) v15) (0 : Int32) (0 : Int32) v15) _ _ _ X435 e435 N435 Z435 F438 F439 (rfl) (by rcases own_l3 v15 with ⟨a1, a2⟩ | ⟨a1, a2⟩ | ⟨a1, a2⟩ <;> simp only [own_exp, own_any, own_pol, own_inc, own_dec, own_w0, own_w1, a1, a2, if_true, if_false, reduceIte] <;> decide)
        · show own_Go p e below s _ _ _ (T417.setTop (mkF m 190 #[lI p0, lI p1, lI p2, lJ p3, lS, lI 1, lI 1, lI 1, lI v12, lJ v15, lS, lI v16, lI v17, lR b18, lR b20, lR b22, lI 0, lI 1, lI 2, lU, lU, lU, lU, lU, lU, lU] []))
          refine own_via (fun _ k => XS.iload X417.here hx rfl (hb hby at_190) rfl k) ?_
          show own_Go p e below s _ _ _ (T417.setTop (mkF m 192 #[lI p0, lI p1, lI p2, lJ p3, lS, lI 1, lI 1, lI 1, lI v12, lJ v15, lS, lI v16, lI v17, lR b18, lR b20, lR b22, lI 0, lI 1, lI 2, lU, lU, lU, lU, lU, lU, lU] [(.int (1 : Int32))]))
          refine own_via (fun _ k => XS.ifNo X417.here hx rfl (hb hby at_192) rfl (Jvm.Free.XT.i0_eq_f (by decide)) k) ?_
          show own_Go p e below s _ _ _ (T417.setTop (mkF m 195 #[lI p0, lI p1, lI p2, lJ p3, lS, lI 1, lI 1, lI 1, lI v12, lJ v15, lS, lI v16, lI v17, lR b18, lR b20, lR b22, lI 0, lI 1, lI 2, lU, lU, lU, lU, lU, lU, lU] []))
          refine own_via (fun _ k => XS.iload X417.here hx rfl (hb hby at_195) rfl k) ?_
          show own_Go p e below s _ _ _ (T417.setTop (mkF m 197 #[lI p0, lI p1, lI p2, lJ p3, lS, lI 1, lI 1, lI 1, lI v12, lJ v15, lS, lI v16, lI v17, lR b18, lR b20, lR b22, lI 0, lI 1, lI 2, lU, lU, lU, lU, lU, lU, lU] [(.int (1 : Int32))]))
          refine own_via (fun _ k => XS.ifNo X417.here hx rfl (hb hby at_197) rfl (Jvm.Free.XT.i0_eq_f (by decide)) k) ?_
          show own_Go p e below s _ _ _ (T417.setTop (mkF m 200 #[lI p0, lI p1, lI p2, lJ p3, lS, lI 1, lI 1, lI 1, lI v12, lJ v15, lS, lI v16, lI v17, lR b18, lR b20, lR b22, lI 0, lI 1, lI 2, lU, lU, lU, lU, lU, lU, lU] []))
          refine own_via (fun _ k => XS.iconst X417.here hx rfl (hb hby at_200) k) ?_
          show own_Go p e below s _ _ _ (T417.setTop (mkF m 201 #[lI p0, lI p1, lI p2, lJ p3, lS, lI 1, lI 1, lI 1, lI v12, lJ v15, lS, lI v16, lI v17, lR b18, lR b20, lR b22, lI 0, lI 1, lI 2, lU, lU, lU, lU, lU, lU, lU] [(.int (1 : Int32))]))
          refine own_via (fun _ k => XS.goto X417.here hx rfl (pc0 := 201) (pc' := 205) rfl (hb hby at_201) (by decide) (by decide) k) ?_
          show own_Go p e below s _ _ _ (T417.setTop (mkF m 205 #[lI p0, lI p1, lI p2, lJ p3, lS, lI 1, lI 1, lI 1, lI v12, lJ v15, lS, lI v16, lI v17, lR b18, lR b20, lR b22, lI 0, lI 1, lI 2, lU, lU, lU, lU, lU, lU, lU] [(.int (1 : Int32))]))
          refine own_via (fun _ k => XS.istore X417.here hx rfl (hb hby at_205) rfl (l' := #[lI p0, lI p1, lI p2, lJ p3, lS, lI 1, lI 1, lI 1, lI v12, lJ v15, lS, lI v16, lI v17, lR b18, lR b20, lR b22, lI 0, lI 1, lI 2, lI 1, lU, lU, lU, lU, lU, lU]) rfl k) ?_
          show own_Go p e below s _ _ _ (T417.setTop (mkF m 207 #[lI p0, lI p1, lI p2, lJ p3, lS, lI 1, lI 1, lI 1, lI v12, lJ v15, lS, lI v16, lI v17, lR b18, lR b20, lR b22, lI 0, lI 1, lI 2, lI 1, lU, lU, lU, lU, lU, lU] []))
          refine own_via (fun _ k => XS.iload X417.here hx rfl (hb hby at_207) rfl k) ?_
          show own_Go p e below s _ _ _ (T417.setTop (mkF m 209 #[lI p0, lI p1, lI p2, lJ p3, lS, lI 1, lI 1, lI 1, lI v12, lJ v15, lS, lI v16, lI v17, lR b18, lR b20, lR b22, lI 0, lI 1, lI 2, lI 1, lU, lU, lU, lU, lU, lU] [(.int (1 : Int32))]))
          refine own_via (fun _ k => XS.ifNo X417.here hx rfl (hb hby at_209) rfl (Jvm.Free.XT.i0_eq_f (by decide)) k) ?_
          show own_Go p e below s _ _ _ (T417.setTop (mkF m 212 #[lI p0, lI p1, lI p2, lJ p3, lS, lI 1, lI 1, lI 1, lI v12, lJ v15, lS, lI v16, lI v17, lR b18, lR b20, lR b22, lI 0, lI 1, lI 2, lI 1, lU, lU, lU, lU, lU, lU] []))
          refine own_via (fun _ k => XS.aload X417.here hx rfl (hb hby at_212) rfl rfl k) ?_
          show own_Go p e below s _ _ _ (T417.setTop (mkF m 214 #[lI p0, lI p1, lI p2, lJ p3, lS, lI 1, lI 1, lI 1, lI v12, lJ v15, lS, lI v16, lI v17, lR b18, lR b20, lR b22, lI 0, lI 1, lI 2, lI 1, lU, lU, lU, lU, lU, lU] [(.ref b22)]))
          refine own_via (fun _ k => XS.aload X417.here hx rfl (hb hby at_214) rfl rfl k) ?_
          show own_Go p e below s _ _ _ (T417.setTop (mkF m 216 #[lI p0, lI p1, lI p2, lJ p3, lS, lI 1, lI 1, lI 1, lI v12, lJ v15, lS, lI v16, lI v17, lR b18, lR b20, lR b22, lI 0, lI 1, lI 2, lI 1, lU, lU, lU, lU, lU, lU] [(.ref b20), (.ref b22)]))
          have F442 := (((((F80.keep Kq140 (ninS (Ne.symm ne_b22_bT_42) (ninS (Ne.symm F90) (ninS (Ne.symm F99) (ninS (Ne.symm F107) (ninS (Ne.symm F114) (ninS (Ne.symm F120) (ninS (Ne.symm F125) nin0)))))))).keep Kq173 (ninS (Ne.symm ne_b22_bT_42) (ninS (Ne.symm F90) (ninS (Ne.symm F99) (ninS (Ne.symm F107) (ninS (Ne.symm F114) (ninS (Ne.symm F120) (ninS (Ne.symm F125) nin0)))))))).keep Kq206 (ninS (Ne.symm ne_b22_bT_42) (ninS (Ne.symm F90) (ninS (Ne.symm F99) (ninS (Ne.symm F107) (ninS (Ne.symm F114) (ninS (Ne.symm F120) (ninS (Ne.symm F125) nin0)))))))).keep Kq327 (ninS (Ne.symm ne_b22_bT_42) (ninS F135 (ninS F136 nin0)))).keep Kq417 (ninS (Ne.symm ne_b22_bT_42) (ninS F135 (ninS F136 nin0))))
          have F443 := (((F207.keep Kq206 (ninS ne_b20_b22 (ninS ne_b20_bs_42 (ninS ne_b20_bc_42 (ninS ne_b20_bt_42 (ninS ne_b20_bl_42 (ninS ne_b20_bp_42 (ninS ne_b20_bu_42 nin0)))))))).keep Kq327 (ninS ne_b20_b22 (ninS ne_b20_bf_42 (ninS ne_b20_br_42 nin0)))).keep Kq417 (ninS ne_b20_b22 (ninS ne_b20_bf_42 (ninS ne_b20_br_42 nin0))))
          obtain ⟨cq441, kq441, qa441, qb441, qc441⟩ := isOf hZ e417 F420
          obtain ⟨_, _, ⟨T441, L441, k441, n441⟩, -, X441, ⟨Lc441, hQ441, l441, y441, z441⟩, st441⟩ := X417.virtualBack hx (y := (⟨"com/example/trajectory/trajectory/search/Nodes", "slot", "([J)I"⟩ : MethodName)) (z := (⟨"com/example/trajectory/trajectory/search/Nodes", "slot", "([J)I"⟩ : MethodName)) hown (mvT hZ (hwi hw 103 rfl)) (mvT hZ (hwi hw 104 rfl)) (notFace_of_selects (args := #[]) (mvT hZ (hwi hw 106 rfl))) (mvT hZ (hwi hw 106 rfl)) (mvT hZ (hwi hw 105 rfl)) (by decide) (backOf (W := 0) (rm14 l Z a0 hw [] b22 b20 bT_42 kT_42 wT_42 k20 h417 n0 Z417 F420 F421 F427 F442 F443 F139) hZ (hwi hw 107 rfl) (hwi hw 4 rfl) (by decide) (by decide)) qa441 qc441 (g := (mkF m 216 #[lI p0, lI p1, lI p2, lJ p3, lS, lI 1, lI 1, lI 1, lI v12, lJ v15, lS, lI v16, lI v17, lR b18, lR b20, lR b22, lI 0, lI 1, lI 2, lI 1, lU, lU, lU, lU, lU, lU] [(.ref b20), (.ref b22)])) rfl (by rw [hml]; rfl) (Steps.refl _) (argsL := [(.ref b20)]) (rest := []) (lenOf pd_12 rfl) rfl (by show 2 * 0 + _ ≤ _; exact Nat.le_of_eq rfl) (hb hby at_216) (fun _ _ => ⟨rfl, e417, (by decide : 14 + 0 ≤ _), (by decide : 789 + 0 ≤ _)⟩)
          dsimp only [Pt.U, Pt.locs, Pt.cells, Pt.slots] at X441 l441 y441 z441 st441 hQ441
          subst l441 y441 z441
          obtain ⟨rfl, N441q, e441⟩ := hQ441
          have N441 := Fr.app N417 N441q
          refine own_viaT st441 ?_
          show own_Go p e below s _ _ _ (T441.setTop (mkF m 219 #[lI p0, lI p1, lI p2, lJ p3, lS, lI 1, lI 1, lI 1, lI v12, lJ v15, lS, lI v16, lI v17, lR b18, lR b20, lR b22, lI 0, lI 1, lI 2, lI 1, lU, lU, lU, lU, lU, lU] [(.int (44 : Int32))]))
          refine own_via (fun _ k => XS.istore X441.here hx rfl (hb hby at_219) rfl (l' := #[lI p0, lI p1, lI p2, lJ p3, lS, lI 1, lI 1, lI 1, lI v12, lJ v15, lS, lI v16, lI v17, lR b18, lR b20, lR b22, lI 0, lI 1, lI 2, lI 1, lI 44, lU, lU, lU, lU, lU]) rfl k) ?_
          show own_Go p e below s _ _ _ (T441.setTop (mkF m 221 #[lI p0, lI p1, lI p2, lJ p3, lS, lI 1, lI 1, lI 1, lI v12, lJ v15, lS, lI v16, lI v17, lR b18, lR b20, lR b22, lI 0, lI 1, lI 2, lI 1, lI 44, lU, lU, lU, lU, lU] []))
          refine own_via (fun _ k => XS.aload X441.here hx rfl (hb hby at_221) rfl rfl k) ?_
          show own_Go p e below s _ _ _ (T441.setTop (mkF m 223 #[lI p0, lI p1, lI p2, lJ p3, lS, lI 1, lI 1, lI 1, lI v12, lJ v15, lS, lI v16, lI v17, lR b18, lR b20, lR b22, lI 0, lI 1, lI 2, lI 1, lI 44, lU, lU, lU, lU, lU] [(.ref b22)]))
          refine own_via (fun _ k => XS.iload X441.here hx rfl (hb hby at_223) rfl k) ?_
          show own_Go p e below s _ _ _ (T441.setTop (mkF m 225 #[lI p0, lI p1, lI p2, lJ p3, lS, lI 1, lI 1, lI 1, lI v12, lJ v15, lS, lI v16, lI v17, lR b18, lR b20, lR b22, lI 0, lI 1, lI 2, lI 1, lI 44, lU, lU, lU, lU, lU] [(.int (44 : Int32)), (.ref b22)]))
          refine own_via (fun _ k => XS.iload X441.here hx rfl (hb hby at_225) rfl k) ?_
          show own_Go p e below s _ _ _ (T441.setTop (mkF m 227 #[lI p0, lI p1, lI p2, lJ p3, lS, lI 1, lI 1, lI 1, lI v12, lJ v15, lS, lI v16, lI v17, lR b18, lR b20, lR b22, lI 0, lI 1, lI 2, lI 1, lI 44, lU, lU, lU, lU, lU] [(.int (1 : Int32)), (.int (44 : Int32)), (.ref b22)]))
          have F445 := (((((F79.keep Kq140 (ninS (Ne.symm ne_b22_bk_42) (ninS (Ne.symm F89) (ninS (Ne.symm F98) (ninS (Ne.symm F106) (ninS (Ne.symm F113) (ninS (Ne.symm F119) (ninS (Ne.symm F124) nin0)))))))).keep Kq173 (ninS (Ne.symm ne_b22_bk_42) (ninS (Ne.symm F89) (ninS (Ne.symm F98) (ninS (Ne.symm F106) (ninS (Ne.symm F113) (ninS (Ne.symm F119) (ninS (Ne.symm F124) nin0)))))))).keep Kq206 (ninS (Ne.symm ne_b22_bk_42) (ninS (Ne.symm F89) (ninS (Ne.symm F98) (ninS (Ne.symm F106) (ninS (Ne.symm F113) (ninS (Ne.symm F119) (ninS (Ne.symm F124) nin0)))))))).keep Kq327 (ninS (Ne.symm ne_b22_bk_42) (ninS F133 (ninS F134 nin0)))).keep Kq417 (ninS (Ne.symm ne_b22_bk_42) (ninS F133 (ninS F134 nin0))))
          obtain ⟨cq444, kq444, qa444, qb444, qc444⟩ := isOf hZ e441 F420
          obtain ⟨_, _, ⟨T444, L444, k444, n444⟩, -, X444, ⟨Lc444, hQ444, l444, y444, z444⟩, st444⟩ := X441.virtualBack hx (y := (⟨"com/example/trajectory/trajectory/search/Nodes", "keep", "(II)V"⟩ : MethodName)) (z := (⟨"com/example/trajectory/trajectory/search/Nodes", "keep", "(II)V"⟩ : MethodName)) hown (mvT hZ (hwi hw 113 rfl)) (mvT hZ (hwi hw 114 rfl)) (notFace_of_selects (args := #[]) (mvT hZ (hwi hw 116 rfl))) (mvT hZ (hwi hw 116 rfl)) (mvT hZ (hwi hw 115 rfl)) (by decide) (backOf (W := 0) (rmkA l Z a0 hw [] b22 (44 : Int32) (1 : Int32) v15 (own_inc (own_inc (0 : Int64) (0 : Int32) v15) (1 : Int32) v15) (2 : Int32) bc_42 bl_42 bz_42 bk_42 bT_42 bf_42 br_42 kT_42 kk_42 wT_42 h417 n0 Z417 F420 F422 F423 F424 F425 F426 F427 F428 F429 F430 F431 F432 F442 F445 g_b22 g_bk_42 g_bT_42 ne_b22_bk_42 ne_b22_bT_42 F132 rfl rfl F138 F139) hZ (hwi hw 117 rfl) (hwi hw 4 rfl) (by decide) (by decide)) qa444 qc444 (g := (mkF m 227 #[lI p0, lI p1, lI p2, lJ p3, lS, lI 1, lI 1, lI 1, lI v12, lJ v15, lS, lI v16, lI v17, lR b18, lR b20, lR b22, lI 0, lI 1, lI 2, lI 1, lI 44, lU, lU, lU, lU, lU] [(.int (1 : Int32)), (.int (44 : Int32)), (.ref b22)])) rfl (by rw [hml]; rfl) (Steps.refl _) (argsL := [(.int (44 : Int32)), (.int (1 : Int32))]) (rest := []) (lenOf pd_13 rfl) rfl (by show 2 * 0 + _ ≤ _; exact Nat.le_of_eq rfl) (hb hby at_227) (fun _ _ => ⟨rfl, e441, (by decide : 14 + 0 ≤ _), (by decide : 789 + 0 ≤ _)⟩)
          dsimp only [Pt.U, Pt.locs, Pt.cells, Pt.slots] at X444 l444 y444 z444 st444 hQ444
          subst l444 y444 z444
          obtain ⟨h444, e444⟩ : ∃ h, T444.heap = h := ⟨_, rfl⟩
          rw [e444] at hQ444
          obtain ⟨wT_444, rfl, N444q, Kq444, F446, F447, F448, F449, F450, F451, F452, F453, F454, F455, F456, F457, F458, F459, F460, F461⟩ := hQ444
          have Z444 : n0 ≤ h444.size := Nat.le_trans Z417 Kq444.1
          have N444 := Fr.app N441 N444q
          refine own_viaT st444 ?_
          show own_Go p e below s _ _ _ (T444.setTop (mkF m 230 #[lI p0, lI p1, lI p2, lJ p3, lS, lI 1, lI 1, lI 1, lI v12, lJ v15, lS, lI v16, lI v17, lR b18, lR b20, lR b22, lI 0, lI 1, lI 2, lI 1, lI 44, lU, lU, lU, lU, lU] []))
          refine own_via (fun _ k => XS.aload X444.here hx rfl (hb hby at_230) rfl rfl k) ?_
          show own_Go p e below s _ _ _ (T444.setTop (mkF m 232 #[lI p0, lI p1, lI p2, lJ p3, lS, lI 1, lI 1, lI 1, lI v12, lJ v15, lS, lI v16, lI v17, lR b18, lR b20, lR b22, lI 0, lI 1, lI 2, lI 1, lI 44, lU, lU, lU, lU, lU] [(.ref b22)]))
          refine own_via (fun _ k => XS.iload X444.here hx rfl (hb hby at_232) rfl k) ?_
          show own_Go p e below s _ _ _ (T444.setTop (mkF m 234 #[lI p0, lI p1, lI p2, lJ p3, lS, lI 1, lI 1, lI 1, lI v12, lJ v15, lS, lI v16, lI v17, lR b18, lR b20, lR b22, lI 0, lI 1, lI 2, lI 1, lI 44, lU, lU, lU, lU, lU] [(.int (44 : Int32)), (.ref b22)]))
          refine own_via (fun _ k => XS.iload X444.here hx rfl (hb hby at_234) rfl k) ?_
          show own_Go p e below s _ _ _ (T444.setTop (mkF m 236 #[lI p0, lI p1, lI p2, lJ p3, lS, lI 1, lI 1, lI 1, lI v12, lJ v15, lS, lI v16, lI v17, lR b18, lR b20, lR b22, lI 0, lI 1, lI 2, lI 1, lI 44, lU, lU, lU, lU, lU] [(.int (2 : Int32)), (.int (44 : Int32)), (.ref b22)]))
          have F463 := ((F418.keep Kq417 (ninS (Ne.symm ne_b22_bc_42) (ninS F100 (ninS F101 nin0)))).keep Kq444 (ninS (Ne.symm ne_b22_bc_42) (ninS F98 (ninS F99 nin0))))
          have F464 := ((F419.keep Kq417 (ninS (Ne.symm ne_b22_bl_42) (ninS F115 (ninS F116 nin0)))).keep Kq444 (ninS (Ne.symm ne_b22_bl_42) (ninS F113 (ninS F114 nin0))))
          have F465 := ((((((F78.keep Kq140 (ninS (Ne.symm ne_b22_bz_42) (ninS (Ne.symm F88) (ninS (Ne.symm F97) (ninS (Ne.symm F105) (ninS (Ne.symm F112) (ninS (Ne.symm F118) (ninS (Ne.symm F123) nin0)))))))).keep Kq173 (ninS (Ne.symm ne_b22_bz_42) (ninS (Ne.symm F88) (ninS (Ne.symm F97) (ninS (Ne.symm F105) (ninS (Ne.symm F112) (ninS (Ne.symm F118) (ninS (Ne.symm F123) nin0)))))))).keep Kq206 (ninS (Ne.symm ne_b22_bz_42) (ninS (Ne.symm F88) (ninS (Ne.symm F97) (ninS (Ne.symm F105) (ninS (Ne.symm F112) (ninS (Ne.symm F118) (ninS (Ne.symm F123) nin0)))))))).keep Kq327 (ninS (Ne.symm ne_b22_bz_42) (ninS F130 (ninS F131 nin0)))).keep Kq417 (ninS (Ne.symm ne_b22_bz_42) (ninS F130 (ninS F131 nin0)))).keep Kq444 (ninS (Ne.symm ne_b22_bz_42) (ninS F128 (ninS F129 nin0))))
          obtain ⟨cq462, kq462, qa462, qb462, qc462⟩ := isOf hZ e444 F446
          obtain ⟨_, _, ⟨T462, L462, k462, n462⟩, -, X462, ⟨Lc462, hQ462, l462, y462, z462⟩, st462⟩ := X444.virtualBack hx (y := (⟨"com/example/trajectory/trajectory/search/Nodes", "keep", "(II)V"⟩ : MethodName)) (z := (⟨"com/example/trajectory/trajectory/search/Nodes", "keep", "(II)V"⟩ : MethodName)) hown (mvT hZ (hwi hw 113 rfl)) (mvT hZ (hwi hw 114 rfl)) (notFace_of_selects (args := #[]) (mvT hZ (hwi hw 116 rfl))) (mvT hZ (hwi hw 116 rfl)) (mvT hZ (hwi hw 115 rfl)) (by decide) (backOf (W := 0) (rmkB l Z a0 hw [] b22 (44 : Int32) (2 : Int32) v15 (own_inc (own_inc (0 : Int64) (0 : Int32) v15) (1 : Int32) v15) (2 : Int32) (1 : Int32) (1 : Int32) dq1 dq2 v17 (v17 - (1 : Int32)) bc_42 bl_42 bz_42 bk_42 bT_42 bf_42 br_42 kT_42 kk_42 kc_42 kl_42 kz_42 wT_444 [(.double dq0), (.double dq1), (.double dq2), (.double (0 : UInt64))] [(.int (0 : Int32)), (.int (1 : Int32)), (.int (1 : Int32)), (.int (0 : Int32))] h444 n0 Z444 F446 F447 F448 F449 F450 F451 F452 F453 F454 F455 F456 F457 F458 F459 F463 F464 F465 g_b22 g_bk_42 g_bT_42 g_bz_42 ne_b22_bk_42 ne_b22_bT_42 ne_b22_bz_42 F132 (Ne.symm F128) (Ne.symm F129) F112 rfl rfl F460 F461 rfl rfl rfl rfl (own_cm hv17) (by decide) hdq2.symm hdq1.symm) hZ (hwi hw 117 rfl) (hwi hw 4 rfl) (by decide) (by decide)) qa462 qc462 (g := (mkF m 236 #[lI p0, lI p1, lI p2, lJ p3, lS, lI 1, lI 1, lI 1, lI v12, lJ v15, lS, lI v16, lI v17, lR b18, lR b20, lR b22, lI 0, lI 1, lI 2, lI 1, lI 44, lU, lU, lU, lU, lU] [(.int (2 : Int32)), (.int (44 : Int32)), (.ref b22)])) rfl (by rw [hml]; rfl) (Steps.refl _) (argsL := [(.int (44 : Int32)), (.int (2 : Int32))]) (rest := []) (lenOf pd_13 rfl) rfl (by show 2 * 0 + _ ≤ _; exact Nat.le_of_eq rfl) (hb hby at_236) (fun _ _ => ⟨rfl, e444, (by decide : 14 + 0 ≤ _), (by decide : 789 + 0 ≤ _)⟩)
          dsimp only [Pt.U, Pt.locs, Pt.cells, Pt.slots] at X462 l462 y462 z462 st462 hQ462
          subst l462 y462 z462
          obtain ⟨h462, e462⟩ : ∃ h, T462.heap = h := ⟨_, rfl⟩
          rw [e462] at hQ462
          obtain ⟨rfl, N462q, Kq462, F466, F467, F468, F469, F470, F471, F472, F473, F474⟩ := hQ462
          have Z462 : n0 ≤ h462.size := Nat.le_trans Z444 Kq462.1
          have N462 := Fr.app N444 N462q
          refine own_viaT st462 ?_
          show own_Go p e below s _ _ _ (T462.setTop (mkF m 239 #[lI p0, lI p1, lI p2, lJ p3, lS, lI 1, lI 1, lI 1, lI v12, lJ v15, lS, lI v16, lI v17, lR b18, lR b20, lR b22, lI 0, lI 1, lI 2, lI 1, lI 44, lU, lU, lU, lU, lU] []))
          rcases (own_01 hv12) with rfl | rfl
          · show own_Go p e below s _ _ _ (T462.setTop (mkF m 239 #[lI p0, lI p1, lI p2, lJ p3, lS, lI 1, lI 1, lI 1, lI 0, lJ v15, lS, lI v16, lI v17, lR b18, lR b20, lR b22, lI 0, lI 1, lI 2, lI 1, lI 44, lU, lU, lU, lU, lU] []))
            refine own_via (fun _ k => XS.iload X462.here hx rfl (hb hby at_239) rfl k) ?_
            show own_Go p e below s _ _ _ (T462.setTop (mkF m 241 #[lI p0, lI p1, lI p2, lJ p3, lS, lI 1, lI 1, lI 1, lI 0, lJ v15, lS, lI v16, lI v17, lR b18, lR b20, lR b22, lI 0, lI 1, lI 2, lI 1, lI 44, lU, lU, lU, lU, lU] [(.int (0 : Int32))]))
            refine own_via (fun _ k => XS.ifYes X462.here hx rfl (pc0 := 241) (pc' := 258) rfl (hb hby at_241) rfl (Jvm.Free.XT.i0_eq_t (by decide)) (by decide) (by decide) k) ?_
            show own_Go p e below s _ _ _ (T462.setTop (mkF m 258 #[lI p0, lI p1, lI p2, lJ p3, lS, lI 1, lI 1, lI 1, lI 0, lJ v15, lS, lI v16, lI v17, lR b18, lR b20, lR b22, lI 0, lI 1, lI 2, lI 1, lI 44, lU, lU, lU, lU, lU] []))
            refine own_via (fun _ k => XS.iconst X462.here hx rfl (hb hby at_258) k) ?_
            show own_Go p e below s _ _ _ (T462.setTop (mkF m 259 #[lI p0, lI p1, lI p2, lJ p3, lS, lI 1, lI 1, lI 1, lI 0, lJ v15, lS, lI v16, lI v17, lR b18, lR b20, lR b22, lI 0, lI 1, lI 2, lI 1, lI 44, lU, lU, lU, lU, lU] [(.int (0 : Int32))]))
            refine own_via (fun _ k => XS.istore X462.here hx rfl (hb hby at_259) rfl (l' := #[lI p0, lI p1, lI p2, lJ p3, lS, lI 1, lI 1, lI 1, lI 0, lJ v15, lS, lI v16, lI v17, lR b18, lR b20, lR b22, lI 0, lI 1, lI 2, lI 1, lI 0, lU, lU, lU, lU, lU]) rfl k) ?_
            show own_Go p e below s _ _ _ (T462.setTop (mkF m 261 #[lI p0, lI p1, lI p2, lJ p3, lS, lI 1, lI 1, lI 1, lI 0, lJ v15, lS, lI v16, lI v17, lR b18, lR b20, lR b22, lI 0, lI 1, lI 2, lI 1, lI 0, lU, lU, lU, lU, lU] []))
            refine own_via (fun _ k => XS.iconst X462.here hx rfl (hb hby at_261) k) ?_
            show own_Go p e below s _ _ _ (T462.setTop (mkF m 262 #[lI p0, lI p1, lI p2, lJ p3, lS, lI 1, lI 1, lI 1, lI 0, lJ v15, lS, lI v16, lI v17, lR b18, lR b20, lR b22, lI 0, lI 1, lI 2, lI 1, lI 0, lU, lU, lU, lU, lU] [(.int (-1 : Int32))]))
            refine own_via (fun _ k => XS.istore X462.here hx rfl (hb hby at_262) rfl (l' := #[lI p0, lI p1, lI p2, lJ p3, lS, lI 1, lI 1, lI 1, lI 0, lJ v15, lS, lI v16, lI v17, lR b18, lR b20, lR b22, lI 0, lI 1, lI 2, lI 1, lI 0, lI (-1), lU, lU, lU, lU]) rfl k) ?_
            show own_Go p e below s _ _ _ (T462.setTop (mkF m 264 #[lI p0, lI p1, lI p2, lJ p3, lS, lI 1, lI 1, lI 1, lI 0, lJ v15, lS, lI v16, lI v17, lR b18, lR b20, lR b22, lI 0, lI 1, lI 2, lI 1, lI 0, lI (-1), lU, lU, lU, lU] []))
            refine own_via (fun _ k => XS.iload X462.here hx rfl (hb hby at_264) rfl k) ?_
            show own_Go p e below s _ _ _ (T462.setTop (mkF m 266 #[lI p0, lI p1, lI p2, lJ p3, lS, lI 1, lI 1, lI 1, lI 0, lJ v15, lS, lI v16, lI v17, lR b18, lR b20, lR b22, lI 0, lI 1, lI 2, lI 1, lI 0, lI (-1), lU, lU, lU, lU] [(.int (0 : Int32))]))
            refine own_via (fun _ k => XS.ifYes X462.here hx rfl (pc0 := 266) (pc' := 276) rfl (hb hby at_266) rfl (Jvm.Free.XT.i0_eq_t (by decide)) (by decide) (by decide) k) ?_
            show own_Go p e below s _ _ _ (T462.setTop (mkF m 276 #[lI p0, lI p1, lI p2, lJ p3, lS, lI 1, lI 1, lI 1, lI 0, lJ v15, lS, lI v16, lI v17, lR b18, lR b20, lR b22, lI 0, lI 1, lI 2, lI 1, lI 0, lI (-1), lU, lU, lU, lU] []))
            refine own_via (fun _ k => XS.iconst X462.here hx rfl (hb hby at_276) k) ?_
            show own_Go p e below s _ _ _ (T462.setTop (mkF m 277 #[lI p0, lI p1, lI p2, lJ p3, lS, lI 1, lI 1, lI 1, lI 0, lJ v15, lS, lI v16, lI v17, lR b18, lR b20, lR b22, lI 0, lI 1, lI 2, lI 1, lI 0, lI (-1), lU, lU, lU, lU] [(.int (-1 : Int32))]))
            refine own_via (fun _ k => XS.istore X462.here hx rfl (hb hby at_277) rfl (l' := #[lI p0, lI p1, lI p2, lJ p3, lS, lI 1, lI 1, lI 1, lI 0, lJ v15, lS, lI v16, lI v17, lR b18, lR b20, lR b22, lI 0, lI 1, lI 2, lI 1, lI 0, lI (-1), lI (-1), lU, lU, lU]) rfl k) ?_
            show own_Go p e below s _ _ _ (T462.setTop (mkF m 279 #[lI p0, lI p1, lI p2, lJ p3, lS, lI 1, lI 1, lI 1, lI 0, lJ v15, lS, lI v16, lI v17, lR b18, lR b20, lR b22, lI 0, lI 1, lI 2, lI 1, lI 0, lI (-1), lI (-1), lU, lU, lU] []))
            refine own_via (fun _ k => XS.iload X462.here hx rfl (hb hby at_279) rfl k) ?_
            show own_Go p e below s _ _ _ (T462.setTop (mkF m 281 #[lI p0, lI p1, lI p2, lJ p3, lS, lI 1, lI 1, lI 1, lI 0, lJ v15, lS, lI v16, lI v17, lR b18, lR b20, lR b22, lI 0, lI 1, lI 2, lI 1, lI 0, lI (-1), lI (-1), lU, lU, lU] [(.int (0 : Int32))]))
            refine own_via (fun _ k => XS.ifYes X462.here hx rfl (pc0 := 281) (pc' := 312) rfl (hb hby at_281) rfl (Jvm.Free.XT.i0_eq_t (by decide)) (by decide) (by decide) k) ?_
            show own_Go p e below s _ _ _ (T462.setTop (mkF m 312 #[lI p0, lI p1, lI p2, lJ p3, lS, lI 1, lI 1, lI 1, lI 0, lJ v15, lS, lI v16, lI v17, lR b18, lR b20, lR b22, lI 0, lI 1, lI 2, lI 1, lI 0, lI (-1), lI (-1), lU, lU, lU] []))
            exact jz (1 : Int32) (1 : Int32) (1 : Int32) (0 : Int32) (1 : Int32) (0 : Int32) (-1 : Int32) (-1 : Int32) (own_dec (own_inc (own_inc (0 : Int64) (0 : Int32) v15) (1 : Int32) v15) (1 : Int32) v15) _ _ _ X462 e462 N462 Z462 F466 F473 (rfl) (by rcases own_l3 v15 with ⟨a1, a2⟩ | ⟨a1, a2⟩ | ⟨a1, a2⟩ <;> simp only [own_exp, own_any, own_pol, own_inc, own_dec, own_w0, own_w1, a1, a2, if_true, if_false, reduceIte] <;> decide)
          · show own_Go p e below s _ _ _ (T462.setTop (mkF m 239 #[lI p0, lI p1, lI p2, lJ p3, lS, lI 1, lI 1, lI 1, lI 1, lJ v15, lS, lI v16, lI v17, lR b18, lR b20, lR b22, lI 0, lI 1, lI 2, lI 1, lI 44, lU, lU, lU, lU, lU] []))
            refine own_via (fun _ k => XS.iload X462.here hx rfl (hb hby at_239) rfl k) ?_
            show own_Go p e below s _ _ _ (T462.setTop (mkF m 241 #[lI p0, lI p1, lI p2, lJ p3, lS, lI 1, lI 1, lI 1, lI 1, lJ v15, lS, lI v16, lI v17, lR b18, lR b20, lR b22, lI 0, lI 1, lI 2, lI 1, lI 44, lU, lU, lU, lU, lU] [(.int (1 : Int32))]))
            refine own_via (fun _ k => XS.ifNo X462.here hx rfl (hb hby at_241) rfl (Jvm.Free.XT.i0_eq_f (by decide)) k) ?_
            show own_Go p e below s _ _ _ (T462.setTop (mkF m 244 #[lI p0, lI p1, lI p2, lJ p3, lS, lI 1, lI 1, lI 1, lI 1, lJ v15, lS, lI v16, lI v17, lR b18, lR b20, lR b22, lI 0, lI 1, lI 2, lI 1, lI 44, lU, lU, lU, lU, lU] []))
            refine own_via (fun _ k => XS.iload X462.here hx rfl (hb hby at_244) rfl k) ?_
            show own_Go p e below s _ _ _ (T462.setTop (mkF m 246 #[lI p0, lI p1, lI p2, lJ p3, lS, lI 1, lI 1, lI 1, lI 1, lJ v15, lS, lI v16, lI v17, lR b18, lR b20, lR b22, lI 0, lI 1, lI 2, lI 1, lI 44, lU, lU, lU, lU, lU] [(.int (1 : Int32))]))
            refine own_via (fun _ k => XS.ifYes X462.here hx rfl (pc0 := 246) (pc' := 254) rfl (hb hby at_246) rfl (Jvm.Free.XT.i0_ne_t (by decide)) (by decide) (by decide) k) ?_
            show own_Go p e below s _ _ _ (T462.setTop (mkF m 254 #[lI p0, lI p1, lI p2, lJ p3, lS, lI 1, lI 1, lI 1, lI 1, lJ v15, lS, lI v16, lI v17, lR b18, lR b20, lR b22, lI 0, lI 1, lI 2, lI 1, lI 44, lU, lU, lU, lU, lU] []))
            refine own_via (fun _ k => XS.iconst X462.here hx rfl (hb hby at_254) k) ?_
            show own_Go p e below s _ _ _ (T462.setTop (mkF m 255 #[lI p0, lI p1, lI p2, lJ p3, lS, lI 1, lI 1, lI 1, lI 1, lJ v15, lS, lI v16, lI v17, lR b18, lR b20, lR b22, lI 0, lI 1, lI 2, lI 1, lI 44, lU, lU, lU, lU, lU] [(.int (1 : Int32))]))
            refine own_via (fun _ k => XS.goto X462.here hx rfl (pc0 := 255) (pc' := 259) rfl (hb hby at_255) (by decide) (by decide) k) ?_
            show own_Go p e below s _ _ _ (T462.setTop (mkF m 259 #[lI p0, lI p1, lI p2, lJ p3, lS, lI 1, lI 1, lI 1, lI 1, lJ v15, lS, lI v16, lI v17, lR b18, lR b20, lR b22, lI 0, lI 1, lI 2, lI 1, lI 44, lU, lU, lU, lU, lU] [(.int (1 : Int32))]))
            refine own_via (fun _ k => XS.istore X462.here hx rfl (hb hby at_259) rfl (l' := #[lI p0, lI p1, lI p2, lJ p3, lS, lI 1, lI 1, lI 1, lI 1, lJ v15, lS, lI v16, lI v17, lR b18, lR b20, lR b22, lI 0, lI 1, lI 2, lI 1, lI 1, lU, lU, lU, lU, lU]) rfl k) ?_
            show own_Go p e below s _ _ _ (T462.setTop (mkF m 261 #[lI p0, lI p1, lI p2, lJ p3, lS, lI 1, lI 1, lI 1, lI 1, lJ v15, lS, lI v16, lI v17, lR b18, lR b20, lR b22, lI 0, lI 1, lI 2, lI 1, lI 1, lU, lU, lU, lU, lU] []))
            refine own_via (fun _ k => XS.iconst X462.here hx rfl (hb hby at_261) k) ?_
            show own_Go p e below s _ _ _ (T462.setTop (mkF m 262 #[lI p0, lI p1, lI p2, lJ p3, lS, lI 1, lI 1, lI 1, lI 1, lJ v15, lS, lI v16, lI v17, lR b18, lR b20, lR b22, lI 0, lI 1, lI 2, lI 1, lI 1, lU, lU, lU, lU, lU] [(.int (-1 : Int32))]))
            refine own_via (fun _ k => XS.istore X462.here hx rfl (hb hby at_262) rfl (l' := #[lI p0, lI p1, lI p2, lJ p3, lS, lI 1, lI 1, lI 1, lI 1, lJ v15, lS, lI v16, lI v17, lR b18, lR b20, lR b22, lI 0, lI 1, lI 2, lI 1, lI 1, lI (-1), lU, lU, lU, lU]) rfl k) ?_
            show own_Go p e below s _ _ _ (T462.setTop (mkF m 264 #[lI p0, lI p1, lI p2, lJ p3, lS, lI 1, lI 1, lI 1, lI 1, lJ v15, lS, lI v16, lI v17, lR b18, lR b20, lR b22, lI 0, lI 1, lI 2, lI 1, lI 1, lI (-1), lU, lU, lU, lU] []))
            refine own_via (fun _ k => XS.iload X462.here hx rfl (hb hby at_264) rfl k) ?_
            show own_Go p e below s _ _ _ (T462.setTop (mkF m 266 #[lI p0, lI p1, lI p2, lJ p3, lS, lI 1, lI 1, lI 1, lI 1, lJ v15, lS, lI v16, lI v17, lR b18, lR b20, lR b22, lI 0, lI 1, lI 2, lI 1, lI 1, lI (-1), lU, lU, lU, lU] [(.int (1 : Int32))]))
            refine own_via (fun _ k => XS.ifNo X462.here hx rfl (hb hby at_266) rfl (Jvm.Free.XT.i0_eq_f (by decide)) k) ?_
            show own_Go p e below s _ _ _ (T462.setTop (mkF m 269 #[lI p0, lI p1, lI p2, lJ p3, lS, lI 1, lI 1, lI 1, lI 1, lJ v15, lS, lI v16, lI v17, lR b18, lR b20, lR b22, lI 0, lI 1, lI 2, lI 1, lI 1, lI (-1), lU, lU, lU, lU] []))
            refine own_via (fun _ k => XS.aload X462.here hx rfl (hb hby at_269) rfl rfl k) ?_
            show own_Go p e below s _ _ _ (T462.setTop (mkF m 271 #[lI p0, lI p1, lI p2, lJ p3, lS, lI 1, lI 1, lI 1, lI 1, lJ v15, lS, lI v16, lI v17, lR b18, lR b20, lR b22, lI 0, lI 1, lI 2, lI 1, lI 1, lI (-1), lU, lU, lU, lU] [(.ref b22)]))
            have F476 := (F464.keep Kq462 (ninS (Ne.symm ne_b22_bl_42) (ninS F113 (ninS F114 (ninS F112 nin0)))))
            have F477 := ((F433.keep Kq444 (ninS (Ne.symm ne_b22_bf_42) (ninS (Ne.symm F133) (ninS (Ne.symm F135) nin0)))).keep Kq462 (ninS (Ne.symm ne_b22_bf_42) (ninS (Ne.symm F133) (ninS (Ne.symm F135) (ninS (Ne.symm F130) nin0)))))
            have F478 := ((F434.keep Kq444 (ninS (Ne.symm ne_b22_br_42) (ninS (Ne.symm F134) (ninS (Ne.symm F136) nin0)))).keep Kq462 (ninS (Ne.symm ne_b22_br_42) (ninS (Ne.symm F134) (ninS (Ne.symm F136) (ninS (Ne.symm F131) nin0)))))
            obtain ⟨cq475, kq475, qa475, qb475, qc475⟩ := isOf hZ e462 F466
            obtain ⟨_, _, ⟨T475, L475, k475, n475⟩, -, X475, ⟨Lc475, hQ475, l475, y475, z475⟩, st475⟩ := X462.virtualBack hx (y := (⟨"com/example/trajectory/trajectory/search/Nodes", "poll", "()I"⟩ : MethodName)) (z := (⟨"com/example/trajectory/trajectory/search/Nodes", "poll", "()I"⟩ : MethodName)) hown (mvT hZ (hwi hw 98 rfl)) (mvT hZ (hwi hw 99 rfl)) (notFace_of_selects (args := #[]) (mvT hZ (hwi hw 101 rfl))) (mvT hZ (hwi hw 101 rfl)) (mvT hZ (hwi hw 100 rfl)) (by decide) (backOf (W := 0) (rmpo2 l Z a0 hw [] b22 v15 (own_dec (own_inc (own_inc (0 : Int64) (0 : Int32) v15) (1 : Int32) v15) (1 : Int32) v15) (0 : Int32) (0 : Int32) (0 : Int32) dq0 dq1 (own_rk (0 : Int32) (0 : Int32)) (own_rk (1 : Int32) (1 : Int32)) bl_42 bz_42 bf_42 br_42 kl_42 kz_42 kf_42 kr_42 [(.int (0 : Int32)), (.int (1 : Int32)), (.int (1 : Int32)), (.int (0 : Int32))] [(.int (0 : Int32)), (.int (1 : Int32)), (.int (0 : Int32)), (.int (0 : Int32))] h462 n0 Z462 F466 F467 F468 F469 F470 F471 F472 F473 F476 F474 F477 F478 g_b22 g_bf_42 g_br_42 ne_b22_bf_42 ne_b22_br_42 F137 (by decide) ⟨by decide, by decide⟩ rfl rfl) hZ (hwi hw 102 rfl) (hwi hw 4 rfl) (by decide) (by decide)) qa475 qc475 (g := (mkF m 271 #[lI p0, lI p1, lI p2, lJ p3, lS, lI 1, lI 1, lI 1, lI 1, lJ v15, lS, lI v16, lI v17, lR b18, lR b20, lR b22, lI 0, lI 1, lI 2, lI 1, lI 1, lI (-1), lU, lU, lU, lU] [(.ref b22)])) rfl (by rw [hml]; rfl) (Steps.refl _) (argsL := []) (rest := []) (lenOf pd_11 rfl) rfl (by show 2 * 0 + _ ≤ _; exact Nat.le_of_eq rfl) (hb hby at_271) (fun _ _ => ⟨rfl, e462, (by decide : 14 + 0 ≤ _), (by decide : 789 + 0 ≤ _)⟩)
            dsimp only [Pt.U, Pt.locs, Pt.cells, Pt.slots] at X475 l475 y475 z475 st475 hQ475
            subst l475 y475 z475
            obtain ⟨h475, e475⟩ : ∃ h, T475.heap = h := ⟨_, rfl⟩
            rw [e475] at hQ475
            obtain ⟨rfl, N475q, Kq475, F479, F480⟩ := hQ475
            have Z475 : n0 ≤ h475.size := Nat.le_trans Z462 Kq475.1
            have N475 := Fr.app N462 N475q
            refine own_viaT st475 ?_
            show own_Go p e below s _ _ _ (T475.setTop (mkF m 274 #[lI p0, lI p1, lI p2, lJ p3, lS, lI 1, lI 1, lI 1, lI 1, lJ v15, lS, lI v16, lI v17, lR b18, lR b20, lR b22, lI 0, lI 1, lI 2, lI 1, lI 1, lI (-1), lU, lU, lU, lU] [(.int (0 : Int32))]))
            refine own_via (fun _ k => XS.istore X475.here hx rfl (hb hby at_274) rfl (l' := #[lI p0, lI p1, lI p2, lJ p3, lS, lI 1, lI 1, lI 1, lI 1, lJ v15, lS, lI v16, lI v17, lR b18, lR b20, lR b22, lI 0, lI 1, lI 2, lI 1, lI 1, lI 0, lU, lU, lU, lU]) rfl k) ?_
            show own_Go p e below s _ _ _ (T475.setTop (mkF m 276 #[lI p0, lI p1, lI p2, lJ p3, lS, lI 1, lI 1, lI 1, lI 1, lJ v15, lS, lI v16, lI v17, lR b18, lR b20, lR b22, lI 0, lI 1, lI 2, lI 1, lI 1, lI 0, lU, lU, lU, lU] []))
            refine own_via (fun _ k => XS.iconst X475.here hx rfl (hb hby at_276) k) ?_
            show own_Go p e below s _ _ _ (T475.setTop (mkF m 277 #[lI p0, lI p1, lI p2, lJ p3, lS, lI 1, lI 1, lI 1, lI 1, lJ v15, lS, lI v16, lI v17, lR b18, lR b20, lR b22, lI 0, lI 1, lI 2, lI 1, lI 1, lI 0, lU, lU, lU, lU] [(.int (-1 : Int32))]))
            refine own_via (fun _ k => XS.istore X475.here hx rfl (hb hby at_277) rfl (l' := #[lI p0, lI p1, lI p2, lJ p3, lS, lI 1, lI 1, lI 1, lI 1, lJ v15, lS, lI v16, lI v17, lR b18, lR b20, lR b22, lI 0, lI 1, lI 2, lI 1, lI 1, lI 0, lI (-1), lU, lU, lU]) rfl k) ?_
            show own_Go p e below s _ _ _ (T475.setTop (mkF m 279 #[lI p0, lI p1, lI p2, lJ p3, lS, lI 1, lI 1, lI 1, lI 1, lJ v15, lS, lI v16, lI v17, lR b18, lR b20, lR b22, lI 0, lI 1, lI 2, lI 1, lI 1, lI 0, lI (-1), lU, lU, lU] []))
            refine own_via (fun _ k => XS.iload X475.here hx rfl (hb hby at_279) rfl k) ?_
            show own_Go p e below s _ _ _ (T475.setTop (mkF m 281 #[lI p0, lI p1, lI p2, lJ p3, lS, lI 1, lI 1, lI 1, lI 1, lJ v15, lS, lI v16, lI v17, lR b18, lR b20, lR b22, lI 0, lI 1, lI 2, lI 1, lI 1, lI 0, lI (-1), lU, lU, lU] [(.int (1 : Int32))]))
            refine own_via (fun _ k => XS.ifNo X475.here hx rfl (hb hby at_281) rfl (Jvm.Free.XT.i0_eq_f (by decide)) k) ?_
            show own_Go p e below s _ _ _ (T475.setTop (mkF m 284 #[lI p0, lI p1, lI p2, lJ p3, lS, lI 1, lI 1, lI 1, lI 1, lJ v15, lS, lI v16, lI v17, lR b18, lR b20, lR b22, lI 0, lI 1, lI 2, lI 1, lI 1, lI 0, lI (-1), lU, lU, lU] []))
            refine own_via (fun _ k => XS.iload X475.here hx rfl (hb hby at_284) rfl k) ?_
            show own_Go p e below s _ _ _ (T475.setTop (mkF m 286 #[lI p0, lI p1, lI p2, lJ p3, lS, lI 1, lI 1, lI 1, lI 1, lJ v15, lS, lI v16, lI v17, lR b18, lR b20, lR b22, lI 0, lI 1, lI 2, lI 1, lI 1, lI 0, lI (-1), lU, lU, lU] [(.int (1 : Int32))]))
            refine own_via (fun _ k => XS.ifNo X475.here hx rfl (hb hby at_286) rfl (Jvm.Free.XT.i0_eq_f (by decide)) k) ?_
            show own_Go p e below s _ _ _ (T475.setTop (mkF m 289 #[lI p0, lI p1, lI p2, lJ p3, lS, lI 1, lI 1, lI 1, lI 1, lJ v15, lS, lI v16, lI v17, lR b18, lR b20, lR b22, lI 0, lI 1, lI 2, lI 1, lI 1, lI 0, lI (-1), lU, lU, lU] []))
            refine own_via (fun _ k => XS.iload X475.here hx rfl (hb hby at_289) rfl k) ?_
            show own_Go p e below s _ _ _ (T475.setTop (mkF m 291 #[lI p0, lI p1, lI p2, lJ p3, lS, lI 1, lI 1, lI 1, lI 1, lJ v15, lS, lI v16, lI v17, lR b18, lR b20, lR b22, lI 0, lI 1, lI 2, lI 1, lI 1, lI 0, lI (-1), lU, lU, lU] [(.int (1 : Int32))]))
            refine own_via (fun _ k => XS.ifNo X475.here hx rfl (hb hby at_291) rfl (Jvm.Free.XT.i0_eq_f (by decide)) k) ?_
            show own_Go p e below s _ _ _ (T475.setTop (mkF m 294 #[lI p0, lI p1, lI p2, lJ p3, lS, lI 1, lI 1, lI 1, lI 1, lJ v15, lS, lI v16, lI v17, lR b18, lR b20, lR b22, lI 0, lI 1, lI 2, lI 1, lI 1, lI 0, lI (-1), lU, lU, lU] []))
            refine own_via (fun _ k => XS.iload X475.here hx rfl (hb hby at_294) rfl k) ?_
            show own_Go p e below s _ _ _ (T475.setTop (mkF m 296 #[lI p0, lI p1, lI p2, lJ p3, lS, lI 1, lI 1, lI 1, lI 1, lJ v15, lS, lI v16, lI v17, lR b18, lR b20, lR b22, lI 0, lI 1, lI 2, lI 1, lI 1, lI 0, lI (-1), lU, lU, lU] [(.int v16)]))
            refine own_via (fun _ k => XS.iload X475.here hx rfl (hb hby at_296) rfl k) ?_
            show own_Go p e below s _ _ _ (T475.setTop (mkF m 298 #[lI p0, lI p1, lI p2, lJ p3, lS, lI 1, lI 1, lI 1, lI 1, lJ v15, lS, lI v16, lI v17, lR b18, lR b20, lR b22, lI 0, lI 1, lI 2, lI 1, lI 1, lI 0, lI (-1), lU, lU, lU] [(.int v17), (.int v16)]))
            have hc481 : ¬ (v17 < v16) := hlt
            refine own_via (fun _ k => XS.icmpNo X475.here hx rfl (hb hby at_298) rfl (Jvm.Free.XT.ii_gt_f hc481) k) ?_
            show own_Go p e below s _ _ _ (T475.setTop (mkF m 301 #[lI p0, lI p1, lI p2, lJ p3, lS, lI 1, lI 1, lI 1, lI 1, lJ v15, lS, lI v16, lI v17, lR b18, lR b20, lR b22, lI 0, lI 1, lI 2, lI 1, lI 1, lI 0, lI (-1), lU, lU, lU] []))
            refine own_via (fun _ k => XS.iload X475.here hx rfl (hb hby at_301) rfl k) ?_
            show own_Go p e below s _ _ _ (T475.setTop (mkF m 303 #[lI p0, lI p1, lI p2, lJ p3, lS, lI 1, lI 1, lI 1, lI 1, lJ v15, lS, lI v16, lI v17, lR b18, lR b20, lR b22, lI 0, lI 1, lI 2, lI 1, lI 1, lI 0, lI (-1), lU, lU, lU] [(.int (0 : Int32))]))
            refine own_via (fun _ k => XS.istore X475.here hx rfl (hb hby at_303) rfl (l' := #[lI p0, lI p1, lI p2, lJ p3, lS, lI 1, lI 1, lI 1, lI 1, lJ v15, lS, lI v16, lI v17, lR b18, lR b20, lR b22, lI 0, lI 1, lI 2, lI 1, lI 1, lI 0, lI 0, lU, lU, lU]) rfl k) ?_
            show own_Go p e below s _ _ _ (T475.setTop (mkF m 305 #[lI p0, lI p1, lI p2, lJ p3, lS, lI 1, lI 1, lI 1, lI 1, lJ v15, lS, lI v16, lI v17, lR b18, lR b20, lR b22, lI 0, lI 1, lI 2, lI 1, lI 1, lI 0, lI 0, lU, lU, lU] []))
            refine own_via (fun _ k => XS.goto X475.here hx rfl (pc0 := 305) (pc' := 312) rfl (hb hby at_305) (by decide) (by decide) k) ?_
            show own_Go p e below s _ _ _ (T475.setTop (mkF m 312 #[lI p0, lI p1, lI p2, lJ p3, lS, lI 1, lI 1, lI 1, lI 1, lJ v15, lS, lI v16, lI v17, lR b18, lR b20, lR b22, lI 0, lI 1, lI 2, lI 1, lI 1, lI 0, lI 0, lU, lU, lU] []))
            exact jz (1 : Int32) (1 : Int32) (1 : Int32) (1 : Int32) (1 : Int32) (1 : Int32) (0 : Int32) (0 : Int32) (own_pol (own_dec (own_inc (own_inc (0 : Int64) (0 : Int32) v15) (1 : Int32) v15) (1 : Int32) v15) (0 : Int32) (0 : Int32) v15) _ _ _ X475 e475 N475 Z475 F479 F480 (rfl) (by rcases own_l3 v15 with ⟨a1, a2⟩ | ⟨a1, a2⟩ | ⟨a1, a2⟩ <;> simp only [own_exp, own_any, own_pol, own_inc, own_dec, own_w0, own_w1, a1, a2, if_true, if_false, reduceIte] <;> decide)
set_option maxRecDepth 65536 in
set_option maxHeartbeats 40000000 in
theorem comes_1 {Post : Tables → Env → Array Value → State → Outcome → State → Prop} (hpost : ∀ tb e args s v u, (limb_1_1.after args s (.returned v) u = true ∧ limb_1_2.after args s (.returned v) u = true ∧ True) → FrameEnd s (.returned v) u (Jvm.fieldLocs frame_1_writes args s ++ Jvm.arrayLocs frame_1_arrays args s ++ Jvm.staticLocs frame_1_statics s) 40 1664 → Post tb e args s (.returned v) u) :
    ArmFor flags0 classFile x code maxLocals ret World_1 tables_1 room_1 Calls_1 rest_1 Pre_1 Post := by
  intro l hfl _ _ p e ha hc hk s m args below hf hA hF happ hP
  obtain ⟨hcalls, hrest, hpre⟩ := hP
  obtain ⟨-, -, -, hnamed, -, -, -, hat⟩ := (Spec.applies_iff hf).mp happ
  obtain ⟨hg, hn⟩ := and_e (Cond.before_iff.mp (show (Jvm.Cond.and given_1 narrow_1).before args s = true from hpre))
  obtain ⟨g1, g2⟩ := and_e hg
  obtain ⟨g3, g4⟩ := and_e g2
  obtain ⟨g5, g6⟩ := and_e g4
  obtain ⟨g7, g8⟩ := and_e g6
  obtain ⟨w0, w1, w2, w3, rfl⟩ : ∃ w0 w1 w2 w3 : Value, args = #[w0, w1, w2, w3] := by
    have hs : args.size = 4 := by simpa [Cond.value, given_1] using g1
    obtain ⟨L⟩ := args
    match L, hs with
    | [w0, w1, w2, w3], _ => exact ⟨w0, w1, w2, w3, rfl⟩
  have hw := fun d (hd : d ∈ tables_1) => atoms_spec (ws := Jvm.Cond.code x code maxLocals ret :: tables_1) hat d (List.mem_cons_of_mem _ hd)
  have hfit : Fit s := fun {y c} hc i hi => by
    obtain ⟨ha, rfl⟩ := Array.getElem?_eq_some_iff.mp hc
    have q := List.all_eq_true.mp ((Array.all_eq_true_iff_forall_mem.mp hF) _ (Array.getElem_mem ha)) i (List.mem_range.mpr hi)
    simpa [Array.getElem?_eq_getElem hi] using q
  obtain ⟨i0, ei0⟩ := is_v g3
  obtain rfl : w0 = (.int i0) := Option.some.inj ei0
  obtain ⟨i1, ei1⟩ := is_v g5
  obtain rfl : w1 = (.int i1) := Option.some.inj ei1
  obtain ⟨i2, ei2⟩ := is_v g7
  obtain rfl : w2 = (.int i2) := Option.some.inj ei2
  obtain ⟨i3, ei3⟩ := isL_v g8
  obtain rfl : w3 = (.long i3) := Option.some.inj ei3
  obtain ⟨n, o, h1, h2, h3, _, L, rfl, ⟨rfl, N⟩, hq⟩ := rm0 l s _ hw tables_1 i0 i1 i2 i3 s.heap s.heap.size (Nat.le_refl _)  p e ha hc hk s m _ below hf ((Spec.applies_iff_loose hf).mp happ).1 ⟨rfl, State.Warmed39.refl s, rfl⟩ trivial
  refine ⟨n, _, h1, h2, h3, hpost _ _ _ _ _ _ ⟨Cond.after_iff.mpr rfl, Cond.after_iff.mpr (eq_i res_at (Term.int_eval (1)) rfl), trivial⟩ ⟨hq.1, hq.2.1, (hq.2.2.sift fun y hy => Or.inr (N y hy)).mono (by decide) (by decide)⟩⟩
theorem main_1_1 : Claimed_1_1 := comes_1 fun _ _ _ _ _ _ h hF => ⟨h.1, hF⟩
theorem main_1_2 : Claimed_1_2 := comes_1 fun _ _ _ _ _ _ h hF => ⟨h.2.1, hF⟩
end Jvm.Pilot.@@N@@
namespace Jvm.Pilot.@@N@@
open Jvm Jvm.ClassFile Sem Op Lib Jvm.Free Jvm.Stand Jvm.Pilot.@@N@@.Jvm.D
/-! MADE BY PROGRAM (witnessworld.py) out of the Statement's table words and the real class files: 22 classes; the members and pool entries that the words name. The judged class is class 1, her method 1. -/
namespace start1
open Jvm.ClassFile
def u (s : String) : CpInfo := .utf8 (stringToUtf16 s)
/-- a pool by its gaps: so many unusable entries, then the entry; so many at the end -/
def gap : Nat → List CpInfo → List CpInfo
  | 0, r => r
  | n + 1, r => .unusable :: gap n r
def poolList (es : List (Nat × CpInfo)) (last : Nat) : List CpInfo := es.foldr (fun e r => gap e.1 (e.2 :: r)) (gap last [])
def pool (es : List (Nat × CpInfo)) (last : Nat) : Array CpInfo := ⟨poolList es last⟩
def fileOf (pool : Array CpInfo) (this : Nat) (attrs : Array Attribute := #[]) (ms : Array MethodInfo := #[]) (fl : Nat := 33) (sup : Nat := 0) (ifs : Array Nat := #[]) (fds : Array FieldInfo := #[]) : ClassFile where
  minorVersion := 0
  majorVersion := 65
  constantPool := pool
  accessFlags := fl
  thisClass := this
  superClass := sup
  interfaces := ifs
  fields := fds
  methods := ms
  attributes := attrs
def plain (name : String) (sup : Option ClassId) : Class where
  name := name
  kind := .ordinary
  loader := none
  accessFlags := 33
  super := sup
  interfaces := #[]
  cf := none
  fields := #[]
  methods := #[]
  instanceTypes := #[]
  staticTypes := #[]
  resolved := #[]
  callSites := []
  init := .initialized
  statics := none
  mirror := none

def pool0 : Array CpInfo := pool [(5, u "<init>"), (0, u "()V"), (1, .class_ 10), (1, u "java/lang/Object")] 113

def k0c0 : Code := { maxStack := 0, maxLocals := 1, code := object_method_1_code, exceptionTable := #[], attributes := #[] }
def k0m0 : Method := { name := "<init>", desc := "()V", sig := { parameters := [], returnType := none }, accessFlags := 1, code := some k0c0 }
/-- java/lang/Object -/
def k0 : Class := { plain "java/lang/Object" none with
  accessFlags := 33
  interfaces := #[]
  cf := some (fileOf pool0 8 #[] #[{ accessFlags := 1, nameIndex := 5, descriptorIndex := 6, attributes := #[] }] 33 0 #[] #[])
  fields := #[]
  methods := #[k0m0]
  instanceTypes := #[]
  staticTypes := #[]
  resolved := Array.replicate 124 none
  statics := none }

def pool1 : Array CpInfo := pool [(2, .class_ 4), (1, u "java/lang/Object"), (0, u "<init>"), (0, u "()V"), (0, .long 3), (1, .class_ 10), (0, u "com/example/trajectory/trajectory/search/Nodes"), (0, .methodref 9 12), (0, .nameAndType 5 13), (0, u "(IIJD)V"), (0, .methodref 9 15), (0, .nameAndType 16 17), (0, u "add"), (0, u "([JDDII)I"), (0, .methodref 9 19), (0, .nameAndType 20 21), (0, u "queue"), (0, u "(I)V"), (0, .methodref 9 23), (0, .nameAndType 24 25), (0, u "slot"), (0, u "([J)I"), (0, .methodref 9 27), (0, .nameAndType 28 29), (0, u "keep"), (0, u "(II)V"), (0, .methodref 9 31), (0, .nameAndType 32 33), (0, u "poll"), (0, u "()I"), (0, .methodref 9 35), (0, .nameAndType 36 37), (0, u "isAnyWaitingWithinLimit"), (0, u "()Z"), (0, .class_ 39), (0, u "com/example/trajectory/trajectory/search/NodesIsAnyWaitingWithinLimitPinLaw"), (2, u "law"), (0, u "(IIIJ)Z")] 5

def k1m0 : Method := { name := "<init>", desc := "()V", sig := { parameters := [], returnType := none }, accessFlags := 1, code := none }
def k1c1 : Code := { maxStack := 8, maxLocals := 26, code := code, exceptionTable := #[], attributes := #[] }
def k1m1 : Method := { name := "law", desc := "(IIIJ)Z", sig := { parameters := [.int, .int, .int, .long], returnType := some .boolean }, accessFlags := 9, code := some k1c1 }
/-- com/example/trajectory/trajectory/search/NodesIsAnyWaitingWithinLimitPinLaw -/
def k1 : Class := { plain "com/example/trajectory/trajectory/search/NodesIsAnyWaitingWithinLimitPinLaw" (some 0) with
  accessFlags := 49
  interfaces := #[]
  cf := some (fileOf pool1 38 #[] #[{ accessFlags := 1, nameIndex := 5, descriptorIndex := 6, attributes := #[] }, { accessFlags := 9, nameIndex := 42, descriptorIndex := 43, attributes := #[] }] 49 2 #[] #[])
  fields := #[]
  methods := #[k1m0, k1m1]
  instanceTypes := #[]
  staticTypes := #[]
  resolved := Array.replicate 49 none
  statics := none }

def pool2 : Array CpInfo := pool [(1, .methodref 2 3), (0, .class_ 4), (0, .nameAndType 5 6), (0, u "java/lang/Object"), (0, u "<init>"), (0, u "()V"), (0, .fieldref 8 9), (0, .class_ 10), (0, .nameAndType 11 12), (0, u "com/example/trajectory/trajectory/search/Nodes"), (0, u "width"), (0, u "I"), (0, .fieldref 8 14), (0, .nameAndType 15 16), (0, u "lengthLimit"), (0, u "J"), (0, .class_ 18), (0, u "java/lang/Integer"), (0, .long 2147483647), (1, .methodref 22 23), (0, .class_ 24), (0, .nameAndType 25 26), (0, u "java/lang/Math"), (0, u "min"), (0, u "(JJ)J"), (0, .fieldref 8 28), (0, .nameAndType 29 16), (0, u "longestWithin"), (0, .fieldref 8 31), (0, .nameAndType 32 33), (0, u "dearestStep"), (0, u "D"), (0, .integer 65536), (0, .methodref 22 36), (0, .nameAndType 25 37), (0, u "(II)I"), (0, .methodref 17 39), (0, .nameAndType 40 41), (0, u "highestOneBit"), (0, u "(I)I"), (0, .methodref 22 43), (0, .nameAndType 44 37), (0, u "max"), (0, .fieldref 8 46), (0, .nameAndType 47 48), (0, u "states"), (0, u "[J"), (0, .fieldref 8 50), (0, .nameAndType 51 52), (0, u "costs"), (0, u "[D"), (0, .fieldref 8 54), (0, .nameAndType 55 52), (0, u "stepCosts"), (0, .fieldref 8 57), (0, .nameAndType 58 59), (0, u "lengths"), (0, u "[I"), (0, .fieldref 8 61), (0, .nameAndType 62 59), (0, u "parents"), (0, .fieldref 8 64), (0, .nameAndType 65 59), (0, u "steps"), (0, .fieldref 8 67), (0, .nameAndType 68 69), (0, u "superseded"), (0, u "[Z"), (0, .fieldref 8 71), (0, .nameAndType 72 59), (0, u "nextKept"), (0, .fieldref 8 74), (0, .nameAndType 75 59), (0, u "table"), (0, .fieldref 8 77), (0, .nameAndType 78 52), (0, u "frontierCosts"), (0, .fieldref 8 80), (0, .nameAndType 81 48), (0, u "frontierRanks"), (0, .fieldref 8 83), (0, .nameAndType 84 12), (0, u "count"), (15, .methodref 101 102), (0, .class_ 103), (0, .nameAndType 104 105), (0, u "java/lang/System"), (0, u "arraycopy"), (0, u "(Ljava/lang/Object;ILjava/lang/Object;II)V"), (0, .methodref 8 107), (0, .nameAndType 108 109), (0, u "probe"), (0, u "([JI)I"), (0, .methodref 8 111), (0, .nameAndType 112 113), (0, u "makesNeedless"), (0, u "(DIDI)Z"), (0, .fieldref 8 115), (0, .nameAndType 116 12), (0, u "held"), (0, .methodref 8 118), (0, .nameAndType 119 120), (0, u "supersede"), (0, u "(I)V"), (3, .double 4616189618054758400), (5, .methodref 8 131), (0, .nameAndType 132 133), (0, u "isWithinLimit"), (0, u "(I)Z"), (0, .fieldref 8 135), (0, .nameAndType 136 16), (0, u "waitingWithin"), (0, .long 11400714819323198485), (5, .fieldref 8 144), (0, .nameAndType 145 12), (0, u "waiting"), (0, .methodref 8 147), (0, .nameAndType 148 149), (0, u "before"), (0, u "(DJDJ)Z"), (0, u "LEAST_CAPACITY"), (2, u "MOST_CAPACITY"), (0, u "SPREAD"), (0, u "(IIJD)V"), (2, u "()I"), (0, u "add"), (0, u "([JDDII)I"), (11, u "slot"), (0, u "([J)I"), (2, u "keep"), (0, u "(II)V"), (0, u "queue"), (1, u "()Z"), (0, u "isAnyWaitingWithinLimit"), (0, u "poll")] 2

def k2c0 : Code := { maxStack := 5, maxLocals := 8, code := prog_59_method_1_code, exceptionTable := #[], attributes := #[] }
def k2m0 : Method := { name := "<init>", desc := "(IIJD)V", sig := { parameters := [.int, .int, .long, .double], returnType := none }, accessFlags := 0, code := some k2c0 }
def k2c1 : Code := { maxStack := 5, maxLocals := 9, code := prog_59_method_3_code, exceptionTable := #[], attributes := #[] }
def k2m1 : Method := { name := "add", desc := "([JDDII)I", sig := { parameters := [(.array .long), .double, .double, .int, .int], returnType := some .int }, accessFlags := 0, code := some k2c1 }
def k2c2 : Code := { maxStack := 4, maxLocals := 2, code := prog_59_method_12_code, exceptionTable := #[], attributes := #[] }
def k2m2 : Method := { name := "isWithinLimit", desc := "(I)Z", sig := { parameters := [.int], returnType := some .boolean }, accessFlags := 0, code := some k2c2 }
def k2c3 : Code := { maxStack := 3, maxLocals := 2, code := prog_59_method_13_code, exceptionTable := #[], attributes := #[] }
def k2m3 : Method := { name := "slot", desc := "([J)I", sig := { parameters := [(.array .long)], returnType := some .int }, accessFlags := 0, code := some k2c3 }
def k2c4 : Code := { maxStack := 8, maxLocals := 9, code := prog_59_method_15_code, exceptionTable := #[], attributes := #[] }
def k2m4 : Method := { name := "keep", desc := "(II)V", sig := { parameters := [.int, .int], returnType := none }, accessFlags := 0, code := some k2c4 }
def k2c5 : Code := { maxStack := 10, maxLocals := 11, code := prog_59_method_16_code, exceptionTable := #[], attributes := #[] }
def k2m5 : Method := { name := "makesNeedless", desc := "(DIDI)Z", sig := { parameters := [.double, .int, .double, .int], returnType := some .boolean }, accessFlags := 2, code := some k2c5 }
def k2c6 : Code := { maxStack := 5, maxLocals := 2, code := prog_59_method_17_code, exceptionTable := #[], attributes := #[] }
def k2m6 : Method := { name := "supersede", desc := "(I)V", sig := { parameters := [.int], returnType := none }, accessFlags := 2, code := some k2c6 }
def k2c7 : Code := { maxStack := 5, maxLocals := 7, code := prog_59_method_18_code, exceptionTable := #[], attributes := #[] }
def k2m7 : Method := { name := "probe", desc := "([JI)I", sig := { parameters := [(.array .long), .int], returnType := some .int }, accessFlags := 2, code := some k2c7 }
def k2c8 : Code := { maxStack := 8, maxLocals := 8, code := prog_59_method_20_code, exceptionTable := #[], attributes := #[] }
def k2m8 : Method := { name := "queue", desc := "(I)V", sig := { parameters := [.int], returnType := none }, accessFlags := 0, code := some k2c8 }
def k2c9 : Code := { maxStack := 4, maxLocals := 1, code := prog_59_method_22_code, exceptionTable := #[], attributes := #[] }
def k2m9 : Method := { name := "isAnyWaitingWithinLimit", desc := "()Z", sig := { parameters := [], returnType := some .boolean }, accessFlags := 0, code := some k2c9 }
def k2c10 : Code := { maxStack := 8, maxLocals := 8, code := prog_59_method_23_code, exceptionTable := #[], attributes := #[] }
def k2m10 : Method := { name := "poll", desc := "()I", sig := { parameters := [], returnType := some .int }, accessFlags := 0, code := some k2c10 }
def k2c11 : Code := { maxStack := 4, maxLocals := 8, code := prog_59_method_24_code, exceptionTable := #[], attributes := #[] }
def k2m11 : Method := { name := "before", desc := "(DJDJ)Z", sig := { parameters := [.double, .long, .double, .long], returnType := some .boolean }, accessFlags := 10, code := some k2c11 }
/-- com/example/trajectory/trajectory/search/Nodes -/
def k2 : Class := { plain "com/example/trajectory/trajectory/search/Nodes" (some 0) with
  accessFlags := 48
  interfaces := #[]
  cf := some (fileOf pool2 8 #[] #[{ accessFlags := 0, nameIndex := 5, descriptorIndex := 155, attributes := #[] }, { accessFlags := 0, nameIndex := 159, descriptorIndex := 160, attributes := #[] }, { accessFlags := 0, nameIndex := 132, descriptorIndex := 133, attributes := #[] }, { accessFlags := 0, nameIndex := 172, descriptorIndex := 173, attributes := #[] }, { accessFlags := 0, nameIndex := 176, descriptorIndex := 177, attributes := #[] }, { accessFlags := 2, nameIndex := 112, descriptorIndex := 113, attributes := #[] }, { accessFlags := 2, nameIndex := 119, descriptorIndex := 120, attributes := #[] }, { accessFlags := 2, nameIndex := 108, descriptorIndex := 109, attributes := #[] }, { accessFlags := 0, nameIndex := 178, descriptorIndex := 120, attributes := #[] }, { accessFlags := 0, nameIndex := 181, descriptorIndex := 180, attributes := #[] }, { accessFlags := 0, nameIndex := 182, descriptorIndex := 158, attributes := #[] }, { accessFlags := 10, nameIndex := 148, descriptorIndex := 149, attributes := #[] }] 48 2 #[] #[{ accessFlags := 26, nameIndex := 150, descriptorIndex := 12, attributes := #[] }, { accessFlags := 26, nameIndex := 153, descriptorIndex := 12, attributes := #[] }, { accessFlags := 26, nameIndex := 154, descriptorIndex := 16, attributes := #[] }, { accessFlags := 18, nameIndex := 11, descriptorIndex := 12, attributes := #[] }, { accessFlags := 18, nameIndex := 15, descriptorIndex := 16, attributes := #[] }, { accessFlags := 18, nameIndex := 29, descriptorIndex := 16, attributes := #[] }, { accessFlags := 18, nameIndex := 32, descriptorIndex := 33, attributes := #[] }, { accessFlags := 2, nameIndex := 47, descriptorIndex := 48, attributes := #[] }, { accessFlags := 2, nameIndex := 51, descriptorIndex := 52, attributes := #[] }, { accessFlags := 2, nameIndex := 55, descriptorIndex := 52, attributes := #[] }, { accessFlags := 2, nameIndex := 58, descriptorIndex := 59, attributes := #[] }, { accessFlags := 2, nameIndex := 62, descriptorIndex := 59, attributes := #[] }, { accessFlags := 2, nameIndex := 65, descriptorIndex := 59, attributes := #[] }, { accessFlags := 2, nameIndex := 68, descriptorIndex := 69, attributes := #[] }, { accessFlags := 2, nameIndex := 72, descriptorIndex := 59, attributes := #[] }, { accessFlags := 2, nameIndex := 84, descriptorIndex := 12, attributes := #[] }, { accessFlags := 2, nameIndex := 75, descriptorIndex := 59, attributes := #[] }, { accessFlags := 2, nameIndex := 116, descriptorIndex := 12, attributes := #[] }, { accessFlags := 2, nameIndex := 78, descriptorIndex := 52, attributes := #[] }, { accessFlags := 2, nameIndex := 81, descriptorIndex := 48, attributes := #[] }, { accessFlags := 2, nameIndex := 145, descriptorIndex := 12, attributes := #[] }, { accessFlags := 2, nameIndex := 136, descriptorIndex := 16, attributes := #[] }])
  fields := #[{ name := "LEAST_CAPACITY", type := .int, accessFlags := 26, slot := 0, constantValue := 0 }, { name := "MOST_CAPACITY", type := .int, accessFlags := 26, slot := 1, constantValue := 0 }, { name := "SPREAD", type := .long, accessFlags := 26, slot := 2, constantValue := 0 }, { name := "width", type := .int, accessFlags := 18, slot := 0, constantValue := 0 }, { name := "lengthLimit", type := .long, accessFlags := 18, slot := 1, constantValue := 0 }, { name := "longestWithin", type := .long, accessFlags := 18, slot := 2, constantValue := 0 }, { name := "dearestStep", type := .double, accessFlags := 18, slot := 3, constantValue := 0 }, { name := "states", type := (.array .long), accessFlags := 2, slot := 4, constantValue := 0 }, { name := "costs", type := (.array .double), accessFlags := 2, slot := 5, constantValue := 0 }, { name := "stepCosts", type := (.array .double), accessFlags := 2, slot := 6, constantValue := 0 }, { name := "lengths", type := (.array .int), accessFlags := 2, slot := 7, constantValue := 0 }, { name := "parents", type := (.array .int), accessFlags := 2, slot := 8, constantValue := 0 }, { name := "steps", type := (.array .int), accessFlags := 2, slot := 9, constantValue := 0 }, { name := "superseded", type := (.array .boolean), accessFlags := 2, slot := 10, constantValue := 0 }, { name := "nextKept", type := (.array .int), accessFlags := 2, slot := 11, constantValue := 0 }, { name := "count", type := .int, accessFlags := 2, slot := 12, constantValue := 0 }, { name := "table", type := (.array .int), accessFlags := 2, slot := 13, constantValue := 0 }, { name := "held", type := .int, accessFlags := 2, slot := 14, constantValue := 0 }, { name := "frontierCosts", type := (.array .double), accessFlags := 2, slot := 15, constantValue := 0 }, { name := "frontierRanks", type := (.array .long), accessFlags := 2, slot := 16, constantValue := 0 }, { name := "waiting", type := .int, accessFlags := 2, slot := 17, constantValue := 0 }, { name := "waitingWithin", type := .long, accessFlags := 2, slot := 18, constantValue := 0 }]
  methods := #[k2m0, k2m1, k2m2, k2m3, k2m4, k2m5, k2m6, k2m7, k2m8, k2m9, k2m10, k2m11]
  instanceTypes := #[.int, .long, .long, .double, (.array .long), (.array .double), (.array .double), (.array .int), (.array .int), (.array .int), (.array .boolean), (.array .int), .int, (.array .int), .int, (.array .double), (.array .long), .int, .long]
  staticTypes := #[.int, .int, .long]
  resolved := Array.replicate 185 none
  statics := none }

def pool3 : Array CpInfo := pool [(1, .class_ 2), (0, u "java/lang/Math"), (1, .class_ 6), (1, u "java/lang/Object"), (0, u "<init>"), (0, u "()V"), (89, .class_ 100), (1, u "java/lang/Math$RandomNumberGeneratorHolder"), (20, u "(JJ)J"), (50, u "negativeZeroFloatBits"), (0, u "J"), (2, u "negativeZeroDoubleBits"), (21, u "max"), (2, u "min"), (43, u "$assertionsDisabled"), (0, u "Z"), (88, u "(II)I"), (2, u "twoToTheDoubleScaleDown"), (0, u "D"), (4, u "twoToTheDoubleScaleUp"), (9, u "E"), (3, u "PI"), (2, u "TAU"), (2, u "DEGREES_TO_RADIANS"), (0, u "RADIANS_TO_DEGREES")] 94

def k3m0 : Method := { name := "<init>", desc := "()V", sig := { parameters := [], returnType := none }, accessFlags := 2, code := none }
def k3c1 : Code := { maxStack := 2, maxLocals := 2, code := jdk_29_method_65_code, exceptionTable := #[], attributes := #[] }
def k3m1 : Method := { name := "max", desc := "(II)I", sig := { parameters := [.int, .int], returnType := some .int }, accessFlags := 9, code := some k3c1 }
def k3c2 : Code := { maxStack := 2, maxLocals := 2, code := jdk_29_method_69_code, exceptionTable := #[], attributes := #[] }
def k3m2 : Method := { name := "min", desc := "(II)I", sig := { parameters := [.int, .int], returnType := some .int }, accessFlags := 9, code := some k3c2 }
def k3c3 : Code := { maxStack := 4, maxLocals := 4, code := jdk_29_method_70_code, exceptionTable := #[], attributes := #[] }
def k3m3 : Method := { name := "min", desc := "(JJ)J", sig := { parameters := [.long, .long], returnType := some .long }, accessFlags := 9, code := some k3c3 }
/-- java/lang/Math -/
def k3 : Class := { plain "java/lang/Math" (some 0) with
  accessFlags := 49
  interfaces := #[]
  cf := some (fileOf pool3 1 #[.nestMembers #[98]] #[{ accessFlags := 2, nameIndex := 7, descriptorIndex := 8, attributes := #[] }, { accessFlags := 9, nameIndex := 198, descriptorIndex := 335, attributes := #[] }, { accessFlags := 9, nameIndex := 201, descriptorIndex := 335, attributes := #[] }, { accessFlags := 9, nameIndex := 201, descriptorIndex := 121, attributes := #[] }] 49 4 #[] #[{ accessFlags := 25, nameIndex := 354, descriptorIndex := 339, attributes := #[] }, { accessFlags := 25, nameIndex := 358, descriptorIndex := 339, attributes := #[] }, { accessFlags := 25, nameIndex := 361, descriptorIndex := 339, attributes := #[] }, { accessFlags := 26, nameIndex := 364, descriptorIndex := 339, attributes := #[] }, { accessFlags := 26, nameIndex := 365, descriptorIndex := 339, attributes := #[] }, { accessFlags := 26, nameIndex := 172, descriptorIndex := 173, attributes := #[] }, { accessFlags := 26, nameIndex := 176, descriptorIndex := 173, attributes := #[] }, { accessFlags := 8, nameIndex := 344, descriptorIndex := 339, attributes := #[] }, { accessFlags := 8, nameIndex := 338, descriptorIndex := 339, attributes := #[] }, { accessFlags := 4120, nameIndex := 245, descriptorIndex := 246, attributes := #[] }])
  fields := #[{ name := "E", type := .double, accessFlags := 25, slot := 0, constantValue := 0 }, { name := "PI", type := .double, accessFlags := 25, slot := 1, constantValue := 0 }, { name := "TAU", type := .double, accessFlags := 25, slot := 2, constantValue := 0 }, { name := "DEGREES_TO_RADIANS", type := .double, accessFlags := 26, slot := 3, constantValue := 0 }, { name := "RADIANS_TO_DEGREES", type := .double, accessFlags := 26, slot := 4, constantValue := 0 }, { name := "negativeZeroFloatBits", type := .long, accessFlags := 26, slot := 5, constantValue := 0 }, { name := "negativeZeroDoubleBits", type := .long, accessFlags := 26, slot := 6, constantValue := 0 }, { name := "twoToTheDoubleScaleUp", type := .double, accessFlags := 8, slot := 7, constantValue := 0 }, { name := "twoToTheDoubleScaleDown", type := .double, accessFlags := 8, slot := 8, constantValue := 0 }, { name := "$assertionsDisabled", type := .boolean, accessFlags := 4120, slot := 9, constantValue := 0 }]
  methods := #[k3m0, k3m1, k3m2, k3m3]
  instanceTypes := #[]
  staticTypes := #[.double, .double, .double, .double, .double, .long, .long, .double, .double, .boolean]
  resolved := Array.replicate 460 none
  statics := none }

def pool4 : Array CpInfo := pool [(1, .class_ 2), (0, u "java/io/Serializable"), (0, .class_ 4), (0, u "java/lang/Object")] 2

/-- java/io/Serializable -/
def k4 : Class := { plain "java/io/Serializable" (some 0) with
  accessFlags := 1537
  interfaces := #[]
  cf := some (fileOf pool4 1 #[] #[] 1537 3 #[] #[])
  fields := #[]
  methods := #[]
  instanceTypes := #[]
  staticTypes := #[]
  resolved := Array.replicate 7 none
  statics := none }

def pool5 : Array CpInfo := pool [(2, .class_ 4), (1, u "java/lang/Object"), (0, u "<init>"), (0, u "()V"), (1, .class_ 10), (1, u "java/lang/Number"), (2, .class_ 14), (0, u "java/io/Serializable"), (0, u "serialVersionUID"), (0, u "J")] 20

def k5m0 : Method := { name := "<init>", desc := "()V", sig := { parameters := [], returnType := none }, accessFlags := 1, code := none }
/-- java/lang/Number -/
def k5 : Class := { plain "java/lang/Number" (some 0) with
  accessFlags := 1057
  interfaces := #[4]
  cf := some (fileOf pool5 8 #[] #[{ accessFlags := 1, nameIndex := 5, descriptorIndex := 6, attributes := #[] }] 1057 2 #[13] #[{ accessFlags := 26, nameIndex := 15, descriptorIndex := 16, attributes := #[] }])
  fields := #[{ name := "serialVersionUID", type := .long, accessFlags := 26, slot := 0, constantValue := 0 }]
  methods := #[k5m0]
  instanceTypes := #[]
  staticTypes := #[.long]
  resolved := Array.replicate 37 none
  statics := none }

def pool6 : Array CpInfo := pool [(1, .class_ 2), (0, u "java/lang/Comparable"), (0, .class_ 4), (0, u "java/lang/Object")] 7

/-- java/lang/Comparable -/
def k6 : Class := { plain "java/lang/Comparable" (some 0) with
  accessFlags := 1537
  interfaces := #[]
  cf := some (fileOf pool6 1 #[] #[] 1537 3 #[] #[])
  fields := #[]
  methods := #[]
  instanceTypes := #[]
  staticTypes := #[]
  resolved := Array.replicate 12 none
  statics := none }

def pool7 : Array CpInfo := pool [(1, .class_ 2), (0, u "java/lang/constant/Constable"), (0, .class_ 4), (0, u "java/lang/Object")] 6

/-- java/lang/constant/Constable -/
def k7 : Class := { plain "java/lang/constant/Constable" (some 0) with
  accessFlags := 1537
  interfaces := #[]
  cf := some (fileOf pool7 1 #[] #[] 1537 3 #[] #[])
  fields := #[]
  methods := #[]
  instanceTypes := #[]
  staticTypes := #[]
  resolved := Array.replicate 11 none
  statics := none }

def pool8 : Array CpInfo := pool [(1, .class_ 2), (0, u "java/lang/constant/ConstantDesc"), (0, .class_ 4), (0, u "java/lang/Object")] 32

/-- java/lang/constant/ConstantDesc -/
def k8 : Class := { plain "java/lang/constant/ConstantDesc" (some 0) with
  accessFlags := 1537
  interfaces := #[]
  cf := some (fileOf pool8 1 #[] #[] 1537 3 #[] #[])
  fields := #[]
  methods := #[]
  instanceTypes := #[]
  staticTypes := #[]
  resolved := Array.replicate 37 none
  statics := none }

def pool9 : Array CpInfo := pool [(1, .class_ 2), (0, u "java/lang/Integer"), (16, u "digits"), (0, u "[C"), (30, .methodref 1 52), (0, .nameAndType 53 54), (0, u "numberOfLeadingZeros"), (0, u "(I)I"), (30, u "DigitOnes"), (0, u "[B"), (2, u "DigitTens"), (37, .integer 2147483648), (61, .class_ 190), (0, u "java/lang/Integer$IntegerCache"), (3, u "I"), (8, .class_ 204), (0, u "java/lang/Number"), (2, u "value"), (56, .integer 65536), (37, u "TYPE"), (0, u "Ljava/lang/Class;"), (0, .class_ 305), (0, u "java/lang/Comparable"), (0, .class_ 307), (0, u "java/lang/constant/Constable"), (0, .class_ 309), (0, u "java/lang/constant/ConstantDesc"), (0, u "MIN_VALUE"), (1, u "MAX_VALUE"), (3, u "SIZE"), (1, u "BYTES"), (1, u "serialVersionUID"), (0, u "J"), (81, u "highestOneBit")] 49

def k9c0 : Code := { maxStack := 3, maxLocals := 1, code := jdk_33_method_45_code, exceptionTable := #[], attributes := #[] }
def k9m0 : Method := { name := "highestOneBit", desc := "(I)I", sig := { parameters := [.int], returnType := some .int }, accessFlags := 9, code := some k9c0 }
def k9c1 : Code := { maxStack := 3, maxLocals := 2, code := jdk_33_method_47_code, exceptionTable := #[], attributes := #[] }
def k9m1 : Method := { name := "numberOfLeadingZeros", desc := "(I)I", sig := { parameters := [.int], returnType := some .int }, accessFlags := 9, code := some k9c1 }
/-- java/lang/Integer -/
def k9 : Class := { plain "java/lang/Integer" (some 5) with
  accessFlags := 49
  interfaces := #[6, 7, 8]
  cf := some (fileOf pool9 1 #[.nestMembers #[189]] #[{ accessFlags := 9, nameIndex := 403, descriptorIndex := 54, attributes := #[] }, { accessFlags := 9, nameIndex := 53, descriptorIndex := 54, attributes := #[] }] 49 203 #[304, 306, 308] #[{ accessFlags := 25, nameIndex := 310, descriptorIndex := 194, attributes := #[] }, { accessFlags := 25, nameIndex := 312, descriptorIndex := 194, attributes := #[] }, { accessFlags := 25, nameIndex := 302, descriptorIndex := 303, attributes := #[] }, { accessFlags := 24, nameIndex := 19, descriptorIndex := 20, attributes := #[] }, { accessFlags := 24, nameIndex := 89, descriptorIndex := 86, attributes := #[] }, { accessFlags := 24, nameIndex := 85, descriptorIndex := 86, attributes := #[] }, { accessFlags := 18, nameIndex := 207, descriptorIndex := 194, attributes := #[] }, { accessFlags := 25, nameIndex := 316, descriptorIndex := 194, attributes := #[] }, { accessFlags := 25, nameIndex := 318, descriptorIndex := 194, attributes := #[] }, { accessFlags := 26, nameIndex := 320, descriptorIndex := 321, attributes := #[] }])
  fields := #[{ name := "MIN_VALUE", type := .int, accessFlags := 25, slot := 0, constantValue := 0 }, { name := "MAX_VALUE", type := .int, accessFlags := 25, slot := 1, constantValue := 0 }, { name := "TYPE", type := (.object "java/lang/Class"), accessFlags := 25, slot := 2, constantValue := 0 }, { name := "digits", type := (.array .char), accessFlags := 24, slot := 3, constantValue := 0 }, { name := "DigitTens", type := (.array .byte), accessFlags := 24, slot := 4, constantValue := 0 }, { name := "DigitOnes", type := (.array .byte), accessFlags := 24, slot := 5, constantValue := 0 }, { name := "value", type := .int, accessFlags := 18, slot := 0, constantValue := 0 }, { name := "SIZE", type := .int, accessFlags := 25, slot := 6, constantValue := 0 }, { name := "BYTES", type := .int, accessFlags := 25, slot := 7, constantValue := 0 }, { name := "serialVersionUID", type := .long, accessFlags := 26, slot := 8, constantValue := 0 }]
  methods := #[k9m0, k9m1]
  instanceTypes := #[.int]
  staticTypes := #[.int, .int, (.object "java/lang/Class"), (.array .char), (.array .byte), (.array .byte), .int, .int, .long]
  resolved := Array.replicate 453 none
  statics := none }

def pool10 : Array CpInfo := pool [(2, .class_ 4), (1, u "java/lang/Object"), (0, u "<init>"), (0, u "()V"), (1, .class_ 10), (1, u "java/lang/System"), (0, u "allowSecurityManager"), (0, u "I"), (16, u "cons"), (0, u "Ljava/io/Console;"), (77, .class_ 110), (1, u "java/lang/System$CallersHolder"), (43, u "initialErrStream"), (0, u "Ljava/io/PrintStream;"), (19, u "security"), (0, u "Ljava/lang/SecurityManager;"), (31, .class_ 209), (0, u "java/lang/System$1"), (7, u "props"), (0, u "Ljava/util/Properties;"), (2, u "lineSeparator"), (0, u "Ljava/lang/String;"), (96, .class_ 321), (1, u "java/lang/System$LoggerFinder"), (5, .class_ 328), (0, u "java/lang/System$Logger"), (67, u "err"), (2, u "out"), (91, u "notSupportedJnuEncoding"), (15, u "in"), (17, u "initialIn"), (0, u "Ljava/io/InputStream;"), (35, u "bootLayer"), (0, u "Ljava/lang/ModuleLayer;"), (99, .class_ 664), (0, u "java/lang/System$2"), (9, u "NEVER"), (2, u "MAYBE"), (49, u "arraycopy"), (0, u "(Ljava/lang/Object;ILjava/lang/Object;II)V"), (72, .class_ 802), (0, u "java/lang/System$Logger$Level")] 31

def k10m0 : Method := { name := "<init>", desc := "()V", sig := { parameters := [], returnType := none }, accessFlags := 2, code := none }
def k10m1 : Method := { name := "arraycopy", desc := "(Ljava/lang/Object;ILjava/lang/Object;II)V", sig := { parameters := [(.object "java/lang/Object"), .int, (.object "java/lang/Object"), .int, .int], returnType := none }, accessFlags := 265, code := none }
/-- java/lang/System -/
def k10 : Class := { plain "java/lang/System" (some 0) with
  accessFlags := 49
  interfaces := #[]
  cf := some (fileOf pool10 8 #[.nestMembers #[319, 327, 801, 108, 663, 208]] #[{ accessFlags := 2, nameIndex := 5, descriptorIndex := 6, attributes := #[] }, { accessFlags := 265, nameIndex := 727, descriptorIndex := 728, attributes := #[] }] 49 2 #[] #[{ accessFlags := 25, nameIndex := 507, descriptorIndex := 526, attributes := #[] }, { accessFlags := 25, nameIndex := 399, descriptorIndex := 155, attributes := #[] }, { accessFlags := 25, nameIndex := 396, descriptorIndex := 155, attributes := #[] }, { accessFlags := 10, nameIndex := 525, descriptorIndex := 526, attributes := #[] }, { accessFlags := 26, nameIndex := 674, descriptorIndex := 12, attributes := #[] }, { accessFlags := 26, nameIndex := 677, descriptorIndex := 12, attributes := #[] }, { accessFlags := 10, nameIndex := 11, descriptorIndex := 12, attributes := #[] }, { accessFlags := 74, nameIndex := 175, descriptorIndex := 176, attributes := #[] }, { accessFlags := 10, nameIndex := 491, descriptorIndex := 222, attributes := #[] }, { accessFlags := 74, nameIndex := 29, descriptorIndex := 30, attributes := #[] }, { accessFlags := 74, nameIndex := 154, descriptorIndex := 155, attributes := #[] }, { accessFlags := 10, nameIndex := 217, descriptorIndex := 218, attributes := #[] }, { accessFlags := 10, nameIndex := 221, descriptorIndex := 222, attributes := #[] }, { accessFlags := 8, nameIndex := 562, descriptorIndex := 563, attributes := #[] }])
  fields := #[{ name := "in", type := (.object "java/io/InputStream"), accessFlags := 25, slot := 0, constantValue := 0 }, { name := "out", type := (.object "java/io/PrintStream"), accessFlags := 25, slot := 1, constantValue := 0 }, { name := "err", type := (.object "java/io/PrintStream"), accessFlags := 25, slot := 2, constantValue := 0 }, { name := "initialIn", type := (.object "java/io/InputStream"), accessFlags := 10, slot := 3, constantValue := 0 }, { name := "NEVER", type := .int, accessFlags := 26, slot := 4, constantValue := 0 }, { name := "MAYBE", type := .int, accessFlags := 26, slot := 5, constantValue := 0 }, { name := "allowSecurityManager", type := .int, accessFlags := 10, slot := 6, constantValue := 0 }, { name := "security", type := (.object "java/lang/SecurityManager"), accessFlags := 74, slot := 7, constantValue := 0 }, { name := "notSupportedJnuEncoding", type := (.object "java/lang/String"), accessFlags := 10, slot := 8, constantValue := 0 }, { name := "cons", type := (.object "java/io/Console"), accessFlags := 74, slot := 9, constantValue := 0 }, { name := "initialErrStream", type := (.object "java/io/PrintStream"), accessFlags := 74, slot := 10, constantValue := 0 }, { name := "props", type := (.object "java/util/Properties"), accessFlags := 10, slot := 11, constantValue := 0 }, { name := "lineSeparator", type := (.object "java/lang/String"), accessFlags := 10, slot := 12, constantValue := 0 }, { name := "bootLayer", type := (.object "java/lang/ModuleLayer"), accessFlags := 8, slot := 13, constantValue := 0 }]
  methods := #[k10m0, k10m1]
  instanceTypes := #[]
  staticTypes := #[(.object "java/io/InputStream"), (.object "java/io/PrintStream"), (.object "java/io/PrintStream"), (.object "java/io/InputStream"), .int, .int, .int, (.object "java/lang/SecurityManager"), (.object "java/lang/String"), (.object "java/io/Console"), (.object "java/io/PrintStream"), (.object "java/util/Properties"), (.object "java/lang/String"), (.object "java/lang/ModuleLayer")]
  resolved := Array.replicate 834 none
  statics := none }

def pool11 : Array CpInfo := pool [(1, u "java/lang/Cloneable"), (0, .class_ 1), (0, u "java/lang/Object"), (0, .class_ 3)] 3

/-- java/lang/Cloneable -/
def k11 : Class := { plain "java/lang/Cloneable" (some 0) with
  accessFlags := 1537
  interfaces := #[]
  cf := some (fileOf pool11 2 #[] #[] 1537 4 #[] #[])
  fields := #[]
  methods := #[]
  instanceTypes := #[]
  staticTypes := #[]
  resolved := Array.replicate 8 none
  statics := none }

/-- the primitive boolean -/
def k12 : Class := { plain "boolean" none with kind := .primitive 'Z', accessFlags := 0x411 }
/-- [Z -/
def k13 : Class := { plain "[Z" (some 0) with kind := .array 12 .boolean, interfaces := #[11, 4], accessFlags := 1041 }

/-- the primitive byte -/
def k14 : Class := { plain "byte" none with kind := .primitive 'B', accessFlags := 0x411 }
/-- [B -/
def k15 : Class := { plain "[B" (some 0) with kind := .array 14 .byte, interfaces := #[11, 4], accessFlags := 1041 }

/-- the primitive double -/
def k16 : Class := { plain "double" none with kind := .primitive 'D', accessFlags := 0x411 }
/-- [D -/
def k17 : Class := { plain "[D" (some 0) with kind := .array 16 .double, interfaces := #[11, 4], accessFlags := 1041 }

/-- the primitive int -/
def k18 : Class := { plain "int" none with kind := .primitive 'I', accessFlags := 0x411 }
/-- [I -/
def k19 : Class := { plain "[I" (some 0) with kind := .array 18 .int, interfaces := #[11, 4], accessFlags := 1041 }

/-- the primitive long -/
def k20 : Class := { plain "long" none with kind := .primitive 'J', accessFlags := 0x411 }
/-- [J -/
def k21 : Class := { plain "[J" (some 0) with kind := .array 20 .long, interfaces := #[11, 4], accessFlags := 1041 }

def heap : Heap := #[]
def classes : Array Class := #[k0, k1, k2, k3, k4, k5, k6, k7, k8, k9, k10, k11, k12, k13, k14, k15, k16, k17, k18, k19, k20, k21]
def interned : List (Array UInt16 × Addr) := []
def slotsUsed : Nat := 0
def theMethod : MethodId := ⟨1, 1⟩
def args0 : Array Value := #[.int 15, .int 5, .int 3, .long 7]
def aboutOver (below : List Frame) : State where
  vm := { classes := classes, interned := interned.toArray }
  heap := heap
  slotsUsed := slotsUsed
  threads := #[{ frames := .invoking theMethod args0 :: below }]
def below0 : List Frame := [.native { method := ⟨0, 0⟩, args := #[] }]
def about1 : State := aboutOver below0
def p0 : Program := .bare "" "" ""
def e0 : Env := launch0.env 0 0 0
theorem w_frames : about1.frames = Frame.invoking theMethod args0 :: below0 := rfl
set_option maxRecDepth 65536 in
theorem w_args : argsFit about1.vm theMethod args0 = true := by decide +kernel
set_option maxRecDepth 65536 in
theorem w_heap : heapFits about1 = true := by decide +kernel
set_option maxRecDepth 65536 in
theorem w_runnable : about1.curStatus? = some .runnable := by decide +kernel
set_option maxRecDepth 65536 in
theorem w_alone : about1.alone = true := by decide +kernel
set_option maxRecDepth 65536 in
theorem w_named : about1.methodNamed? x = some theMethod := by decide +kernel
set_option maxRecDepth 65536 in
theorem w_hears : about1.hears theMethod below0 = true := by decide +kernel
set_option maxRecDepth 65536 in
theorem w_ripe : about1.ripe theMethod args0 below0 = true := by decide +kernel
theorem w_running : about1.status = .running := rfl
set_option maxRecDepth 65536 in
theorem w_room : about1.hasRoom e0.platform room_1 = true :=
  launch0.hasRoom_least _ room_1 (by decide +kernel) (by decide +kernel) (by decide +kernel) (by decide +kernel) (by decide +kernel) (by decide +kernel)
theorem allAtoms_all (ts : List Jvm.Cond) (a : Array Jvm.Value) (st : Jvm.State) : (allAtoms ts).before a st = ts.all (fun c => c.before a st) := by
  induction ts with
  | nil => rfl
  | cons c t ih =>
    show (Jvm.Cond.and c (allAtoms t)).before a st = _
    rw [Jvm.Cond.before_and, ih, List.all_cons]
def words1 : List Jvm.Cond := Jvm.Cond.code x code maxLocals ret :: tables_1
/-- a 'code' word, met by the world's own term for the bytes: nothing is compared byte by byte -/
theorem code_word {y : MethodName} {bytes : ByteArray} {mx : Nat} {rt : Option FieldType} {a : Array Value} {s : State} {m : MethodId} {meth : Method} {c : Code} (h1 : s.methodNamed? y = some m) (h2 : s.vm.method? m = some meth) (h3 : meth.code = some c) (h4 : c.code = bytes)
    (h5 : (c.maxLocals == mx && c.exceptionTable.isEmpty && decide (c.maxStack ≤ mostOperands) && decide (meth.sig.returnType = rt) && !meth.locks && decide (parseMethodDescriptor y.desc = some meth.sig)) = true) : (Jvm.Cond.code y bytes mx rt).before a s = true := by
  simp only [Bool.and_eq_true, beq_iff_eq, Bool.not_eq_true', decide_eq_true_eq] at h5
  obtain ⟨⟨⟨⟨⟨g1, g2⟩, g3⟩, g4⟩, g5⟩, g6⟩ := h5
  simp [Cond.before, Cond.holds, Cond.value, h1, h2, h3, h4, g1, g2, g3, g4, g5, g6]
def isCode : Jvm.Cond → Bool
  | .code _ _ _ _ => true
  | _ => false
theorem all_split {L : List Jvm.Cond} {P : Jvm.Cond → Bool} (h1 : L.all (fun c => isCode c || P c) = true) (h2 : ∀ c ∈ L.filter isCode, P c = true) : L.all P = true := by
  refine List.all_eq_true.mpr fun c hc => ?_
  have h := List.all_eq_true.mp h1 c hc
  rcases Bool.eq_false_or_eq_true (isCode c) with hi | hi
  · exact h2 c (List.mem_filter.mpr ⟨hc, hi⟩)
  · simpa [hi] using h
set_option maxRecDepth 65536 in
theorem w_c0 : (Jvm.Cond.code x code maxLocals ret).before args0 about1 = true := code_word (m := ⟨1, 1⟩) (meth := k1m1) (c := k1c1) (by decide +kernel) rfl rfl rfl (by decide +kernel)
set_option maxRecDepth 65536 in
theorem w_c1 : (Jvm.Cond.code ({ cls := "com/example/trajectory/trajectory/search/Nodes", name := "<init>", desc := "(IIJD)V" } : Jvm.MethodName) prog_59_method_1_code (8 : Nat) (Option.none : Option Jvm.ClassFile.FieldType)).before args0 about1 = true := code_word (m := ⟨2, 0⟩) (meth := k2m0) (c := k2c0) (by decide +kernel) rfl rfl rfl (by decide +kernel)
set_option maxRecDepth 65536 in
theorem w_c2 : (Jvm.Cond.code ({ cls := "java/lang/Object", name := "<init>", desc := "()V" } : Jvm.MethodName) object_method_1_code (1 : Nat) (Option.none : Option Jvm.ClassFile.FieldType)).before args0 about1 = true := code_word (m := ⟨0, 0⟩) (meth := k0m0) (c := k0c0) (by decide +kernel) rfl rfl rfl (by decide +kernel)
set_option maxRecDepth 65536 in
theorem w_c3 : (Jvm.Cond.code ({ cls := "java/lang/Math", name := "min", desc := "(JJ)J" } : Jvm.MethodName) jdk_29_method_70_code (4 : Nat) (Option.some Jvm.ClassFile.FieldType.long)).before args0 about1 = true := code_word (m := ⟨3, 3⟩) (meth := k3m3) (c := k3c3) (by decide +kernel) rfl rfl rfl (by decide +kernel)
set_option maxRecDepth 65536 in
theorem w_c4 : (Jvm.Cond.code ({ cls := "java/lang/Math", name := "min", desc := "(II)I" } : Jvm.MethodName) jdk_29_method_69_code (2 : Nat) (Option.some Jvm.ClassFile.FieldType.int)).before args0 about1 = true := code_word (m := ⟨3, 2⟩) (meth := k3m2) (c := k3c2) (by decide +kernel) rfl rfl rfl (by decide +kernel)
set_option maxRecDepth 65536 in
theorem w_c5 : (Jvm.Cond.code ({ cls := "java/lang/Integer", name := "highestOneBit", desc := "(I)I" } : Jvm.MethodName) jdk_33_method_45_code (1 : Nat) (Option.some Jvm.ClassFile.FieldType.int)).before args0 about1 = true := code_word (m := ⟨9, 0⟩) (meth := k9m0) (c := k9c0) (by decide +kernel) rfl rfl rfl (by decide +kernel)
set_option maxRecDepth 65536 in
theorem w_c6 : (Jvm.Cond.code ({ cls := "java/lang/Integer", name := "numberOfLeadingZeros", desc := "(I)I" } : Jvm.MethodName) jdk_33_method_47_code (2 : Nat) (Option.some Jvm.ClassFile.FieldType.int)).before args0 about1 = true := code_word (m := ⟨9, 1⟩) (meth := k9m1) (c := k9c1) (by decide +kernel) rfl rfl rfl (by decide +kernel)
set_option maxRecDepth 65536 in
theorem w_c7 : (Jvm.Cond.code ({ cls := "java/lang/Math", name := "max", desc := "(II)I" } : Jvm.MethodName) jdk_29_method_65_code (2 : Nat) (Option.some Jvm.ClassFile.FieldType.int)).before args0 about1 = true := code_word (m := ⟨3, 1⟩) (meth := k3m1) (c := k3c1) (by decide +kernel) rfl rfl rfl (by decide +kernel)
set_option maxRecDepth 65536 in
theorem w_c8 : (Jvm.Cond.code ({ cls := "com/example/trajectory/trajectory/search/Nodes", name := "add", desc := "([JDDII)I" } : Jvm.MethodName) prog_59_method_3_code (9 : Nat) (Option.some Jvm.ClassFile.FieldType.int)).before args0 about1 = true := code_word (m := ⟨2, 1⟩) (meth := k2m1) (c := k2c1) (by decide +kernel) rfl rfl rfl (by decide +kernel)
set_option maxRecDepth 65536 in
theorem w_c9 : (Jvm.Cond.code ({ cls := "com/example/trajectory/trajectory/search/Nodes", name := "isAnyWaitingWithinLimit", desc := "()Z" } : Jvm.MethodName) prog_59_method_22_code (1 : Nat) (Option.some Jvm.ClassFile.FieldType.boolean)).before args0 about1 = true := code_word (m := ⟨2, 9⟩) (meth := k2m9) (c := k2c9) (by decide +kernel) rfl rfl rfl (by decide +kernel)
set_option maxRecDepth 65536 in
theorem w_c10 : (Jvm.Cond.code ({ cls := "com/example/trajectory/trajectory/search/Nodes", name := "queue", desc := "(I)V" } : Jvm.MethodName) prog_59_method_20_code (8 : Nat) (Option.none : Option Jvm.ClassFile.FieldType)).before args0 about1 = true := code_word (m := ⟨2, 8⟩) (meth := k2m8) (c := k2c8) (by decide +kernel) rfl rfl rfl (by decide +kernel)
set_option maxRecDepth 65536 in
theorem w_c11 : (Jvm.Cond.code ({ cls := "com/example/trajectory/trajectory/search/Nodes", name := "isWithinLimit", desc := "(I)Z" } : Jvm.MethodName) prog_59_method_12_code (2 : Nat) (Option.some Jvm.ClassFile.FieldType.boolean)).before args0 about1 = true := code_word (m := ⟨2, 2⟩) (meth := k2m2) (c := k2c2) (by decide +kernel) rfl rfl rfl (by decide +kernel)
set_option maxRecDepth 65536 in
theorem w_c12 : (Jvm.Cond.code ({ cls := "com/example/trajectory/trajectory/search/Nodes", name := "before", desc := "(DJDJ)Z" } : Jvm.MethodName) prog_59_method_24_code (8 : Nat) (Option.some Jvm.ClassFile.FieldType.boolean)).before args0 about1 = true := code_word (m := ⟨2, 11⟩) (meth := k2m11) (c := k2c11) (by decide +kernel) rfl rfl rfl (by decide +kernel)
set_option maxRecDepth 65536 in
theorem w_c13 : (Jvm.Cond.code ({ cls := "com/example/trajectory/trajectory/search/Nodes", name := "poll", desc := "()I" } : Jvm.MethodName) prog_59_method_23_code (8 : Nat) (Option.some Jvm.ClassFile.FieldType.int)).before args0 about1 = true := code_word (m := ⟨2, 10⟩) (meth := k2m10) (c := k2c10) (by decide +kernel) rfl rfl rfl (by decide +kernel)
set_option maxRecDepth 65536 in
theorem w_c14 : (Jvm.Cond.code ({ cls := "com/example/trajectory/trajectory/search/Nodes", name := "slot", desc := "([J)I" } : Jvm.MethodName) prog_59_method_13_code (2 : Nat) (Option.some Jvm.ClassFile.FieldType.int)).before args0 about1 = true := code_word (m := ⟨2, 3⟩) (meth := k2m3) (c := k2c3) (by decide +kernel) rfl rfl rfl (by decide +kernel)
set_option maxRecDepth 65536 in
theorem w_c15 : (Jvm.Cond.code ({ cls := "com/example/trajectory/trajectory/search/Nodes", name := "probe", desc := "([JI)I" } : Jvm.MethodName) prog_59_method_18_code (7 : Nat) (Option.some Jvm.ClassFile.FieldType.int)).before args0 about1 = true := code_word (m := ⟨2, 7⟩) (meth := k2m7) (c := k2c7) (by decide +kernel) rfl rfl rfl (by decide +kernel)
set_option maxRecDepth 65536 in
theorem w_c16 : (Jvm.Cond.code ({ cls := "com/example/trajectory/trajectory/search/Nodes", name := "keep", desc := "(II)V" } : Jvm.MethodName) prog_59_method_15_code (9 : Nat) (Option.none : Option Jvm.ClassFile.FieldType)).before args0 about1 = true := code_word (m := ⟨2, 4⟩) (meth := k2m4) (c := k2c4) (by decide +kernel) rfl rfl rfl (by decide +kernel)
set_option maxRecDepth 65536 in
theorem w_c17 : (Jvm.Cond.code ({ cls := "com/example/trajectory/trajectory/search/Nodes", name := "makesNeedless", desc := "(DIDI)Z" } : Jvm.MethodName) prog_59_method_16_code (11 : Nat) (Option.some Jvm.ClassFile.FieldType.boolean)).before args0 about1 = true := code_word (m := ⟨2, 5⟩) (meth := k2m5) (c := k2c5) (by decide +kernel) rfl rfl rfl (by decide +kernel)
set_option maxRecDepth 65536 in
theorem w_c18 : (Jvm.Cond.code ({ cls := "com/example/trajectory/trajectory/search/Nodes", name := "supersede", desc := "(I)V" } : Jvm.MethodName) prog_59_method_17_code (2 : Nat) (Option.none : Option Jvm.ClassFile.FieldType)).before args0 about1 = true := code_word (m := ⟨2, 6⟩) (meth := k2m6) (c := k2c6) (by decide +kernel) rfl rfl rfl (by decide +kernel)
def codes1 : List Jvm.Cond := [Jvm.Cond.code x code maxLocals ret, Jvm.Cond.code ({ cls := "com/example/trajectory/trajectory/search/Nodes", name := "<init>", desc := "(IIJD)V" } : Jvm.MethodName) prog_59_method_1_code (8 : Nat) (Option.none : Option Jvm.ClassFile.FieldType), Jvm.Cond.code ({ cls := "java/lang/Object", name := "<init>", desc := "()V" } : Jvm.MethodName) object_method_1_code (1 : Nat) (Option.none : Option Jvm.ClassFile.FieldType), Jvm.Cond.code ({ cls := "java/lang/Math", name := "min", desc := "(JJ)J" } : Jvm.MethodName) jdk_29_method_70_code (4 : Nat) (Option.some Jvm.ClassFile.FieldType.long), Jvm.Cond.code ({ cls := "java/lang/Math", name := "min", desc := "(II)I" } : Jvm.MethodName) jdk_29_method_69_code (2 : Nat) (Option.some Jvm.ClassFile.FieldType.int), Jvm.Cond.code ({ cls := "java/lang/Integer", name := "highestOneBit", desc := "(I)I" } : Jvm.MethodName) jdk_33_method_45_code (1 : Nat) (Option.some Jvm.ClassFile.FieldType.int), Jvm.Cond.code ({ cls := "java/lang/Integer", name := "numberOfLeadingZeros", desc := "(I)I" } : Jvm.MethodName) jdk_33_method_47_code (2 : Nat) (Option.some Jvm.ClassFile.FieldType.int), Jvm.Cond.code ({ cls := "java/lang/Math", name := "max", desc := "(II)I" } : Jvm.MethodName) jdk_29_method_65_code (2 : Nat) (Option.some Jvm.ClassFile.FieldType.int), Jvm.Cond.code ({ cls := "com/example/trajectory/trajectory/search/Nodes", name := "add", desc := "([JDDII)I" } : Jvm.MethodName) prog_59_method_3_code (9 : Nat) (Option.some Jvm.ClassFile.FieldType.int), Jvm.Cond.code ({ cls := "com/example/trajectory/trajectory/search/Nodes", name := "isAnyWaitingWithinLimit", desc := "()Z" } : Jvm.MethodName) prog_59_method_22_code (1 : Nat) (Option.some Jvm.ClassFile.FieldType.boolean), Jvm.Cond.code ({ cls := "com/example/trajectory/trajectory/search/Nodes", name := "queue", desc := "(I)V" } : Jvm.MethodName) prog_59_method_20_code (8 : Nat) (Option.none : Option Jvm.ClassFile.FieldType), Jvm.Cond.code ({ cls := "com/example/trajectory/trajectory/search/Nodes", name := "isWithinLimit", desc := "(I)Z" } : Jvm.MethodName) prog_59_method_12_code (2 : Nat) (Option.some Jvm.ClassFile.FieldType.boolean), Jvm.Cond.code ({ cls := "com/example/trajectory/trajectory/search/Nodes", name := "before", desc := "(DJDJ)Z" } : Jvm.MethodName) prog_59_method_24_code (8 : Nat) (Option.some Jvm.ClassFile.FieldType.boolean), Jvm.Cond.code ({ cls := "com/example/trajectory/trajectory/search/Nodes", name := "poll", desc := "()I" } : Jvm.MethodName) prog_59_method_23_code (8 : Nat) (Option.some Jvm.ClassFile.FieldType.int), Jvm.Cond.code ({ cls := "com/example/trajectory/trajectory/search/Nodes", name := "slot", desc := "([J)I" } : Jvm.MethodName) prog_59_method_13_code (2 : Nat) (Option.some Jvm.ClassFile.FieldType.int), Jvm.Cond.code ({ cls := "com/example/trajectory/trajectory/search/Nodes", name := "probe", desc := "([JI)I" } : Jvm.MethodName) prog_59_method_18_code (7 : Nat) (Option.some Jvm.ClassFile.FieldType.int), Jvm.Cond.code ({ cls := "com/example/trajectory/trajectory/search/Nodes", name := "keep", desc := "(II)V" } : Jvm.MethodName) prog_59_method_15_code (9 : Nat) (Option.none : Option Jvm.ClassFile.FieldType), Jvm.Cond.code ({ cls := "com/example/trajectory/trajectory/search/Nodes", name := "makesNeedless", desc := "(DIDI)Z" } : Jvm.MethodName) prog_59_method_16_code (11 : Nat) (Option.some Jvm.ClassFile.FieldType.boolean), Jvm.Cond.code ({ cls := "com/example/trajectory/trajectory/search/Nodes", name := "supersede", desc := "(I)V" } : Jvm.MethodName) prog_59_method_17_code (2 : Nat) (Option.none : Option Jvm.ClassFile.FieldType)]
set_option maxRecDepth 65536 in
theorem codes_eq : words1.filter isCode = codes1 := rfl
theorem w_codes : ∀ c ∈ words1.filter isCode, c.before args0 about1 = true := by
  rw [codes_eq]
  intro c hc
  simp only [codes1, List.mem_cons, List.not_mem_nil, or_false] at hc
  rcases hc with rfl | rfl | rfl | rfl | rfl | rfl | rfl | rfl | rfl | rfl | rfl | rfl | rfl | rfl | rfl | rfl | rfl | rfl | rfl
  · exact w_c0
  · exact w_c1
  · exact w_c2
  · exact w_c3
  · exact w_c4
  · exact w_c5
  · exact w_c6
  · exact w_c7
  · exact w_c8
  · exact w_c9
  · exact w_c10
  · exact w_c11
  · exact w_c12
  · exact w_c13
  · exact w_c14
  · exact w_c15
  · exact w_c16
  · exact w_c17
  · exact w_c18
set_option maxRecDepth 65536 in
theorem w_t1 : (words1.take 24).all (fun c => isCode c || c.before args0 about1) = true := by decide +kernel
set_option maxRecDepth 65536 in
theorem w_t2 : ((words1.drop 24).take 24).all (fun c => isCode c || c.before args0 about1) = true := by decide +kernel
set_option maxRecDepth 65536 in
theorem w_t3 : (((words1.drop 24).drop 24).take 24).all (fun c => isCode c || c.before args0 about1) = true := by decide +kernel
set_option maxRecDepth 65536 in
theorem w_t4 : ((((words1.drop 24).drop 24).drop 24).take 24).all (fun c => isCode c || c.before args0 about1) = true := by decide +kernel
set_option maxRecDepth 65536 in
theorem w_t5 : (((((words1.drop 24).drop 24).drop 24).drop 24).take 24).all (fun c => isCode c || c.before args0 about1) = true := by decide +kernel
set_option maxRecDepth 65536 in
theorem w_t6 : (((((words1.drop 24).drop 24).drop 24).drop 24).drop 24).all (fun c => isCode c || c.before args0 about1) = true := by decide +kernel
theorem w_tables : (allAtoms (Jvm.Cond.code x code maxLocals ret :: tables_1)).before args0 about1 = true := by
  rw [allAtoms_all]
  show words1.all (fun c => c.before args0 about1) = true
  refine all_split ?_ w_codes
  rw [← List.take_append_drop 24 words1, List.all_append, w_t1, ← List.take_append_drop 24 (words1.drop 24), List.all_append, w_t2, ← List.take_append_drop 24 ((words1.drop 24).drop 24), List.all_append, w_t3, ← List.take_append_drop 24 (((words1.drop 24).drop 24).drop 24), List.all_append, w_t4, ← List.take_append_drop 24 ((((words1.drop 24).drop 24).drop 24).drop 24), List.all_append, w_t5, w_t6]
  rfl
set_option maxRecDepth 65536 in
theorem w_case : (Jvm.Cond.and given_1 narrow_1).before args0 about1 = true := by decide +kernel
theorem w_applies : (headSpec (Jvm.Cond.code x code maxLocals ret :: tables_1) room_1).applies x e0.platform about1 = true :=
  (Spec.applies_iff w_frames).mpr ⟨w_running, w_runnable, w_alone, w_named, w_hears, w_ripe, w_room, w_tables⟩
theorem atStart : AtStart classFile x code maxLocals ret World_1 tables_1 room_1 Calls_1 rest_1 Pre_1 launch0 p0 e0 about1 theMethod args0 below0 :=
  ⟨lists_1, trivial, launch0.admits_env _ _ _, launch0.least_env, fairChoices_fair.cas, fairChoices_fair.clock, w_frames, w_args, w_heap, w_applies, trivial, trivial, w_case⟩
end start1
theorem witness_1 : WitnessClaimed_1 := ⟨start1.p0, start1.e0, start1.about1, start1.theMethod, start1.args0, start1.below0, start1.atStart⟩
end Jvm.Pilot.@@N@@
