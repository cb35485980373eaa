import JvmDerived
import JvmDerived.Pilot.@@N@@Statement
import JvmDerived.Pilot.@@N@@Code
set_option linter.unusedVariables false
set_option linter.unusedSimpArgs false
namespace Jvm.Pilot.@@N@@
open Jvm Jvm.ClassFile Sem Op Lib Jvm.Free Jvm.Stand Jvm.LawKit Jvm.RoadKit Bundle Jvm.Pilot.@@N@@.Jvm.D
section OwnGo
variable {p : Program} {l : Launch} {e : Env} {R : Room} {s : State} {m : MethodId} {args : Array Value} {below : List Frame} {meth : Method} {c : Code} {T : State} {locs : List Loc} {cells slots : Nat}
/-- from S the run ends, returned, with Q -/
def own_Go (p : Program) (e : Env) (below : List Frame) (s : State) (Q : Option Value → Heap → List Loc → Prop) (cs ss : Nat) (S : State) : Prop :=
  ∃ (U : State) (o : Outcome), Steps p.tables e below S U ∧ U.status = .running ∧ Ended U below o ∧ ∃ v L, o = .returned v ∧ Q v U.heap L ∧ FrameEnd s o U L cs ss
variable {Q : Option Value → Heap → List Loc → Prop} {cs ss : Nat} {S S' : State}
theorem own_via (st : ∀ t, Steps p.tables e below S' t → Steps p.tables e below S t) (k : own_Go p e below s Q cs ss S') : own_Go p e below s Q cs ss S := by
  obtain ⟨U, o, h, r⟩ := k; exact ⟨U, o, st U h, r⟩
theorem own_viaT (st : Steps p.tables e below S S') (k : own_Go p e below s Q cs ss S') : own_Go p e below s Q cs ss S := own_via (fun _ h => st.trans h) k
theorem own_goV (X : Stand p l e R s m args below meth c T locs cells slots) (hx : p.tables.exec = Jvm.exec) {pc : Nat} {Ls : Array Slot} (hret : meth.sig.returnType = none) (hd : decode c.code pc = .ok (.return_, 1)) (hk : meth.locks = false) (hc : cells ≤ cs) (hs : slots ≤ ss) (hQ : Q none T.heap locs) :
    own_Go p e below s Q cs ss (T.setTop (mkF m pc Ls [])) := by
  obtain ⟨fs, hr, hrun, hended, hW, hsame⟩ := X.leave (v := none) (fun _ => rfl) hk
  exact ⟨_, _, X.returnOut hx hret hd hr, hrun, hended, _, _, rfl, hQ, ⟨_, rfl⟩, hW, hsame.mono hc hs⟩
theorem own_goN (X : Stand p l e R s m args below meth c T locs cells slots) (hx : p.tables.exec = Jvm.exec) {pc : Nat} {Ls : Array Slot} {z : Int32} {t : FieldType} {rest : List Value} (hret : meth.sig.returnType = some t) (ht : t = .boolean ∨ t = .byte ∨ t = .char ∨ t = .short) (hd : decode c.code pc = .ok (.ireturn, 1)) (hk : meth.locks = false) (hc : cells ≤ cs) (hs : slots ≤ ss) (hQ : Q (some (.int (nar t z))) T.heap locs) :
    own_Go p e below s Q cs ss (T.setTop (mkF m pc Ls (.int z :: rest))) := by
  obtain ⟨fs, hr, hrun, hended, hW, hsame⟩ := X.leave (v := some (.int (nar t z))) (fun h => by rw [hret] at h; cases h) hk
  exact ⟨_, _, retN X hx hret ht hd hr, hrun, hended, _, _, rfl, hQ, ⟨_, rfl⟩, hW, hsame.mono hc hs⟩
theorem own_goI (X : Stand p l e R s m args below meth c T locs cells slots) (hx : p.tables.exec = Jvm.exec) {pc : Nat} {Ls : Array Slot} {z : Int32} (hret : meth.sig.returnType = some .int) (hd : decode c.code pc = .ok (.ireturn, 1)) (hk : meth.locks = false) (hc : cells ≤ cs) (hs : slots ≤ ss) (hQ : Q (some (.int z)) T.heap locs) :
    own_Go p e below s Q cs ss (T.setTop (mkF m pc Ls [.int z])) := by
  obtain ⟨fs, hr, hrun, hended, hW, hsame⟩ := X.leave (v := some (.int z)) (fun h => by rw [hret] at h; cases h) hk
  exact ⟨_, _, X.ireturnOut hx hret rfl (Or.inl rfl) hd hr, hrun, hended, _, _, rfl, hQ, ⟨_, rfl⟩, hW, hsame.mono hc hs⟩
theorem own_goJ (X : Stand p l e R s m args below meth c T locs cells slots) (hx : p.tables.exec = Jvm.exec) {pc : Nat} {Ls : Array Slot} {z : Int64} (hret : meth.sig.returnType = some .long) (hd : decode c.code pc = .ok (.lreturn, 1)) (hk : meth.locks = false) (hc : cells ≤ cs) (hs : slots ≤ ss) (hQ : Q (some (.long z)) T.heap locs) :
    own_Go p e below s Q cs ss (T.setTop (mkF m pc Ls [.long z])) := by
  obtain ⟨fs, hr, hrun, hended, hW, hsame⟩ := X.leave (v := some (.long z)) (fun h => by rw [hret] at h; cases h) hk
  exact ⟨_, _, X.lreturnOut hx hret hd hr, hrun, hended, _, _, rfl, hQ, ⟨_, rfl⟩, hW, hsame.mono hc hs⟩
theorem own_goA (X : Stand p l e R s m args below meth c T locs cells slots) (hx : p.tables.exec = Jvm.exec) {pc : Nat} {Ls : Array Slot} {w : Value} {t : FieldType} (hw : w.isRef = true) (hret : meth.sig.returnType = some t) (ht : t.isReference = true) (hd : decode c.code pc = .ok (.areturn, 1)) (hk : meth.locks = false) (hc : cells ≤ cs) (hs : slots ≤ ss) (hQ : Q (some w) T.heap locs) :
    own_Go p e below s Q cs ss (T.setTop (mkF m pc Ls [w])) := by
  obtain ⟨fs, hr, hrun, hended, hW, hsame⟩ := X.leave (v := some w) (fun h => by rw [hret] at h; cases h) hk
  exact ⟨_, _, X.areturnOut hx hw hret ht hd hr, hrun, hended, _, _, rfl, hQ, ⟨_, rfl⟩, hW, hsame.mono hc hs⟩
theorem own_selP {s : State} {args : Array Value} {y y' : MethodName} (hs : (Cond.selects y'.cls y' y').before args s = true) (hc : y'.cls = y.cls) (hpriv : s.PrivateAt y) (hinst : (Cond.instanceMethod y).before args s = true) (hy : y.cls ≠ "java/lang/invoke/MethodHandle" ∧ y.cls ≠ "java/lang/invoke/VarHandle") : (Cond.selects y.cls y y).before args s = true := by
  obtain ⟨c2, r2, m2, -, -, q3, -, kP, hkP, hkPi⟩ := Cond.selects_spec hs
  exact selects_self_of_private (hc ▸ findClass_of_methodNamed q3) hkP hkPi hpriv hinst hy
end OwnGo
def o_i2l (x : Int32) : Int64 := x.toInt64
def o_l2i (x : Int64) : Int32 := x.toInt32
def o_i2b (x : Int32) : Int32 := x.toInt8.toInt32
def o_i2s (x : Int32) : Int32 := x.toInt16.toInt32
def o_i2c (x : Int32) : Int32 := x.toUInt32.toUInt16.toUInt32.toInt32
def o_ishl (x y : Int32) : Int32 := x <<< (y &&& 31)
def o_ishr (x y : Int32) : Int32 := x >>> (y &&& 31)
def o_iushr (x y : Int32) : Int32 := (x.toUInt32 >>> (y &&& 31).toUInt32).toInt32
def o_lshl (x : Int64) (y : Int32) : Int64 := x <<< (y &&& 0x3f).toInt64
def o_lshr (x : Int64) (y : Int32) : Int64 := x >>> (y &&& 0x3f).toInt64
def o_lushr (x : Int64) (y : Int32) : Int64 := (x.toUInt64 >>> (y &&& 0x3f).toInt64.toUInt64).toInt64
def o_irem (x y : Int32) : Int32 := x - (x / y) * y
def o_lrem (x y : Int64) : Int64 := x - (x / y) * y
def o_d0 : UInt64 := FP.dconst0
def o_d1 : UInt64 := FP.dconst1
theorem d1_0 : decode prog_15_method_1_code 0 = .ok (.aload_n 0, 1) := by decide +kernel
theorem d1_1 : decode prog_15_method_1_code 1 = .ok (.invokespecial 1, 3) := by decide +kernel
theorem d1_4 : decode prog_15_method_1_code 4 = .ok (.aload_n 0, 1) := by decide +kernel
theorem d1_5 : decode prog_15_method_1_code 5 = .ok (.lload_n 1, 1) := by decide +kernel
theorem d1_6 : decode prog_15_method_1_code 6 = .ok (.putfield 7, 3) := by decide +kernel
theorem d1_9 : decode prog_15_method_1_code 9 = .ok (.aload_n 0, 1) := by decide +kernel
theorem d1_10 : decode prog_15_method_1_code 10 = .ok (.lload_n 3, 1) := by decide +kernel
theorem d1_11 : decode prog_15_method_1_code 11 = .ok (.putfield 13, 3) := by decide +kernel
theorem d1_14 : decode prog_15_method_1_code 14 = .ok (.return_, 1) := by decide +kernel
theorem pn_0 : plainName "com/example/unalike/unalike/engine/PairTally$Change" = true := by first | (simp [plainName, overriddenIn]; done) | decide +kernel
theorem ef_1 (m : MethodId) (x0 : Addr) (x1 : Int64) (x2 : Int64) : entryFrame m #[(.ref x0), (.long x1), (.long x2)] 5 = mkF m 0 #[.val (.ref x0), .val (.long x1), .second, .val (.long x2), .second] [] := by first | (simp [entryFrame, mkF, argsToLocals, Value.category]; done) | rfl
def Q1 (Z : State) (a : Addr) (pc_ : Int64) (pt_ : Int64) (h0 : Heap) (n0 : Nat) (v : Option Value) (h : Heap) (L : List Loc) : Prop := v = none ∧ Fr n0 L ∧ Keep h0 h [a] ∧ Exa Z h a "com/example/unalike/unalike/engine/PairTally$Change" ∧ Fld Z h a "com/example/unalike/unalike/engine/PairTally$Change" "covered" "J" (.long pc_) ∧ Fld Z h a "com/example/unalike/unalike/engine/PairTally$Change" "twice" "J" (.long pt_)
set_option maxRecDepth 65536 in
set_option maxHeartbeats 40000000 in
theorem rm1 (l : Launch) (Z : State) (a0 : Array Value) (hw : ∀ d ∈ tables_1, d.before a0 Z = true) (ws : List Jvm.Cond) (a : Addr) (pc_ : Int64) (pt_ : Int64) (h0 : Heap) (n0 : Nat) (Z0 : n0 ≤ h0.size) (E_a : Exa Z h0 a "com/example/unalike/unalike/engine/PairTally$Change") (F_covered_a : Fld Z h0 a "com/example/unalike/unalike/engine/PairTally$Change" "covered" "J" (.long (0 : Int64))) (F_twice_a : Fld Z h0 a "com/example/unalike/unalike/engine/PairTally$Change" "twice" "J" (.long (0 : Int64))) (g_a : n0 ≤ a) :
    MetFree l (⟨"com/example/unalike/unalike/engine/PairTally$Change", "<init>", "(JJ)V"⟩ : MethodName) (head1 (Jvm.Cond.code (⟨"com/example/unalike/unalike/engine/PairTally$Change", "<init>", "(JJ)V"⟩ : MethodName) prog_15_method_1_code 5 none :: ws) ({ frames := 1, cells := 0, slots := 0, locals := 12 } : Room)) (fun q_ U => q_ = #[(.ref a), (.long pc_), (.long pt_)] ∧ Z.Warmed39 U.vm ∧ U.heap = h0) (fun _ _ _ _ _ => True) (fun _ U o U' => ∃ v L, o = .returned v ∧ Q1 Z a pc_ pt_ h0 n0 v U'.heap L ∧ FrameEnd U o U' L ({ frames := 1, cells := 0, slots := 0, locals := 12 } : Room).cells ({ frames := 1, cells := 0, slots := 0, locals := 12 } : Room).slots) := by
  refine MetFree.of_bodySF (plainFor_of_name pn_0) hisR ?_
  intro p e s m args below meth c s₁ Bd hml0 hP hK
  obtain ⟨rfl, hZ, hh⟩ := hP
  have hx := Bd.exec
  have hby := Bd.bytes
  have hml : c.maxLocals = 5 := hml0
  have hown : s.vm.findClass "com/example/unalike/unalike/engine/PairTally$Change" = some m.cls := findClass_of_methodNamed Bd.named
  have hnm := (name_of_methodNamed Bd.named Bd.method).1
  have X0 : Stand p l e ({ frames := 1, cells := 0, slots := 0, locals := 12 } : Room) s m #[(.ref a), (.long pc_), (.long pt_)] below meth c s₁ [] 0 0 := Stand.of_body Bd
  have e0 : s₁.heap = h0 := by rw [← hh, Bd.state]; rfl
  have N0 := Fr.nil n0
  show own_Go p e below s (Q1 Z a pc_ pt_ h0 n0) ({ frames := 1, cells := 0, slots := 0, locals := 12 } : Room).cells ({ frames := 1, cells := 0, slots := 0, locals := 12 } : Room).slots (s₁.setTop (entryFrame m #[(.ref a), (.long pc_), (.long pt_)] 5))
  refine own_via (fun t k => castTop (ef_1 m a pc_ pt_) k) ?_
  have K0 : Keep h0 h0 [a] := Keep.refl _ _
  show own_Go p e below s _ _ _ (s₁.setTop (mkF m 0 #[.val (.ref a), .val (.long pc_), .second, .val (.long pt_), .second] []))
  refine own_via (fun _ k => XS.aloadN X0.here hx rfl (hb hby d1_0) rfl rfl k) ?_
  show own_Go p e below s _ _ _ (s₁.setTop (mkF m 1 #[.val (.ref a), .val (.long pc_), .second, .val (.long pt_), .second] [(.ref a)]))
  obtain ⟨T1, X1, e1, st1⟩ := initO X0 hx hZ hown (hw _ (List.mem_of_getElem? (i := 6) rfl)) (hw _ (List.mem_of_getElem? (i := 7) rfl)) (hw _ (List.mem_of_getElem? (i := 8) rfl)) e0 (g := (mkF m 1 #[.val (.ref a), .val (.long pc_), .second, .val (.long pt_), .second] [(.ref a)])) rfl (by rw [hml]; rfl) rfl (hb hby d1_1) (by decide) (W := 0) (by show 2 * 0 + _ ≤ _; exact Nat.le_of_eq rfl) (by decide)
  refine own_via st1 ?_
  show own_Go p e below s _ _ _ (T1.setTop (mkF m 4 #[.val (.ref a), .val (.long pc_), .second, .val (.long pt_), .second] []))
  refine own_via (fun _ k => XS.aloadN X1.here hx rfl (hb hby d1_4) rfl rfl k) ?_
  show own_Go p e below s _ _ _ (T1.setTop (mkF m 5 #[.val (.ref a), .val (.long pc_), .second, .val (.long pt_), .second] [(.ref a)]))
  refine own_via (fun _ k => XS.lloadN X1.here hx rfl (hb hby d1_5) rfl k) ?_
  show own_Go p e below s _ _ _ (T1.setTop (mkF m 6 #[.val (.ref a), .val (.long pc_), .second, .val (.long pt_), .second] [(.long pc_), (.ref a)]))
  obtain ⟨T2, h2, X2, e2, W2, st2⟩ := putF X1 hx hZ hown (host := "") (Or.inl (hw _ (List.mem_of_getElem? (i := 9) rfl))) Via.refl e1 F_covered_a E_a (Or.inr ⟨(hw _ (List.mem_of_getElem? (i := 10) rfl)), rfl, hnm⟩) (hw _ (List.mem_of_getElem? (i := 1) rfl)) (ty := .long) (by decide) rfl rfl (g := (mkF m 6 #[.val (.ref a), .val (.long pc_), .second, .val (.long pt_), .second] [(.long pc_), (.ref a)])) rfl rfl (hb hby d1_6)
  have N2 := Fr.snoc X2 N0 g_a
  have Fw2 := F_covered_a.same W2
  have Z2 : n0 ≤ h2.size := Nat.le_trans Z0 (Keep.of_wr W2).1
  have K2 : Keep h0 h2 [a] := K0.wr W2 (Or.inl (List.mem_of_getElem? (i := 0) rfl))
  refine own_via st2 ?_
  show own_Go p e below s _ _ _ (T2.setTop (mkF m 9 #[.val (.ref a), .val (.long pc_), .second, .val (.long pt_), .second] []))
  refine own_via (fun _ k => XS.aloadN X2.here hx rfl (hb hby d1_9) rfl rfl k) ?_
  show own_Go p e below s _ _ _ (T2.setTop (mkF m 10 #[.val (.ref a), .val (.long pc_), .second, .val (.long pt_), .second] [(.ref a)]))
  refine own_via (fun _ k => XS.lloadN X2.here hx rfl (hb hby d1_10) rfl k) ?_
  show own_Go p e below s _ _ _ (T2.setTop (mkF m 11 #[.val (.ref a), .val (.long pc_), .second, .val (.long pt_), .second] [(.long pt_), (.ref a)]))
  have F3 := (E_a.wr W2)
  have F4 := (F_twice_a.other W2 (Or.inr (slot_ne (Or.inr (hw _ (List.mem_of_getElem? (i := 12) rfl))) (Or.inr (hw _ (List.mem_of_getElem? (i := 10) rfl))) (by decide) (t := .long) (t' := .long) (by decide) (by decide))))
  obtain ⟨T5, h5, X5, e5, W5, st5⟩ := putF X2 hx hZ hown (host := "") (Or.inl (hw _ (List.mem_of_getElem? (i := 11) rfl))) Via.refl e2 F4 F3 (Or.inr ⟨(hw _ (List.mem_of_getElem? (i := 12) rfl)), rfl, hnm⟩) (hw _ (List.mem_of_getElem? (i := 1) rfl)) (ty := .long) (by decide) rfl rfl (g := (mkF m 11 #[.val (.ref a), .val (.long pc_), .second, .val (.long pt_), .second] [(.long pt_), (.ref a)])) rfl rfl (hb hby d1_11)
  have N5 := Fr.snoc X5 N2 g_a
  have Fw5 := F4.same W5
  have Z5 : n0 ≤ h5.size := Nat.le_trans Z2 (Keep.of_wr W5).1
  have K5 : Keep h0 h5 [a] := K2.wr W5 (Or.inl (List.mem_of_getElem? (i := 0) rfl))
  refine own_via st5 ?_
  show own_Go p e below s _ _ _ (T5.setTop (mkF m 14 #[.val (.ref a), .val (.long pc_), .second, .val (.long pt_), .second] []))
  have F6 := (F3.wr W5)
  have F7 := (Fw2.other W5 (Or.inr (slot_ne (Or.inr (hw _ (List.mem_of_getElem? (i := 10) rfl))) (Or.inr (hw _ (List.mem_of_getElem? (i := 12) rfl))) (by decide) (t := .long) (t' := .long) (by decide) (by decide))))
  exact own_goV X5 hx Bd.returns (hb hby d1_14) Bd.notSynchronized (by decide) (by decide) (by rw [e5]; exact ⟨rfl, N5, K5, F6, F7, Fw5⟩)
theorem d6_0 : decode jdk_18_method_1_code 0 = .ok (.aload_n 0, 1) := by decide +kernel
theorem d6_1 : decode jdk_18_method_1_code 1 = .ok (.invokespecial 1, 3) := by decide +kernel
theorem d6_4 : decode jdk_18_method_1_code 4 = .ok (.return_, 1) := by decide +kernel
theorem pn_1 : plainName "java/lang/Number" = true := by first | (simp [plainName, overriddenIn]; done) | decide +kernel
theorem ef_6 (m : MethodId) (x0 : Addr) : entryFrame m #[(.ref x0)] 1 = mkF m 0 #[.val (.ref x0)] [] := by first | (simp [entryFrame, mkF, argsToLocals, Value.category]; done) | rfl
def Q6 (Z : State) (a : Addr) (h0 : Heap) (n0 : Nat) (v : Option Value) (h : Heap) (L : List Loc) : Prop := v = none ∧ Fr n0 L ∧ h = h0
set_option maxRecDepth 65536 in
set_option maxHeartbeats 40000000 in
theorem rm6 (l : Launch) (Z : State) (a0 : Array Value) (hw : ∀ d ∈ tables_1, d.before a0 Z = true) (ws : List Jvm.Cond) (a : Addr) (h0 : Heap) (n0 : Nat) (Z0 : n0 ≤ h0.size) :
    MetFree l (⟨"java/lang/Number", "<init>", "()V"⟩ : MethodName) (head1 (Jvm.Cond.code (⟨"java/lang/Number", "<init>", "()V"⟩ : MethodName) jdk_18_method_1_code 1 none :: ws) ({ frames := 1, cells := 0, slots := 0, locals := 12 } : Room)) (fun q_ U => q_ = #[(.ref a)] ∧ Z.Warmed39 U.vm ∧ U.heap = h0) (fun _ _ _ _ _ => True) (fun _ U o U' => ∃ v L, o = .returned v ∧ Q6 Z a h0 n0 v U'.heap L ∧ FrameEnd U o U' L ({ frames := 1, cells := 0, slots := 0, locals := 12 } : Room).cells ({ frames := 1, cells := 0, slots := 0, locals := 12 } : Room).slots) := by
  refine MetFree.of_bodySF (plainFor_of_name pn_1) hisR ?_
  intro p e s m args below meth c s₁ Bd hml0 hP hK
  obtain ⟨rfl, hZ, hh⟩ := hP
  have hx := Bd.exec
  have hby := Bd.bytes
  have hml : c.maxLocals = 1 := hml0
  have hown : s.vm.findClass "java/lang/Number" = some m.cls := findClass_of_methodNamed Bd.named
  have hnm := (name_of_methodNamed Bd.named Bd.method).1
  have X0 : Stand p l e ({ frames := 1, cells := 0, slots := 0, locals := 12 } : Room) s m #[(.ref a)] below meth c s₁ [] 0 0 := Stand.of_body Bd
  have e0 : s₁.heap = h0 := by rw [← hh, Bd.state]; rfl
  have N0 := Fr.nil n0
  show own_Go p e below s (Q6 Z a h0 n0) ({ frames := 1, cells := 0, slots := 0, locals := 12 } : Room).cells ({ frames := 1, cells := 0, slots := 0, locals := 12 } : Room).slots (s₁.setTop (entryFrame m #[(.ref a)] 1))
  refine own_via (fun t k => castTop (ef_6 m a) k) ?_
  show own_Go p e below s _ _ _ (s₁.setTop (mkF m 0 #[.val (.ref a)] []))
  refine own_via (fun _ k => XS.aloadN X0.here hx rfl (hb hby d6_0) rfl rfl k) ?_
  show own_Go p e below s _ _ _ (s₁.setTop (mkF m 1 #[.val (.ref a)] [(.ref a)]))
  obtain ⟨T1, X1, e1, st1⟩ := initO X0 hx hZ hown (hw _ (List.mem_of_getElem? (i := 43) rfl)) (hw _ (List.mem_of_getElem? (i := 7) rfl)) (hw _ (List.mem_of_getElem? (i := 8) rfl)) e0 (g := (mkF m 1 #[.val (.ref a)] [(.ref a)])) rfl (by rw [hml]; rfl) rfl (hb hby d6_1) (by decide) (W := 0) (by show 2 * 0 + _ ≤ _; exact Nat.le_of_eq rfl) (by decide)
  refine own_via st1 ?_
  show own_Go p e below s _ _ _ (T1.setTop (mkF m 4 #[.val (.ref a)] []))
  exact own_goV X1 hx Bd.returns (hb hby d6_4) Bd.notSynchronized (by decide) (by decide) (by rw [e1]; exact ⟨rfl, N0, rfl⟩)
theorem d5_0 : decode jdk_35_method_26_code 0 = .ok (.aload_n 0, 1) := by decide +kernel
theorem pd_0 : parseMethodDescriptor "()V" = some ⟨[], none⟩ := by decide +kernel
theorem d5_1 : decode jdk_35_method_26_code 1 = .ok (.invokespecial 270, 3) := by decide +kernel
theorem d5_4 : decode jdk_35_method_26_code 4 = .ok (.aload_n 0, 1) := by decide +kernel
theorem d5_5 : decode jdk_35_method_26_code 5 = .ok (.lload_n 1, 1) := by decide +kernel
theorem d5_6 : decode jdk_35_method_26_code 6 = .ok (.putfield 273, 3) := by decide +kernel
theorem d5_9 : decode jdk_35_method_26_code 9 = .ok (.return_, 1) := by decide +kernel
theorem pn_2 : plainName "java/lang/Long" = true := by first | (simp [plainName, overriddenIn]; done) | decide +kernel
theorem ef_5 (m : MethodId) (x0 : Addr) (x1 : Int64) : entryFrame m #[(.ref x0), (.long x1)] 3 = mkF m 0 #[.val (.ref x0), .val (.long x1), .second] [] := by first | (simp [entryFrame, mkF, argsToLocals, Value.category]; done) | rfl
def Q5 (Z : State) (a : Addr) (p_ : Int64) (h0 : Heap) (n0 : Nat) (v : Option Value) (h : Heap) (L : List Loc) : Prop := v = none ∧ Fr n0 L ∧ Keep h0 h [a] ∧ Exa Z h a "java/lang/Long" ∧ Fld Z h a "java/lang/Long" "value" "J" (.long p_)
set_option maxRecDepth 65536 in
set_option maxHeartbeats 40000000 in
theorem rm5 (l : Launch) (Z : State) (a0 : Array Value) (hw : ∀ d ∈ tables_1, d.before a0 Z = true) (ws : List Jvm.Cond) (a : Addr) (p_ : Int64) (h0 : Heap) (n0 : Nat) (Z0 : n0 ≤ h0.size) (E_a : Exa Z h0 a "java/lang/Long") (F_value_a : Fld Z h0 a "java/lang/Long" "value" "J" (.long (0 : Int64))) (g_a : n0 ≤ a) :
    MetFree l (⟨"java/lang/Long", "<init>", "(J)V"⟩ : MethodName) (head1 (Jvm.Cond.code (⟨"java/lang/Long", "<init>", "(J)V"⟩ : MethodName) jdk_35_method_26_code 3 none :: ws) ({ frames := 2, cells := 0, slots := 0, locals := 24 } : Room)) (fun q_ U => q_ = #[(.ref a), (.long p_)] ∧ Z.Warmed39 U.vm ∧ U.heap = h0) (fun _ _ _ _ _ => True) (fun _ U o U' => ∃ v L, o = .returned v ∧ Q5 Z a p_ h0 n0 v U'.heap L ∧ FrameEnd U o U' L ({ frames := 2, cells := 0, slots := 0, locals := 24 } : Room).cells ({ frames := 2, cells := 0, slots := 0, locals := 24 } : Room).slots) := by
  refine MetFree.of_bodySF (plainFor_of_name pn_2) hisR ?_
  intro p e s m args below meth c s₁ Bd hml0 hP hK
  obtain ⟨rfl, hZ, hh⟩ := hP
  have hx := Bd.exec
  have hby := Bd.bytes
  have hml : c.maxLocals = 3 := hml0
  have hown : s.vm.findClass "java/lang/Long" = some m.cls := findClass_of_methodNamed Bd.named
  have hnm := (name_of_methodNamed Bd.named Bd.method).1
  have X0 : Stand p l e ({ frames := 2, cells := 0, slots := 0, locals := 24 } : Room) s m #[(.ref a), (.long p_)] below meth c s₁ [] 0 0 := Stand.of_body Bd
  have e0 : s₁.heap = h0 := by rw [← hh, Bd.state]; rfl
  have N0 := Fr.nil n0
  show own_Go p e below s (Q5 Z a p_ h0 n0) ({ frames := 2, cells := 0, slots := 0, locals := 24 } : Room).cells ({ frames := 2, cells := 0, slots := 0, locals := 24 } : Room).slots (s₁.setTop (entryFrame m #[(.ref a), (.long p_)] 3))
  refine own_via (fun t k => castTop (ef_5 m a p_) k) ?_
  have K0 : Keep h0 h0 [a] := Keep.refl _ _
  show own_Go p e below s _ _ _ (s₁.setTop (mkF m 0 #[.val (.ref a), .val (.long p_), .second] []))
  refine own_via (fun _ k => XS.aloadN X0.here hx rfl (hb hby d5_0) rfl rfl k) ?_
  show own_Go p e below s _ _ _ (s₁.setTop (mkF m 1 #[.val (.ref a), .val (.long p_), .second] [(.ref a)]))
  obtain ⟨_, _, ⟨T1, L1, k1, n1⟩, -, X1, ⟨Lc1, hQ1, l1, y1, z1⟩, st1⟩ := X0.specialBack hx (y := (⟨"java/lang/Number", "<init>", "()V"⟩ : MethodName)) rfl hown (mvT hZ (hw _ (List.mem_of_getElem? (i := 37) rfl))) (mvT hZ (hw _ (List.mem_of_getElem? (i := 38) rfl))) (mvT hZ (hw _ (List.mem_of_getElem? (i := 42) rfl))) (by decide) (backOf (W := 0) (rm6 l Z a0 hw [] a h0 n0 Z0 ) hZ (hw _ (List.mem_of_getElem? (i := 42) rfl)) (hw _ (List.mem_of_getElem? (i := 41) rfl)) (by decide) (by decide)) (g := (mkF m 1 #[.val (.ref a), .val (.long p_), .second] [(.ref a)])) rfl (by rw [hml]; rfl) (Steps.refl _) (a := a) (argsL := []) (rest := []) (lenOf pd_0 rfl) rfl (by show 2 * 0 + _ ≤ _; exact Nat.le_of_eq rfl) (hb hby d5_1) (fun _ _ => ⟨rfl, e0, (by decide : 0 + 0 ≤ _), (by decide : 0 + 0 ≤ _)⟩)
  dsimp only [Pt.U, Pt.locs, Pt.cells, Pt.slots] at X1 l1 y1 z1 st1 hQ1
  subst l1 y1 z1
  obtain ⟨rfl, N1q, e1⟩ := hQ1
  have N1 := Fr.app N0 N1q
  refine own_viaT st1 ?_
  show own_Go p e below s _ _ _ (T1.setTop (mkF m 4 #[.val (.ref a), .val (.long p_), .second] []))
  refine own_via (fun _ k => XS.aloadN X1.here hx rfl (hb hby d5_4) rfl rfl k) ?_
  show own_Go p e below s _ _ _ (T1.setTop (mkF m 5 #[.val (.ref a), .val (.long p_), .second] [(.ref a)]))
  refine own_via (fun _ k => XS.lloadN X1.here hx rfl (hb hby d5_5) rfl k) ?_
  show own_Go p e below s _ _ _ (T1.setTop (mkF m 6 #[.val (.ref a), .val (.long p_), .second] [(.long p_), (.ref a)]))
  obtain ⟨T2, h2, X2, e2, W2, st2⟩ := putF X1 hx hZ hown (host := "") (Or.inl (hw _ (List.mem_of_getElem? (i := 44) rfl))) Via.refl e1 F_value_a E_a (Or.inr ⟨(hw _ (List.mem_of_getElem? (i := 45) rfl)), rfl, hnm⟩) (hw _ (List.mem_of_getElem? (i := 32) rfl)) (ty := .long) (by decide) rfl rfl (g := (mkF m 6 #[.val (.ref a), .val (.long p_), .second] [(.long p_), (.ref a)])) rfl rfl (hb hby d5_6)
  have N2 := Fr.snoc X2 N1 g_a
  have Fw2 := F_value_a.same W2
  have Z2 : n0 ≤ h2.size := Nat.le_trans Z0 (Keep.of_wr W2).1
  have K2 : Keep h0 h2 [a] := K0.wr W2 (Or.inl (List.mem_of_getElem? (i := 0) rfl))
  refine own_via st2 ?_
  show own_Go p e below s _ _ _ (T2.setTop (mkF m 9 #[.val (.ref a), .val (.long p_), .second] []))
  have F3 := (E_a.wr W2)
  exact own_goV X2 hx Bd.returns (hb hby d5_9) Bd.notSynchronized (by decide) (by decide) (by rw [e2]; exact ⟨rfl, N2, K2, F3, Fw2⟩)

theorem own_in {p : Int64} (h1 : ¬ p < (-128 : Int64)) (h2 : ¬ (127 : Int64) < p) : ¬ ((o_l2i p) + (128 : Int32)) < 0 ∧ ((o_l2i p) + (128 : Int32)) < (256 : Int32) := by
  have a1 := c_iadd (o_l2i p) 128; have r1 := rng32 (o_l2i p + 128); have r2 := rng32 (o_l2i p); have r3 := c_l2i p
  change ((o_l2i p).toInt - p.toInt) % 4294967296 = 0 at r3
  simp only [Int32.lt_iff_toInt_lt, Int64.lt_iff_toInt_lt, Int32.reduceToInt, Int64.reduceToInt] at *
  omega
theorem own_noIns {Z : State} {a0 : Array Value} {n : Nat} (w1 : (Jvm.Cond.superclass "java/lang/Long" "java/lang/Number").before a0 Z = true) (w2 : (Jvm.Cond.superclass "java/lang/Number" "java/lang/Object").before a0 Z = true) (w3 : (Jvm.Cond.noSuperclass "java/lang/Object").before a0 Z = true) (wi : (Jvm.Cond.instantiable "com/example/unalike/unalike/engine/PairTally$Change" n).before a0 Z = true) :
    ∃ c t, Z.vm.findClass "java/lang/Long" = some c ∧ Z.vm.findClass "com/example/unalike/unalike/engine/PairTally$Change" = some t ∧ Z.vm.assignable c t = false := by
  obtain ⟨t, kt, g1, g2, g3, g4, -⟩ := Cond.instantiable_spec wi
  have r : NS Z "java/lang/Object" "com/example/unalike/unalike/engine/PairTally$Change" := by
    obtain ⟨c, k, h1, h2, h3, -, -⟩ := Cond.noSuperclass_spec w3
    have ne := ids_ne h1 g1 (by decide)
    exact ⟨c, t, h1, g1, fun fuel => by cases fuel <;> simp [Vm.isSubclassAux, ne, h2, h3]⟩
  obtain ⟨c, t', h0, g0, n3⟩ := NS.step w1 (NS.step w2 r (by decide)) (by decide)
  cases g1.symm.trans g0
  obtain ⟨p, k, kp, h1, h2, h3, h4, h5, -, h7⟩ := Cond.superclass_spec h0 w1
  have ne := ids_ne h0 g0 (by decide)
  have gi : kt.isInterface = false := by cases hq : kt.isInterface <;> simp [hq] at g4 ⊢
  refine ⟨c, t, h0, g0, ?_⟩
  show Z.vm.assignableAux (255 + 1) c t = false
  simp [Vm.assignableAux, ne, h2, g2, h5, g3, gi, Vm.isSubclass, n3]

theorem d3_0 : decode jdk_35_method_24_code 0 = .ok (.sipush 128, 3) := by decide +kernel
theorem d3_3 : decode jdk_35_method_24_code 3 = .ok (.istore_n 2, 1) := by decide +kernel
theorem d3_4 : decode jdk_35_method_24_code 4 = .ok (.lload_n 0, 1) := by decide +kernel
theorem d3_5 : decode jdk_35_method_24_code 5 = .ok (.ldc2_w 230, 3) := by decide +kernel
theorem d3_8 : decode jdk_35_method_24_code 8 = .ok (.lcmp, 1) := by decide +kernel
theorem d3_9 : decode jdk_35_method_24_code 9 = .ok (.ifCond .lt 22, 3) := by decide +kernel
theorem d3_31 : decode jdk_35_method_24_code 31 = .ok (.new 1, 3) := by decide +kernel
theorem d3_34 : decode jdk_35_method_24_code 34 = .ok (.dup, 1) := by decide +kernel
theorem d3_35 : decode jdk_35_method_24_code 35 = .ok (.lload_n 0, 1) := by decide +kernel
theorem pd_1 : parseMethodDescriptor "(J)V" = some ⟨[.long], none⟩ := by decide +kernel
theorem d3_36 : decode jdk_35_method_24_code 36 = .ok (.invokespecial 240, 3) := by decide +kernel
theorem d3_39 : decode jdk_35_method_24_code 39 = .ok (.areturn, 1) := by decide +kernel
theorem d3_12 : decode jdk_35_method_24_code 12 = .ok (.lload_n 0, 1) := by decide +kernel
theorem d3_13 : decode jdk_35_method_24_code 13 = .ok (.ldc2_w 232, 3) := by decide +kernel
theorem d3_16 : decode jdk_35_method_24_code 16 = .ok (.lcmp, 1) := by decide +kernel
theorem d3_17 : decode jdk_35_method_24_code 17 = .ok (.ifCond .gt 14, 3) := by decide +kernel
theorem d3_20 : decode jdk_35_method_24_code 20 = .ok (.getstatic 234, 3) := by decide +kernel
theorem d3_23 : decode jdk_35_method_24_code 23 = .ok (.lload_n 0, 1) := by decide +kernel
theorem d3_24 : decode jdk_35_method_24_code 24 = .ok (.l2i, 1) := by decide +kernel
theorem d3_25 : decode jdk_35_method_24_code 25 = .ok (.sipush 128, 3) := by decide +kernel
theorem d3_28 : decode jdk_35_method_24_code 28 = .ok (.iadd, 1) := by decide +kernel
theorem d3_29 : decode jdk_35_method_24_code 29 = .ok (.aaload, 1) := by decide +kernel
theorem d3_30 : decode jdk_35_method_24_code 30 = .ok (.areturn, 1) := by decide +kernel
theorem ef_3 (m : MethodId) (x0 : Int64) : entryFrame m #[(.long x0)] 3 = mkF m 0 #[.val (.long x0), .second, .unset] [] := by first | (simp [entryFrame, mkF, argsToLocals, Value.category]; done) | rfl
def Q3 (Z : State) (p_ : Int64) (ca : Addr) (cl_ : Cell) (h0 : Heap) (n0 : Nat) (v : Option Value) (h : Heap) (L : List Loc) : Prop := ∃ r_ : Addr, v = some (.ref r_) ∧ Fr n0 L ∧ Keep h0 h [] ∧ Exa Z h r_ "java/lang/Long"
set_option maxRecDepth 65536 in
set_option maxHeartbeats 40000000 in
theorem rm3 (l : Launch) (Z : State) (a0 : Array Value) (hw : ∀ d ∈ tables_1, d.before a0 Z = true) (ws : List Jvm.Cond) (p_ : Int64) (ca : Addr) (cl_ : Cell) (h0 : Heap) (n0 : Nat) (Z0 : n0 ≤ h0.size) (O0 : Old Z n0 h0) (S_cache : Sta Z Z.heap "java/lang/Long$LongCache" "cache" "[Ljava/lang/Long;" (.ref ca)) (hp1 : Bxs Z ca cl_ "java/lang/Long" "J" 256 (fun j => .long (j - 128).toInt64)) :
    MetFree l (⟨"java/lang/Long", "valueOf", "(J)Ljava/lang/Long;"⟩ : MethodName) (head1 (Jvm.Cond.code (⟨"java/lang/Long", "valueOf", "(J)Ljava/lang/Long;"⟩ : MethodName) jdk_35_method_24_code 3 (some (.object "java/lang/Long")) :: ws) ({ frames := 3, cells := 1, slots := 1, locals := 39 } : Room)) (fun q_ U => q_ = #[(.long p_)] ∧ Z.Warmed39 U.vm ∧ U.heap = h0) (fun _ _ _ _ _ => True) (fun _ U o U' => ∃ v L, o = .returned v ∧ Q3 Z p_ ca cl_ h0 n0 v U'.heap L ∧ FrameEnd U o U' L ({ frames := 3, cells := 1, slots := 1, locals := 39 } : Room).cells ({ frames := 3, cells := 1, slots := 1, locals := 39 } : Room).slots) := by
  refine MetFree.of_bodySF (plainFor_of_name pn_2) hisR ?_
  intro p e s m args below meth c s₁ Bd hml0 hP hK
  obtain ⟨rfl, hZ, hh⟩ := hP
  have hx := Bd.exec
  have hby := Bd.bytes
  have hml : c.maxLocals = 3 := hml0
  have hown : s.vm.findClass "java/lang/Long" = some m.cls := findClass_of_methodNamed Bd.named
  have hnm := (name_of_methodNamed Bd.named Bd.method).1
  have X0 : Stand p l e ({ frames := 3, cells := 1, slots := 1, locals := 39 } : Room) s m #[(.long p_)] below meth c s₁ [] 0 0 := Stand.of_body Bd
  have e0 : s₁.heap = h0 := by rw [← hh, Bd.state]; rfl
  have N0 := Fr.nil n0
  show own_Go p e below s (Q3 Z p_ ca cl_ h0 n0) ({ frames := 3, cells := 1, slots := 1, locals := 39 } : Room).cells ({ frames := 3, cells := 1, slots := 1, locals := 39 } : Room).slots (s₁.setTop (entryFrame m #[(.long p_)] 3))
  refine own_via (fun t k => castTop (ef_3 m p_) k) ?_
  have K0 : Keep h0 h0 [] := Keep.refl _ _
  show own_Go p e below s _ _ _ (s₁.setTop (mkF m 0 #[.val (.long p_), .second, .unset] []))
  refine own_via (fun _ k => XS.sipush X0.here hx rfl (hb hby d3_0) k) ?_
  show own_Go p e below s _ _ _ (s₁.setTop (mkF m 3 #[.val (.long p_), .second, .unset] [(.int (128 : Int32))]))
  refine own_via (fun _ k => XS.istoreN X0.here hx rfl (hb hby d3_3) rfl (l' := #[.val (.long p_), .second, .val (.int (128 : Int32))]) rfl k) ?_
  show own_Go p e below s _ _ _ (s₁.setTop (mkF m 4 #[.val (.long p_), .second, .val (.int (128 : Int32))] []))
  refine own_via (fun _ k => XS.lloadN X0.here hx rfl (hb hby d3_4) rfl k) ?_
  show own_Go p e below s _ _ _ (s₁.setTop (mkF m 5 #[.val (.long p_), .second, .val (.int (128 : Int32))] [(.long p_)]))
  refine own_via (fun _ k => X0.ldc2Long hx hown (mvT hZ (hw _ (List.mem_of_getElem? (i := 17) rfl))) (g := (mkF m 5 #[.val (.long p_), .second, .val (.int (128 : Int32))] [(.long p_)])) rfl (hb hby d3_5) _ k) ?_
  show own_Go p e below s _ _ _ (s₁.setTop (mkF m 8 #[.val (.long p_), .second, .val (.int (128 : Int32))] [(.long (-128 : Int64)), (.long p_)]))
  refine own_via (fun _ k => XS.lcmp X0.here hx rfl (hb hby d3_8) rfl k) ?_
  show own_Go p e below s _ _ _ (s₁.setTop (mkF m 9 #[.val (.long p_), .second, .val (.int (128 : Int32))] [(.int (lcmpW p_ (-128 : Int64)))]))
  by_cases hc1 : p_ < (-128 : Int64)
  · refine own_via (fun _ k => XS.ifYes X0.here hx rfl (pc0 := 9) (pc' := 31) rfl (hb hby d3_9) rfl (Jvm.Free.XT.ll_lt_t hc1) (by decide) (by decide) k) ?_
    show own_Go p e below s _ _ _ (s₁.setTop (mkF m 31 #[.val (.long p_), .second, .val (.int (128 : Int32))] []))
    obtain ⟨T2, h2, X2, e2, E2, A2, D2, -, st2⟩ := newO X0 hx hZ hown (hw _ (List.mem_of_getElem? (i := 31) rfl)) (hw _ (List.mem_of_getElem? (i := 32) rfl)) (hw _ (List.mem_of_getElem? (i := 15) rfl)) e0 (g := (mkF m 31 #[.val (.long p_), .second, .val (.int (128 : Int32))] [])) rfl (hb hby d3_31) (by decide) (by decide)
    obtain ⟨b2, gg2⟩ : ∃ z, z = h0.size := ⟨_, rfl⟩
    rw [← gg2] at A2 D2 st2
    have g_b2 : n0 ≤ b2 := Nat.le_trans Z0 (Nat.le_of_eq gg2.symm)
    have sz_b2 : h0.size ≤ b2 := Nat.le_trans K0.1 (Nat.le_of_eq gg2.symm)
    have Z2 : n0 ≤ h2.size := Nat.le_trans Z0 E2.1
    have K2 : Keep h0 h2 [] := K0.ext E2
    have O2 : Old Z n0 h2 := O0.ext E2
    have F3 : Fld Z h2 b2 "java/lang/Long" "value" "J" (.long (0 : Int64)) := D2 (Or.inr (hw _ (List.mem_of_getElem? (i := 45) rfl))) (ty := .long) (by decide)
    refine own_via st2 ?_
    show own_Go p e below s _ _ _ (T2.setTop (mkF m 34 #[.val (.long p_), .second, .val (.int (128 : Int32))] [(.ref b2)]))
    refine own_via (fun _ k => XS.dup X2.here hx rfl (hb hby d3_34) rfl rfl k) ?_
    show own_Go p e below s _ _ _ (T2.setTop (mkF m 35 #[.val (.long p_), .second, .val (.int (128 : Int32))] [(.ref b2), (.ref b2)]))
    refine own_via (fun _ k => XS.lloadN X2.here hx rfl (hb hby d3_35) rfl k) ?_
    show own_Go p e below s _ _ _ (T2.setTop (mkF m 36 #[.val (.long p_), .second, .val (.int (128 : Int32))] [(.long p_), (.ref b2), (.ref b2)]))
    obtain ⟨_, _, ⟨T4, L4, k4, n4⟩, -, X4, ⟨Lc4, hQ4, l4, y4, z4⟩, st4⟩ := X2.specialBack hx (y := (⟨"java/lang/Long", "<init>", "(J)V"⟩ : MethodName)) rfl hown (mvT hZ (hw _ (List.mem_of_getElem? (i := 33) rfl))) (mvT hZ (hw _ (List.mem_of_getElem? (i := 34) rfl))) (mvT hZ (hw _ (List.mem_of_getElem? (i := 36) rfl))) (by decide) (backOf (W := 1) (rm5 l Z a0 hw [] b2 p_ h2 n0 Z2 A2 F3 g_b2) hZ (hw _ (List.mem_of_getElem? (i := 36) rfl)) (hw _ (List.mem_of_getElem? (i := 15) rfl)) (by decide) (by decide)) (g := (mkF m 36 #[.val (.long p_), .second, .val (.int (128 : Int32))] [(.long p_), (.ref b2), (.ref b2)])) rfl (by rw [hml]; rfl) (Steps.refl _) (a := b2) (argsL := [(.long p_)]) (rest := [(.ref b2)]) (lenOf pd_1 rfl) rfl (by show 2 * 0 + _ ≤ _; exact Nat.le_of_eq rfl) (hb hby d3_36) (fun _ _ => ⟨rfl, e2, (by decide : 1 + 0 ≤ _), (by decide : 1 + 0 ≤ _)⟩)
    dsimp only [Pt.U, Pt.locs, Pt.cells, Pt.slots] at X4 l4 y4 z4 st4 hQ4
    subst l4 y4 z4
    obtain ⟨h4, e4⟩ : ∃ h, T4.heap = h := ⟨_, rfl⟩
    rw [e4] at hQ4
    obtain ⟨rfl, N4q, Kq4, F5, F6⟩ := hQ4
    have Z4 : n0 ≤ h4.size := Nat.le_trans Z2 Kq4.1
    have K4 : Keep h0 h4 [] := K2.trans Kq4 (allS (Or.inr sz_b2) all0)
    have O4 : Old Z n0 h4 := O2.keep Kq4 (allS g_b2 all0)
    have N4 := Fr.app N0 N4q
    refine own_viaT st4 ?_
    show own_Go p e below s _ _ _ (T4.setTop (mkF m 39 #[.val (.long p_), .second, .val (.int (128 : Int32))] [(.ref b2)]))
    exact own_goA X4 hx rfl Bd.returns rfl (hb hby d3_39) Bd.notSynchronized (by decide) (by decide) (by rw [e4]; exact ⟨b2, rfl, N4, K4, F5⟩)
  · refine own_via (fun _ k => XS.ifNo X0.here hx rfl (hb hby d3_9) rfl (Jvm.Free.XT.ll_lt_f hc1) k) ?_
    show own_Go p e below s _ _ _ (s₁.setTop (mkF m 12 #[.val (.long p_), .second, .val (.int (128 : Int32))] []))
    refine own_via (fun _ k => XS.lloadN X0.here hx rfl (hb hby d3_12) rfl k) ?_
    show own_Go p e below s _ _ _ (s₁.setTop (mkF m 13 #[.val (.long p_), .second, .val (.int (128 : Int32))] [(.long p_)]))
    refine own_via (fun _ k => X0.ldc2Long hx hown (mvT hZ (hw _ (List.mem_of_getElem? (i := 18) rfl))) (g := (mkF m 13 #[.val (.long p_), .second, .val (.int (128 : Int32))] [(.long p_)])) rfl (hb hby d3_13) _ k) ?_
    show own_Go p e below s _ _ _ (s₁.setTop (mkF m 16 #[.val (.long p_), .second, .val (.int (128 : Int32))] [(.long (127 : Int64)), (.long p_)]))
    refine own_via (fun _ k => XS.lcmp X0.here hx rfl (hb hby d3_16) rfl k) ?_
    show own_Go p e below s _ _ _ (s₁.setTop (mkF m 17 #[.val (.long p_), .second, .val (.int (128 : Int32))] [(.int (lcmpW p_ (127 : Int64)))]))
    by_cases hc7 : (127 : Int64) < p_
    · refine own_via (fun _ k => XS.ifYes X0.here hx rfl (pc0 := 17) (pc' := 31) rfl (hb hby d3_17) rfl (Jvm.Free.XT.ll_gt_t hc7) (by decide) (by decide) k) ?_
      show own_Go p e below s _ _ _ (s₁.setTop (mkF m 31 #[.val (.long p_), .second, .val (.int (128 : Int32))] []))
      obtain ⟨T8, h8, X8, e8, E8, A8, D8, -, st8⟩ := newO X0 hx hZ hown (hw _ (List.mem_of_getElem? (i := 31) rfl)) (hw _ (List.mem_of_getElem? (i := 32) rfl)) (hw _ (List.mem_of_getElem? (i := 15) rfl)) e0 (g := (mkF m 31 #[.val (.long p_), .second, .val (.int (128 : Int32))] [])) rfl (hb hby d3_31) (by decide) (by decide)
      obtain ⟨b8, gg8⟩ : ∃ z, z = h0.size := ⟨_, rfl⟩
      rw [← gg8] at A8 D8 st8
      have g_b8 : n0 ≤ b8 := Nat.le_trans Z0 (Nat.le_of_eq gg8.symm)
      have sz_b8 : h0.size ≤ b8 := Nat.le_trans K0.1 (Nat.le_of_eq gg8.symm)
      have Z8 : n0 ≤ h8.size := Nat.le_trans Z0 E8.1
      have K8 : Keep h0 h8 [] := K0.ext E8
      have O8 : Old Z n0 h8 := O0.ext E8
      have F9 : Fld Z h8 b8 "java/lang/Long" "value" "J" (.long (0 : Int64)) := D8 (Or.inr (hw _ (List.mem_of_getElem? (i := 45) rfl))) (ty := .long) (by decide)
      refine own_via st8 ?_
      show own_Go p e below s _ _ _ (T8.setTop (mkF m 34 #[.val (.long p_), .second, .val (.int (128 : Int32))] [(.ref b8)]))
      refine own_via (fun _ k => XS.dup X8.here hx rfl (hb hby d3_34) rfl rfl k) ?_
      show own_Go p e below s _ _ _ (T8.setTop (mkF m 35 #[.val (.long p_), .second, .val (.int (128 : Int32))] [(.ref b8), (.ref b8)]))
      refine own_via (fun _ k => XS.lloadN X8.here hx rfl (hb hby d3_35) rfl k) ?_
      show own_Go p e below s _ _ _ (T8.setTop (mkF m 36 #[.val (.long p_), .second, .val (.int (128 : Int32))] [(.long p_), (.ref b8), (.ref b8)]))
      obtain ⟨_, _, ⟨T10, L10, k10, n10⟩, -, X10, ⟨Lc10, hQ10, l10, y10, z10⟩, st10⟩ := X8.specialBack hx (y := (⟨"java/lang/Long", "<init>", "(J)V"⟩ : MethodName)) rfl hown (mvT hZ (hw _ (List.mem_of_getElem? (i := 33) rfl))) (mvT hZ (hw _ (List.mem_of_getElem? (i := 34) rfl))) (mvT hZ (hw _ (List.mem_of_getElem? (i := 36) rfl))) (by decide) (backOf (W := 1) (rm5 l Z a0 hw [] b8 p_ h8 n0 Z8 A8 F9 g_b8) hZ (hw _ (List.mem_of_getElem? (i := 36) rfl)) (hw _ (List.mem_of_getElem? (i := 15) rfl)) (by decide) (by decide)) (g := (mkF m 36 #[.val (.long p_), .second, .val (.int (128 : Int32))] [(.long p_), (.ref b8), (.ref b8)])) rfl (by rw [hml]; rfl) (Steps.refl _) (a := b8) (argsL := [(.long p_)]) (rest := [(.ref b8)]) (lenOf pd_1 rfl) rfl (by show 2 * 0 + _ ≤ _; exact Nat.le_of_eq rfl) (hb hby d3_36) (fun _ _ => ⟨rfl, e8, (by decide : 1 + 0 ≤ _), (by decide : 1 + 0 ≤ _)⟩)
      dsimp only [Pt.U, Pt.locs, Pt.cells, Pt.slots] at X10 l10 y10 z10 st10 hQ10
      subst l10 y10 z10
      obtain ⟨h10, e10⟩ : ∃ h, T10.heap = h := ⟨_, rfl⟩
      rw [e10] at hQ10
      obtain ⟨rfl, N10q, Kq10, F11, F12⟩ := hQ10
      have Z10 : n0 ≤ h10.size := Nat.le_trans Z8 Kq10.1
      have K10 : Keep h0 h10 [] := K8.trans Kq10 (allS (Or.inr sz_b8) all0)
      have O10 : Old Z n0 h10 := O8.keep Kq10 (allS g_b8 all0)
      have N10 := Fr.app N0 N10q
      refine own_viaT st10 ?_
      show own_Go p e below s _ _ _ (T10.setTop (mkF m 39 #[.val (.long p_), .second, .val (.int (128 : Int32))] [(.ref b8)]))
      exact own_goA X10 hx rfl Bd.returns rfl (hb hby d3_39) Bd.notSynchronized (by decide) (by decide) (by rw [e10]; exact ⟨b8, rfl, N10, K10, F11⟩)
    · refine own_via (fun _ k => XS.ifNo X0.here hx rfl (hb hby d3_17) rfl (Jvm.Free.XT.ll_gt_f hc7) k) ?_
      show own_Go p e below s _ _ _ (s₁.setTop (mkF m 20 #[.val (.long p_), .second, .val (.int (128 : Int32))] []))
      have F13 := S_cache.ext O0.2
      obtain ⟨T14, X14, e14, st14⟩ := getS2 X0 hx hZ hown (host := "") (Or.inl (hw _ (List.mem_of_getElem? (i := 19) rfl))) Via.refl e0 F13 (g := (mkF m 20 #[.val (.long p_), .second, .val (.int (128 : Int32))] [])) rfl (hb hby d3_20)
      refine own_via st14 ?_
      show own_Go p e below s _ _ _ (T14.setTop (mkF m 23 #[.val (.long p_), .second, .val (.int (128 : Int32))] [(.ref ca)]))
      refine own_via (fun _ k => XS.lloadN X14.here hx rfl (hb hby d3_23) rfl k) ?_
      show own_Go p e below s _ _ _ (T14.setTop (mkF m 24 #[.val (.long p_), .second, .val (.int (128 : Int32))] [(.long p_), (.ref ca)]))
      refine own_via (fun _ k => XS.l2i X14.here hx rfl (hb hby d3_24) rfl k) ?_
      show own_Go p e below s _ _ _ (T14.setTop (mkF m 25 #[.val (.long p_), .second, .val (.int (128 : Int32))] [(.int (o_l2i p_)), (.ref ca)]))
      refine own_via (fun _ k => XS.sipush X14.here hx rfl (hb hby d3_25) k) ?_
      show own_Go p e below s _ _ _ (T14.setTop (mkF m 28 #[.val (.long p_), .second, .val (.int (128 : Int32))] [(.int (128 : Int32)), (.int (o_l2i p_)), (.ref ca)]))
      refine own_via (fun _ k => XS.iadd X14.here hx rfl (hb hby d3_28) rfl k) ?_
      show own_Go p e below s _ _ _ (T14.setTop (mkF m 29 #[.val (.long p_), .second, .val (.int (128 : Int32))] [(.int ((o_l2i p_) + (128 : Int32))), (.ref ca)]))
      have hin15 : ¬ (((o_l2i p_) + (128 : Int32)) < 0 ∨ cl_.slots.size ≤ (((o_l2i p_) + (128 : Int32))).toNatClampNeg) := inb_of hp1.2.1 (own_in hc1 hc7)
      obtain ⟨r15, hat15, Er15, Fr15⟩ := hp1.2.2.2 _ hin15
      refine own_via (fun _ k => X14.aaload hx (j := ((o_l2i p_) + (128 : Int32))) (v := .ref r15) (by rw [e14]; exact (hp1.1.ext O0.2).1) (State.isArrayOf_alike hZ.alike hp1.1.2.1) rfl hp1.1.2.2 hin15 hat15 (g := (mkF m 29 #[.val (.long p_), .second, .val (.int (128 : Int32))] [(.int ((o_l2i p_) + (128 : Int32))), (.ref ca)])) rfl rfl (hb hby d3_29) _ k) ?_
      show own_Go p e below s _ _ _ (T14.setTop (mkF m 30 #[.val (.long p_), .second, .val (.int (128 : Int32))] [(.ref r15)]))
      have F16 := Er15.ext O0.2
      exact own_goA X14 hx rfl Bd.returns rfl (hb hby d3_30) Bd.notSynchronized (by decide) (by decide) (by rw [e14]; exact ⟨r15, rfl, N0, K0, F16⟩)
theorem d4_0 : decode prog_15_method_4_code 0 = .ok (.aload_n 1, 1) := by decide +kernel
theorem d4_1 : decode prog_15_method_4_code 1 = .ok (.instanceof 8, 3) := by decide +kernel
theorem d4_4 : decode prog_15_method_4_code 4 = .ok (.ifCond .eq 36, 3) := by decide +kernel
theorem d4_7 : decode prog_15_method_4_code 7 = .ok (.aload_n 1, 1) := by decide +kernel
theorem d4_8 : decode prog_15_method_4_code 8 = .ok (.checkcast 8, 3) := by decide +kernel
theorem d4_11 : decode prog_15_method_4_code 11 = .ok (.astore_n 2, 1) := by decide +kernel
theorem d4_12 : decode prog_15_method_4_code 12 = .ok (.aload_n 2, 1) := by decide +kernel
theorem d4_13 : decode prog_15_method_4_code 13 = .ok (.getfield 7, 3) := by decide +kernel
theorem d4_16 : decode prog_15_method_4_code 16 = .ok (.aload_n 0, 1) := by decide +kernel
theorem d4_17 : decode prog_15_method_4_code 17 = .ok (.getfield 7, 3) := by decide +kernel
theorem d4_20 : decode prog_15_method_4_code 20 = .ok (.lcmp, 1) := by decide +kernel
theorem d4_21 : decode prog_15_method_4_code 21 = .ok (.ifCond .ne 19, 3) := by decide +kernel
theorem d4_24 : decode prog_15_method_4_code 24 = .ok (.aload_n 2, 1) := by decide +kernel
theorem d4_25 : decode prog_15_method_4_code 25 = .ok (.getfield 13, 3) := by decide +kernel
theorem d4_28 : decode prog_15_method_4_code 28 = .ok (.aload_n 0, 1) := by decide +kernel
theorem d4_29 : decode prog_15_method_4_code 29 = .ok (.getfield 13, 3) := by decide +kernel
theorem d4_32 : decode prog_15_method_4_code 32 = .ok (.lcmp, 1) := by decide +kernel
theorem d4_33 : decode prog_15_method_4_code 33 = .ok (.ifCond .ne 7, 3) := by decide +kernel
theorem d4_36 : decode prog_15_method_4_code 36 = .ok (.iconst 1, 1) := by decide +kernel
theorem d4_37 : decode prog_15_method_4_code 37 = .ok (.goto 4, 3) := by decide +kernel
theorem d4_41 : decode prog_15_method_4_code 41 = .ok (.ireturn, 1) := by decide +kernel
theorem d4_40 : decode prog_15_method_4_code 40 = .ok (.iconst 0, 1) := by decide +kernel
def own_f (ac : Int64) (at_ : Int64) (bc : Int64) (bt : Int64) : Int32 := (if bc = ac then (if bt = at_ then (1 : Int32) else (0 : Int32)) else (0 : Int32))
theorem ef_eC (m : MethodId) (x0 : Addr) (x1 : Addr) : entryFrame m #[(.ref x0), (.ref x1)] 3 = mkF m 0 #[.val (.ref x0), .val (.ref x1), .unset] [] := by first | (simp [entryFrame, mkF, argsToLocals, Value.category]; done) | rfl
def QeC (Z : State) (a : Addr) (b : Addr) (ac : Int64) (at_ : Int64) (bc : Int64) (bt : Int64) (h0 : Heap) (n0 : Nat) (v : Option Value) (h : Heap) (L : List Loc) : Prop := v = some (.int (own_f ac at_ bc bt)) ∧ Fr n0 L ∧ h = h0
set_option maxRecDepth 65536 in
set_option maxHeartbeats 40000000 in
theorem rmeC (l : Launch) (Z : State) (a0 : Array Value) (hw : ∀ d ∈ tables_1, d.before a0 Z = true) (ws : List Jvm.Cond) (a : Addr) (b : Addr) (ac : Int64) (at_ : Int64) (bc : Int64) (bt : Int64) (h0 : Heap) (n0 : Nat) (Z0 : n0 ≤ h0.size) (E_b : Exa Z h0 b "com/example/unalike/unalike/engine/PairTally$Change") (F_covered_a : Fld Z h0 a "com/example/unalike/unalike/engine/PairTally$Change" "covered" "J" (.long ac)) (F_twice_a : Fld Z h0 a "com/example/unalike/unalike/engine/PairTally$Change" "twice" "J" (.long at_)) (F_covered_b : Fld Z h0 b "com/example/unalike/unalike/engine/PairTally$Change" "covered" "J" (.long bc)) (F_twice_b : Fld Z h0 b "com/example/unalike/unalike/engine/PairTally$Change" "twice" "J" (.long bt)) :
    MetFree l (⟨"com/example/unalike/unalike/engine/PairTally$Change", "equals", "(Ljava/lang/Object;)Z"⟩ : MethodName) (head1 (Jvm.Cond.code (⟨"com/example/unalike/unalike/engine/PairTally$Change", "equals", "(Ljava/lang/Object;)Z"⟩ : MethodName) prog_15_method_4_code 3 (some .boolean) :: ws) ({ frames := 0, cells := 0, slots := 0, locals := 0 } : Room)) (fun q_ U => q_ = #[(.ref a), (.ref b)] ∧ Z.Warmed39 U.vm ∧ U.heap = h0) (fun _ _ _ _ _ => True) (fun _ U o U' => ∃ v L, o = .returned v ∧ QeC Z a b ac at_ bc bt h0 n0 v U'.heap L ∧ FrameEnd U o U' L ({ frames := 0, cells := 0, slots := 0, locals := 0 } : Room).cells ({ frames := 0, cells := 0, slots := 0, locals := 0 } : Room).slots) := by
  refine MetFree.of_bodySF (plainFor_of_name pn_0) hisR ?_
  intro p e s m args below meth c s₁ Bd hml0 hP hK
  obtain ⟨rfl, hZ, hh⟩ := hP
  have hx := Bd.exec
  have hby := Bd.bytes
  have hml : c.maxLocals = 3 := hml0
  have hown : s.vm.findClass "com/example/unalike/unalike/engine/PairTally$Change" = some m.cls := findClass_of_methodNamed Bd.named
  have hnm := (name_of_methodNamed Bd.named Bd.method).1
  have X0 : Stand p l e ({ frames := 0, cells := 0, slots := 0, locals := 0 } : Room) s m #[(.ref a), (.ref b)] below meth c s₁ [] 0 0 := Stand.of_body Bd
  have e0 : s₁.heap = h0 := by rw [← hh, Bd.state]; rfl
  have N0 := Fr.nil n0
  show own_Go p e below s (QeC Z a b ac at_ bc bt h0 n0) ({ frames := 0, cells := 0, slots := 0, locals := 0 } : Room).cells ({ frames := 0, cells := 0, slots := 0, locals := 0 } : Room).slots (s₁.setTop (entryFrame m #[(.ref a), (.ref b)] 3))
  refine own_via (fun t k => castTop (ef_eC m a b) k) ?_
  show own_Go p e below s _ _ _ (s₁.setTop (mkF m 0 #[.val (.ref a), .val (.ref b), .unset] []))
  refine own_via (fun _ k => XS.aloadN X0.here hx rfl (hb hby d4_0) rfl rfl k) ?_
  show own_Go p e below s _ _ _ (s₁.setTop (mkF m 1 #[.val (.ref a), .val (.ref b), .unset] [(.ref b)]))
  obtain ⟨T1, X1, e1, st1⟩ := instY X0 hx hZ hown (hw _ (List.mem_of_getElem? (i := 26) rfl)) e0 (Ins.self E_b) (g := (mkF m 1 #[.val (.ref a), .val (.ref b), .unset] [(.ref b)])) rfl rfl (hb hby d4_1)
  refine own_via st1 ?_
  show own_Go p e below s _ _ _ (T1.setTop (mkF m 4 #[.val (.ref a), .val (.ref b), .unset] [(.int (1 : Int32))]))
  refine own_via (fun _ k => XS.ifNo X1.here hx rfl (hb hby d4_4) rfl (Jvm.Free.XT.i0_eq_f (by decide)) k) ?_
  show own_Go p e below s _ _ _ (T1.setTop (mkF m 7 #[.val (.ref a), .val (.ref b), .unset] []))
  refine own_via (fun _ k => XS.aloadN X1.here hx rfl (hb hby d4_7) rfl rfl k) ?_
  show own_Go p e below s _ _ _ (T1.setTop (mkF m 8 #[.val (.ref a), .val (.ref b), .unset] [(.ref b)]))
  obtain ⟨T2, X2, e2, st2⟩ := castY X1 hx hZ hown (hw _ (List.mem_of_getElem? (i := 26) rfl)) e1 (Ins.self E_b) (g := (mkF m 8 #[.val (.ref a), .val (.ref b), .unset] [(.ref b)])) rfl rfl (hb hby d4_8)
  refine own_via st2 ?_
  show own_Go p e below s _ _ _ (T2.setTop (mkF m 11 #[.val (.ref a), .val (.ref b), .unset] [(.ref b)]))
  refine own_via (fun _ k => XS.astoreN X2.here hx rfl (hb hby d4_11) rfl rfl (l' := #[.val (.ref a), .val (.ref b), .val (.ref b)]) rfl k) ?_
  show own_Go p e below s _ _ _ (T2.setTop (mkF m 12 #[.val (.ref a), .val (.ref b), .val (.ref b)] []))
  refine own_via (fun _ k => XS.aloadN X2.here hx rfl (hb hby d4_12) rfl rfl k) ?_
  show own_Go p e below s _ _ _ (T2.setTop (mkF m 13 #[.val (.ref a), .val (.ref b), .val (.ref b)] [(.ref b)]))
  obtain ⟨T3, X3, e3, st3⟩ := getF X2 hx hZ hown (host := "") (Or.inl (hw _ (List.mem_of_getElem? (i := 9) rfl))) Via.refl e2 F_covered_b (g := (mkF m 13 #[.val (.ref a), .val (.ref b), .val (.ref b)] [(.ref b)])) rfl rfl (hb hby d4_13)
  refine own_via st3 ?_
  show own_Go p e below s _ _ _ (T3.setTop (mkF m 16 #[.val (.ref a), .val (.ref b), .val (.ref b)] [(.long bc)]))
  refine own_via (fun _ k => XS.aloadN X3.here hx rfl (hb hby d4_16) rfl rfl k) ?_
  show own_Go p e below s _ _ _ (T3.setTop (mkF m 17 #[.val (.ref a), .val (.ref b), .val (.ref b)] [(.ref a), (.long bc)]))
  obtain ⟨T4, X4, e4, st4⟩ := getF X3 hx hZ hown (host := "") (Or.inl (hw _ (List.mem_of_getElem? (i := 9) rfl))) Via.refl e3 F_covered_a (g := (mkF m 17 #[.val (.ref a), .val (.ref b), .val (.ref b)] [(.ref a), (.long bc)])) rfl rfl (hb hby d4_17)
  refine own_via st4 ?_
  show own_Go p e below s _ _ _ (T4.setTop (mkF m 20 #[.val (.ref a), .val (.ref b), .val (.ref b)] [(.long ac), (.long bc)]))
  refine own_via (fun _ k => XS.lcmp X4.here hx rfl (hb hby d4_20) rfl k) ?_
  show own_Go p e below s _ _ _ (T4.setTop (mkF m 21 #[.val (.ref a), .val (.ref b), .val (.ref b)] [(.int (lcmpW bc ac))]))
  by_cases hc5 : bc = ac
  · refine own_via (fun _ k => XS.ifNo X4.here hx rfl (hb hby d4_21) rfl (Jvm.Free.XT.ll_ne_f hc5) k) ?_
    show own_Go p e below s _ _ _ (T4.setTop (mkF m 24 #[.val (.ref a), .val (.ref b), .val (.ref b)] []))
    refine own_via (fun _ k => XS.aloadN X4.here hx rfl (hb hby d4_24) rfl rfl k) ?_
    show own_Go p e below s _ _ _ (T4.setTop (mkF m 25 #[.val (.ref a), .val (.ref b), .val (.ref b)] [(.ref b)]))
    obtain ⟨T6, X6, e6, st6⟩ := getF X4 hx hZ hown (host := "") (Or.inl (hw _ (List.mem_of_getElem? (i := 11) rfl))) Via.refl e4 F_twice_b (g := (mkF m 25 #[.val (.ref a), .val (.ref b), .val (.ref b)] [(.ref b)])) rfl rfl (hb hby d4_25)
    refine own_via st6 ?_
    show own_Go p e below s _ _ _ (T6.setTop (mkF m 28 #[.val (.ref a), .val (.ref b), .val (.ref b)] [(.long bt)]))
    refine own_via (fun _ k => XS.aloadN X6.here hx rfl (hb hby d4_28) rfl rfl k) ?_
    show own_Go p e below s _ _ _ (T6.setTop (mkF m 29 #[.val (.ref a), .val (.ref b), .val (.ref b)] [(.ref a), (.long bt)]))
    obtain ⟨T7, X7, e7, st7⟩ := getF X6 hx hZ hown (host := "") (Or.inl (hw _ (List.mem_of_getElem? (i := 11) rfl))) Via.refl e6 F_twice_a (g := (mkF m 29 #[.val (.ref a), .val (.ref b), .val (.ref b)] [(.ref a), (.long bt)])) rfl rfl (hb hby d4_29)
    refine own_via st7 ?_
    show own_Go p e below s _ _ _ (T7.setTop (mkF m 32 #[.val (.ref a), .val (.ref b), .val (.ref b)] [(.long at_), (.long bt)]))
    refine own_via (fun _ k => XS.lcmp X7.here hx rfl (hb hby d4_32) rfl k) ?_
    show own_Go p e below s _ _ _ (T7.setTop (mkF m 33 #[.val (.ref a), .val (.ref b), .val (.ref b)] [(.int (lcmpW bt at_))]))
    by_cases hc8 : bt = at_
    · refine own_via (fun _ k => XS.ifNo X7.here hx rfl (hb hby d4_33) rfl (Jvm.Free.XT.ll_ne_f hc8) k) ?_
      show own_Go p e below s _ _ _ (T7.setTop (mkF m 36 #[.val (.ref a), .val (.ref b), .val (.ref b)] []))
      refine own_via (fun _ k => XS.iconst X7.here hx rfl (hb hby d4_36) k) ?_
      show own_Go p e below s _ _ _ (T7.setTop (mkF m 37 #[.val (.ref a), .val (.ref b), .val (.ref b)] [(.int (1 : Int32))]))
      refine own_via (fun _ k => XS.goto X7.here hx rfl (pc0 := 37) (pc' := 41) rfl (hb hby d4_37) (by decide) (by decide) k) ?_
      show own_Go p e below s _ _ _ (T7.setTop (mkF m 41 #[.val (.ref a), .val (.ref b), .val (.ref b)] [(.int (1 : Int32))]))
      exact own_goN X7 hx (t := .boolean) Bd.returns (by simp) (hb hby d4_41) Bd.notSynchronized (by decide) (by decide) (by rw [e7]; exact ⟨by rw [own_f, if_pos hc5, if_pos hc8] <;> rfl, N0, rfl⟩)
    · refine own_via (fun _ k => XS.ifYes X7.here hx rfl (pc0 := 33) (pc' := 40) rfl (hb hby d4_33) rfl (Jvm.Free.XT.ll_ne_t hc8) (by decide) (by decide) k) ?_
      show own_Go p e below s _ _ _ (T7.setTop (mkF m 40 #[.val (.ref a), .val (.ref b), .val (.ref b)] []))
      refine own_via (fun _ k => XS.iconst X7.here hx rfl (hb hby d4_40) k) ?_
      show own_Go p e below s _ _ _ (T7.setTop (mkF m 41 #[.val (.ref a), .val (.ref b), .val (.ref b)] [(.int (0 : Int32))]))
      exact own_goN X7 hx (t := .boolean) Bd.returns (by simp) (hb hby d4_41) Bd.notSynchronized (by decide) (by decide) (by rw [e7]; exact ⟨by rw [own_f, if_pos hc5, if_neg hc8] <;> rfl, N0, rfl⟩)
  · refine own_via (fun _ k => XS.ifYes X4.here hx rfl (pc0 := 21) (pc' := 40) rfl (hb hby d4_21) rfl (Jvm.Free.XT.ll_ne_t hc5) (by decide) (by decide) k) ?_
    show own_Go p e below s _ _ _ (T4.setTop (mkF m 40 #[.val (.ref a), .val (.ref b), .val (.ref b)] []))
    refine own_via (fun _ k => XS.iconst X4.here hx rfl (hb hby d4_40) k) ?_
    show own_Go p e below s _ _ _ (T4.setTop (mkF m 41 #[.val (.ref a), .val (.ref b), .val (.ref b)] [(.int (0 : Int32))]))
    exact own_goN X4 hx (t := .boolean) Bd.returns (by simp) (hb hby d4_41) Bd.notSynchronized (by decide) (by decide) (by rw [e4]; exact ⟨by rw [own_f, if_neg hc5] <;> rfl, N0, rfl⟩)
theorem ef_eN (m : MethodId) (x0 : Addr) : entryFrame m #[(.ref x0), .null] 3 = mkF m 0 #[.val (.ref x0), .val .null, .unset] [] := by first | (simp [entryFrame, mkF, argsToLocals, Value.category]; done) | rfl
def QeN (Z : State) (a : Addr) (h0 : Heap) (n0 : Nat) (v : Option Value) (h : Heap) (L : List Loc) : Prop := v = some (.int (0 : Int32)) ∧ Fr n0 L ∧ h = h0
set_option maxRecDepth 65536 in
set_option maxHeartbeats 40000000 in
theorem rmeN (l : Launch) (Z : State) (a0 : Array Value) (hw : ∀ d ∈ tables_1, d.before a0 Z = true) (ws : List Jvm.Cond) (a : Addr) (h0 : Heap) (n0 : Nat) (Z0 : n0 ≤ h0.size) :
    MetFree l (⟨"com/example/unalike/unalike/engine/PairTally$Change", "equals", "(Ljava/lang/Object;)Z"⟩ : MethodName) (head1 (Jvm.Cond.code (⟨"com/example/unalike/unalike/engine/PairTally$Change", "equals", "(Ljava/lang/Object;)Z"⟩ : MethodName) prog_15_method_4_code 3 (some .boolean) :: ws) ({ frames := 0, cells := 0, slots := 0, locals := 0 } : Room)) (fun q_ U => q_ = #[(.ref a), .null] ∧ Z.Warmed39 U.vm ∧ U.heap = h0) (fun _ _ _ _ _ => True) (fun _ U o U' => ∃ v L, o = .returned v ∧ QeN Z a h0 n0 v U'.heap L ∧ FrameEnd U o U' L ({ frames := 0, cells := 0, slots := 0, locals := 0 } : Room).cells ({ frames := 0, cells := 0, slots := 0, locals := 0 } : Room).slots) := by
  refine MetFree.of_bodySF (plainFor_of_name pn_0) hisR ?_
  intro p e s m args below meth c s₁ Bd hml0 hP hK
  obtain ⟨rfl, hZ, hh⟩ := hP
  have hx := Bd.exec
  have hby := Bd.bytes
  have hml : c.maxLocals = 3 := hml0
  have hown : s.vm.findClass "com/example/unalike/unalike/engine/PairTally$Change" = some m.cls := findClass_of_methodNamed Bd.named
  have hnm := (name_of_methodNamed Bd.named Bd.method).1
  have X0 : Stand p l e ({ frames := 0, cells := 0, slots := 0, locals := 0 } : Room) s m #[(.ref a), .null] below meth c s₁ [] 0 0 := Stand.of_body Bd
  have e0 : s₁.heap = h0 := by rw [← hh, Bd.state]; rfl
  have N0 := Fr.nil n0
  show own_Go p e below s (QeN Z a h0 n0) ({ frames := 0, cells := 0, slots := 0, locals := 0 } : Room).cells ({ frames := 0, cells := 0, slots := 0, locals := 0 } : Room).slots (s₁.setTop (entryFrame m #[(.ref a), .null] 3))
  refine own_via (fun t k => castTop (ef_eN m a) k) ?_
  show own_Go p e below s _ _ _ (s₁.setTop (mkF m 0 #[.val (.ref a), .val .null, .unset] []))
  refine own_via (fun _ k => XS.aloadN X0.here hx rfl (hb hby d4_0) rfl rfl k) ?_
  show own_Go p e below s _ _ _ (s₁.setTop (mkF m 1 #[.val (.ref a), .val .null, .unset] [.null]))
  refine own_via (fun _ k => X0.instanceofNull hx (g := (mkF m 1 #[.val (.ref a), .val .null, .unset] [.null])) rfl rfl (hb hby d4_1) _ k) ?_
  show own_Go p e below s _ _ _ (s₁.setTop (mkF m 4 #[.val (.ref a), .val .null, .unset] [(.int (0 : Int32))]))
  refine own_via (fun _ k => XS.ifYes X0.here hx rfl (pc0 := 4) (pc' := 40) rfl (hb hby d4_4) rfl (Jvm.Free.XT.i0_eq_t (by decide)) (by decide) (by decide) k) ?_
  show own_Go p e below s _ _ _ (s₁.setTop (mkF m 40 #[.val (.ref a), .val .null, .unset] []))
  refine own_via (fun _ k => XS.iconst X0.here hx rfl (hb hby d4_40) k) ?_
  show own_Go p e below s _ _ _ (s₁.setTop (mkF m 41 #[.val (.ref a), .val .null, .unset] [(.int (0 : Int32))]))
  exact own_goN X0 hx (t := .boolean) Bd.returns (by simp) (hb hby d4_41) Bd.notSynchronized (by decide) (by decide) (by rw [e0]; exact ⟨rfl, N0, rfl⟩)
theorem ef_eL (m : MethodId) (x0 : Addr) (x1 : Addr) : entryFrame m #[(.ref x0), (.ref x1)] 3 = mkF m 0 #[.val (.ref x0), .val (.ref x1), .unset] [] := by first | (simp [entryFrame, mkF, argsToLocals, Value.category]; done) | rfl
def QeL (Z : State) (a : Addr) (b : Addr) (h0 : Heap) (n0 : Nat) (v : Option Value) (h : Heap) (L : List Loc) : Prop := v = some (.int (0 : Int32)) ∧ Fr n0 L ∧ h = h0
set_option maxRecDepth 65536 in
set_option maxHeartbeats 40000000 in
theorem rmeL (l : Launch) (Z : State) (a0 : Array Value) (hw : ∀ d ∈ tables_1, d.before a0 Z = true) (ws : List Jvm.Cond) (a : Addr) (b : Addr) (h0 : Heap) (n0 : Nat) (Z0 : n0 ≤ h0.size) (E_b : Exa Z h0 b "java/lang/Long") :
    MetFree l (⟨"com/example/unalike/unalike/engine/PairTally$Change", "equals", "(Ljava/lang/Object;)Z"⟩ : MethodName) (head1 (Jvm.Cond.code (⟨"com/example/unalike/unalike/engine/PairTally$Change", "equals", "(Ljava/lang/Object;)Z"⟩ : MethodName) prog_15_method_4_code 3 (some .boolean) :: ws) ({ frames := 0, cells := 0, slots := 0, locals := 0 } : Room)) (fun q_ U => q_ = #[(.ref a), (.ref b)] ∧ Z.Warmed39 U.vm ∧ U.heap = h0) (fun _ _ _ _ _ => True) (fun _ U o U' => ∃ v L, o = .returned v ∧ QeL Z a b h0 n0 v U'.heap L ∧ FrameEnd U o U' L ({ frames := 0, cells := 0, slots := 0, locals := 0 } : Room).cells ({ frames := 0, cells := 0, slots := 0, locals := 0 } : Room).slots) := by
  refine MetFree.of_bodySF (plainFor_of_name pn_0) hisR ?_
  intro p e s m args below meth c s₁ Bd hml0 hP hK
  obtain ⟨rfl, hZ, hh⟩ := hP
  have hx := Bd.exec
  have hby := Bd.bytes
  have hml : c.maxLocals = 3 := hml0
  have hown : s.vm.findClass "com/example/unalike/unalike/engine/PairTally$Change" = some m.cls := findClass_of_methodNamed Bd.named
  have hnm := (name_of_methodNamed Bd.named Bd.method).1
  have X0 : Stand p l e ({ frames := 0, cells := 0, slots := 0, locals := 0 } : Room) s m #[(.ref a), (.ref b)] below meth c s₁ [] 0 0 := Stand.of_body Bd
  have e0 : s₁.heap = h0 := by rw [← hh, Bd.state]; rfl
  have N0 := Fr.nil n0
  show own_Go p e below s (QeL Z a b h0 n0) ({ frames := 0, cells := 0, slots := 0, locals := 0 } : Room).cells ({ frames := 0, cells := 0, slots := 0, locals := 0 } : Room).slots (s₁.setTop (entryFrame m #[(.ref a), (.ref b)] 3))
  refine own_via (fun t k => castTop (ef_eL m a b) k) ?_
  show own_Go p e below s _ _ _ (s₁.setTop (mkF m 0 #[.val (.ref a), .val (.ref b), .unset] []))
  refine own_via (fun _ k => XS.aloadN X0.here hx rfl (hb hby d4_0) rfl rfl k) ?_
  show own_Go p e below s _ _ _ (s₁.setTop (mkF m 1 #[.val (.ref a), .val (.ref b), .unset] [(.ref b)]))
  obtain ⟨T1, X1, e1, st1⟩ := instNo X0 hx hZ hown (hw _ (List.mem_of_getElem? (i := 26) rfl)) e0 E_b (own_noIns (hw _ (List.mem_of_getElem? (i := 28) rfl)) (hw _ (List.mem_of_getElem? (i := 29) rfl)) (hw _ (List.mem_of_getElem? (i := 30) rfl)) (hw _ (List.mem_of_getElem? (i := 1) rfl))) (g := (mkF m 1 #[.val (.ref a), .val (.ref b), .unset] [(.ref b)])) rfl rfl (hb hby d4_1)
  refine own_via st1 ?_
  show own_Go p e below s _ _ _ (T1.setTop (mkF m 4 #[.val (.ref a), .val (.ref b), .unset] [(.int (0 : Int32))]))
  refine own_via (fun _ k => XS.ifYes X1.here hx rfl (pc0 := 4) (pc' := 40) rfl (hb hby d4_4) rfl (Jvm.Free.XT.i0_eq_t (by decide)) (by decide) (by decide) k) ?_
  show own_Go p e below s _ _ _ (T1.setTop (mkF m 40 #[.val (.ref a), .val (.ref b), .unset] []))
  refine own_via (fun _ k => XS.iconst X1.here hx rfl (hb hby d4_40) k) ?_
  show own_Go p e below s _ _ _ (T1.setTop (mkF m 41 #[.val (.ref a), .val (.ref b), .unset] [(.int (0 : Int32))]))
  exact own_goN X1 hx (t := .boolean) Bd.returns (by simp) (hb hby d4_41) Bd.notSynchronized (by decide) (by decide) (by rw [e1]; exact ⟨rfl, N0, rfl⟩)

theorem own_length {args : Array Value} {first s : State} {o : Option Outcome} {idx : List Nat} {t : Term} {v : Value} (h : (Term.length t).eval args first o idx s = some v) : ∃ a cell, t.eval args first o idx s = some (.ref a) ∧ s.arrayAt? a = some cell ∧ cell.slots.size < 2 ^ 31 ∧ v = .int cell.slots.size.toInt32 := by
  obtain ⟨a, cell, h1, h2, h3⟩ := Term.length_spec h
  refine ⟨a, cell, h1, h2, ?_, h3⟩
  by_cases q : cell.slots.size < 2 ^ 31
  · exact q
  · simp [Term.eval, h1, h2, q] at h
theorem own_p1 {a b c d : Int64} {v : Int32} (h : (if c = a then (if d = b then (1 : Int32) else (0 : Int32)) else (0 : Int32)) = v) : own_f a b c d = v := by
  subst h; unfold own_f; rfl
theorem own_p2 {a b c d : Int64} {v : Int32} (h : (if c = a then (if d = b then (1 : Int32) else (0 : Int32)) else (0 : Int32)) = v) : own_f c d a b = v := by
  subst h; unfold own_f
  by_cases h1 : c = a
  · by_cases h2 : d = b
    · simp [h1, h2]
    · simp [h1, h2, Ne.symm h2]
  · simp [h1, Ne.symm h1]
theorem own_p3 {a b : Int64} : ¬ own_f a b a b = (0 : Int32) := by unfold own_f; simp

theorem pd_2 : parseMethodDescriptor "(JJ)V" = some ⟨[.long, .long], none⟩ := by decide +kernel
theorem pd_3 : parseMethodDescriptor "(J)Ljava/lang/Long;" = some ⟨[.long], some (.object "java/lang/Long")⟩ := by decide +kernel
theorem pd_4 : parseMethodDescriptor "(Ljava/lang/Object;)Z" = some ⟨[(.object "java/lang/Object")], some .boolean⟩ := by decide +kernel
theorem pn_3 : plainName "com/example/unalike/unalike/engine/ChangeEqualsPinLaw" = true := by first | (simp [plainName, overriddenIn]; done) | decide +kernel
theorem ef_0 (m : MethodId) (x0 : Int64) (x1 : Int64) (x2 : Int64) (x3 : Int64) (x4 : Int32) : entryFrame m #[(.long x0), (.long x1), (.long x2), (.long x3), (.int x4)] maxLocals = mkF m 0 #[.val (.long x0), .second, .val (.long x1), .second, .val (.long x2), .second, .val (.long x3), .second, .val (.int x4), .unset, .unset, .unset, .unset, .unset, .unset, .unset, .unset] [] := by first | (simp [entryFrame, mkF, argsToLocals, Value.category, maxLocals]; done) | rfl
def Q0 (Z : State) (p0 : Int64) (p1 : Int64) (p2 : Int64) (p3 : Int64) (p4 : Int32) (ca : Addr) (cl_ : Cell) (h0 : Heap) (n0 : Nat) (v : Option Value) (h : Heap) (L : List Loc) : Prop := v = some (.int 1) ∧ Fr n0 L
set_option maxRecDepth 65536 in
set_option maxHeartbeats 40000000 in
theorem rm0 (l : Launch) (Z : State) (a0 : Array Value) (hw : ∀ d ∈ tables_1, d.before a0 Z = true) (ws : List Jvm.Cond) (p0 : Int64) (p1 : Int64) (p2 : Int64) (p3 : Int64) (p4 : Int32) (ca : Addr) (cl_ : Cell) (h0 : Heap) (n0 : Nat) (Z0 : n0 ≤ h0.size) (O0 : Old Z n0 h0) (S_cache : Sta Z Z.heap "java/lang/Long$LongCache" "cache" "[Ljava/lang/Long;" (.ref ca)) (hp1 : Bxs Z ca cl_ "java/lang/Long" "J" 256 (fun j => .long (j - 128).toInt64)) :
    MetFree l x (head1 (Jvm.Cond.code x code maxLocals ret :: ws) room_1) (fun q_ U => q_ = #[(.long p0), (.long p1), (.long p2), (.long p3), (.int p4)] ∧ Z.Warmed39 U.vm ∧ U.heap = h0) (fun _ _ _ _ _ => True) (fun _ U o U' => ∃ v L, o = .returned v ∧ Q0 Z p0 p1 p2 p3 p4 ca cl_ h0 n0 v U'.heap L ∧ FrameEnd U o U' L room_1.cells room_1.slots) := by
  refine MetFree.of_bodySF (plainFor_of_name pn_3) hisR ?_
  intro p e s m args below meth c s₁ Bd hml0 hP hK
  obtain ⟨rfl, hZ, hh⟩ := hP
  have hx := Bd.exec
  have hby := Bd.bytes
  have hml : c.maxLocals = 17 := hml0
  have hown : s.vm.findClass "com/example/unalike/unalike/engine/ChangeEqualsPinLaw" = some m.cls := findClass_of_methodNamed Bd.named
  have hnm := (name_of_methodNamed Bd.named Bd.method).1
  have X0 : Stand p l e room_1 s m #[(.long p0), (.long p1), (.long p2), (.long p3), (.int p4)] below meth c s₁ [] 0 0 := Stand.of_body Bd
  have e0 : s₁.heap = h0 := by rw [← hh, Bd.state]; rfl
  have N0 := Fr.nil n0
  show own_Go p e below s (Q0 Z p0 p1 p2 p3 p4 ca cl_ h0 n0) room_1.cells room_1.slots (s₁.setTop (entryFrame m #[(.long p0), (.long p1), (.long p2), (.long p3), (.int p4)] maxLocals))
  refine own_via (fun t k => castTop (ef_0 m p0 p1 p2 p3 p4) k) ?_
  show own_Go p e below s _ _ _ (s₁.setTop (mkF m 0 #[.val (.long p0), .second, .val (.long p1), .second, .val (.long p2), .second, .val (.long p3), .second, .val (.int p4), .unset, .unset, .unset, .unset, .unset, .unset, .unset, .unset] []))
  have st1 : ∀ t, Steps p.tables e below (s₁.setTop (mkF m 13 #[.val (.long p0), .second, .val (.long p1), .second, .val (.long p2), .second, .val (.long p3), .second, .val (.int p4), .unset, .unset, .unset, .unset, .unset, .unset, .unset, .unset] [(.long (if (p4 &&& (1 : Int32)) = (0 : Int32) then p2 else p0))])) t → Steps p.tables e below (s₁.setTop (mkF m 0 #[.val (.long p0), .second, .val (.long p1), .second, .val (.long p2), .second, .val (.long p3), .second, .val (.int p4), .unset, .unset, .unset, .unset, .unset, .unset, .unset, .unset] [])) t := by
    intro t k
    refine XS.iload X0.here hx rfl (hb hby at_0) rfl ?_
    show Steps p.tables e below (s₁.setTop (mkF m 2 #[.val (.long p0), .second, .val (.long p1), .second, .val (.long p2), .second, .val (.long p3), .second, .val (.int p4), .unset, .unset, .unset, .unset, .unset, .unset, .unset, .unset] [(.int p4)])) t
    refine XS.iconst X0.here hx rfl (hb hby at_2) ?_
    show Steps p.tables e below (s₁.setTop (mkF m 3 #[.val (.long p0), .second, .val (.long p1), .second, .val (.long p2), .second, .val (.long p3), .second, .val (.int p4), .unset, .unset, .unset, .unset, .unset, .unset, .unset, .unset] [(.int (1 : Int32)), (.int p4)])) t
    refine XS.iand X0.here hx rfl (hb hby at_3) rfl ?_
    show Steps p.tables e below (s₁.setTop (mkF m 4 #[.val (.long p0), .second, .val (.long p1), .second, .val (.long p2), .second, .val (.long p3), .second, .val (.int p4), .unset, .unset, .unset, .unset, .unset, .unset, .unset, .unset] [(.int (p4 &&& (1 : Int32)))])) t
    by_cases hq2 : (p4 &&& (1 : Int32)) = (0 : Int32)
    · refine XS.ifYes X0.here hx rfl (pc0 := 4) (pc' := 11) rfl (hb hby at_4) rfl (Jvm.Free.XT.i0_eq_t hq2) (by decide) (by decide) ?_
      show Steps p.tables e below (s₁.setTop (mkF m 11 #[.val (.long p0), .second, .val (.long p1), .second, .val (.long p2), .second, .val (.long p3), .second, .val (.int p4), .unset, .unset, .unset, .unset, .unset, .unset, .unset, .unset] [])) t
      refine XS.lload X0.here hx rfl (hb hby at_11) rfl ?_
      show Steps p.tables e below (s₁.setTop (mkF m 13 #[.val (.long p0), .second, .val (.long p1), .second, .val (.long p2), .second, .val (.long p3), .second, .val (.int p4), .unset, .unset, .unset, .unset, .unset, .unset, .unset, .unset] [(.long p2)])) t
      simp only [if_pos hq2] at k
      exact k
    · refine XS.ifNo X0.here hx rfl (hb hby at_4) rfl (Jvm.Free.XT.i0_eq_f hq2) ?_
      show Steps p.tables e below (s₁.setTop (mkF m 7 #[.val (.long p0), .second, .val (.long p1), .second, .val (.long p2), .second, .val (.long p3), .second, .val (.int p4), .unset, .unset, .unset, .unset, .unset, .unset, .unset, .unset] [])) t
      refine XS.lloadN X0.here hx rfl (hb hby at_7) rfl ?_
      show Steps p.tables e below (s₁.setTop (mkF m 8 #[.val (.long p0), .second, .val (.long p1), .second, .val (.long p2), .second, .val (.long p3), .second, .val (.int p4), .unset, .unset, .unset, .unset, .unset, .unset, .unset, .unset] [(.long p0)])) t
      refine XS.goto X0.here hx rfl (pc0 := 8) (pc' := 13) rfl (hb hby at_8) (by decide) (by decide) ?_
      show Steps p.tables e below (s₁.setTop (mkF m 13 #[.val (.long p0), .second, .val (.long p1), .second, .val (.long p2), .second, .val (.long p3), .second, .val (.int p4), .unset, .unset, .unset, .unset, .unset, .unset, .unset, .unset] [(.long p0)])) t
      simp only [if_neg hq2] at k
      exact k
  refine own_via st1 ?_
  show own_Go p e below s _ _ _ (s₁.setTop (mkF m 13 #[.val (.long p0), .second, .val (.long p1), .second, .val (.long p2), .second, .val (.long p3), .second, .val (.int p4), .unset, .unset, .unset, .unset, .unset, .unset, .unset, .unset] [(.long (if (p4 &&& (1 : Int32)) = (0 : Int32) then p2 else p0))]))
  refine own_via (fun _ k => XS.lstore X0.here hx rfl (hb hby at_13) rfl (l' := #[.val (.long p0), .second, .val (.long p1), .second, .val (.long p2), .second, .val (.long p3), .second, .val (.int p4), .val (.long (if (p4 &&& (1 : Int32)) = (0 : Int32) then p2 else p0)), .second, .unset, .unset, .unset, .unset, .unset, .unset]) rfl k) ?_
  show own_Go p e below s _ _ _ (s₁.setTop (mkF m 15 #[.val (.long p0), .second, .val (.long p1), .second, .val (.long p2), .second, .val (.long p3), .second, .val (.int p4), .val (.long (if (p4 &&& (1 : Int32)) = (0 : Int32) then p2 else p0)), .second, .unset, .unset, .unset, .unset, .unset, .unset] []))
  generalize hv3 : (if (p4 &&& (1 : Int32)) = (0 : Int32) then p2 else p0) = v3
  show own_Go p e below s _ _ _ (s₁.setTop (mkF m 15 #[.val (.long p0), .second, .val (.long p1), .second, .val (.long p2), .second, .val (.long p3), .second, .val (.int p4), .val (.long v3), .second, .unset, .unset, .unset, .unset, .unset, .unset] []))
  have st4 : ∀ t, Steps p.tables e below (s₁.setTop (mkF m 28 #[.val (.long p0), .second, .val (.long p1), .second, .val (.long p2), .second, .val (.long p3), .second, .val (.int p4), .val (.long v3), .second, .unset, .unset, .unset, .unset, .unset, .unset] [(.long (if (p4 &&& (2 : Int32)) = (0 : Int32) then p3 else p1))])) t → Steps p.tables e below (s₁.setTop (mkF m 15 #[.val (.long p0), .second, .val (.long p1), .second, .val (.long p2), .second, .val (.long p3), .second, .val (.int p4), .val (.long v3), .second, .unset, .unset, .unset, .unset, .unset, .unset] [])) t := by
    intro t k
    refine XS.iload X0.here hx rfl (hb hby at_15) rfl ?_
    show Steps p.tables e below (s₁.setTop (mkF m 17 #[.val (.long p0), .second, .val (.long p1), .second, .val (.long p2), .second, .val (.long p3), .second, .val (.int p4), .val (.long v3), .second, .unset, .unset, .unset, .unset, .unset, .unset] [(.int p4)])) t
    refine XS.iconst X0.here hx rfl (hb hby at_17) ?_
    show Steps p.tables e below (s₁.setTop (mkF m 18 #[.val (.long p0), .second, .val (.long p1), .second, .val (.long p2), .second, .val (.long p3), .second, .val (.int p4), .val (.long v3), .second, .unset, .unset, .unset, .unset, .unset, .unset] [(.int (2 : Int32)), (.int p4)])) t
    refine XS.iand X0.here hx rfl (hb hby at_18) rfl ?_
    show Steps p.tables e below (s₁.setTop (mkF m 19 #[.val (.long p0), .second, .val (.long p1), .second, .val (.long p2), .second, .val (.long p3), .second, .val (.int p4), .val (.long v3), .second, .unset, .unset, .unset, .unset, .unset, .unset] [(.int (p4 &&& (2 : Int32)))])) t
    by_cases hq5 : (p4 &&& (2 : Int32)) = (0 : Int32)
    · refine XS.ifYes X0.here hx rfl (pc0 := 19) (pc' := 26) rfl (hb hby at_19) rfl (Jvm.Free.XT.i0_eq_t hq5) (by decide) (by decide) ?_
      show Steps p.tables e below (s₁.setTop (mkF m 26 #[.val (.long p0), .second, .val (.long p1), .second, .val (.long p2), .second, .val (.long p3), .second, .val (.int p4), .val (.long v3), .second, .unset, .unset, .unset, .unset, .unset, .unset] [])) t
      refine XS.lload X0.here hx rfl (hb hby at_26) rfl ?_
      show Steps p.tables e below (s₁.setTop (mkF m 28 #[.val (.long p0), .second, .val (.long p1), .second, .val (.long p2), .second, .val (.long p3), .second, .val (.int p4), .val (.long v3), .second, .unset, .unset, .unset, .unset, .unset, .unset] [(.long p3)])) t
      simp only [if_pos hq5] at k
      exact k
    · refine XS.ifNo X0.here hx rfl (hb hby at_19) rfl (Jvm.Free.XT.i0_eq_f hq5) ?_
      show Steps p.tables e below (s₁.setTop (mkF m 22 #[.val (.long p0), .second, .val (.long p1), .second, .val (.long p2), .second, .val (.long p3), .second, .val (.int p4), .val (.long v3), .second, .unset, .unset, .unset, .unset, .unset, .unset] [])) t
      refine XS.lloadN X0.here hx rfl (hb hby at_22) rfl ?_
      show Steps p.tables e below (s₁.setTop (mkF m 23 #[.val (.long p0), .second, .val (.long p1), .second, .val (.long p2), .second, .val (.long p3), .second, .val (.int p4), .val (.long v3), .second, .unset, .unset, .unset, .unset, .unset, .unset] [(.long p1)])) t
      refine XS.goto X0.here hx rfl (pc0 := 23) (pc' := 28) rfl (hb hby at_23) (by decide) (by decide) ?_
      show Steps p.tables e below (s₁.setTop (mkF m 28 #[.val (.long p0), .second, .val (.long p1), .second, .val (.long p2), .second, .val (.long p3), .second, .val (.int p4), .val (.long v3), .second, .unset, .unset, .unset, .unset, .unset, .unset] [(.long p1)])) t
      simp only [if_neg hq5] at k
      exact k
  refine own_via st4 ?_
  show own_Go p e below s _ _ _ (s₁.setTop (mkF m 28 #[.val (.long p0), .second, .val (.long p1), .second, .val (.long p2), .second, .val (.long p3), .second, .val (.int p4), .val (.long v3), .second, .unset, .unset, .unset, .unset, .unset, .unset] [(.long (if (p4 &&& (2 : Int32)) = (0 : Int32) then p3 else p1))]))
  refine own_via (fun _ k => XS.lstore X0.here hx rfl (hb hby at_28) rfl (l' := #[.val (.long p0), .second, .val (.long p1), .second, .val (.long p2), .second, .val (.long p3), .second, .val (.int p4), .val (.long v3), .second, .val (.long (if (p4 &&& (2 : Int32)) = (0 : Int32) then p3 else p1)), .second, .unset, .unset, .unset, .unset]) rfl k) ?_
  show own_Go p e below s _ _ _ (s₁.setTop (mkF m 30 #[.val (.long p0), .second, .val (.long p1), .second, .val (.long p2), .second, .val (.long p3), .second, .val (.int p4), .val (.long v3), .second, .val (.long (if (p4 &&& (2 : Int32)) = (0 : Int32) then p3 else p1)), .second, .unset, .unset, .unset, .unset] []))
  generalize hv6 : (if (p4 &&& (2 : Int32)) = (0 : Int32) then p3 else p1) = v6
  show own_Go p e below s _ _ _ (s₁.setTop (mkF m 30 #[.val (.long p0), .second, .val (.long p1), .second, .val (.long p2), .second, .val (.long p3), .second, .val (.int p4), .val (.long v3), .second, .val (.long v6), .second, .unset, .unset, .unset, .unset] []))
  obtain ⟨T7, h7, X7, e7, E7, A7, D7, -, st7⟩ := newO X0 hx hZ hown (hw _ (List.mem_of_getElem? (i := 0) rfl)) (hw _ (List.mem_of_getElem? (i := 1) rfl)) (hw _ (List.mem_of_getElem? (i := 2) rfl)) e0 (g := (mkF m 30 #[.val (.long p0), .second, .val (.long p1), .second, .val (.long p2), .second, .val (.long p3), .second, .val (.int p4), .val (.long v3), .second, .val (.long v6), .second, .unset, .unset, .unset, .unset] [])) rfl (hb hby at_30) (by decide) (by decide)
  obtain ⟨b7, gg7⟩ : ∃ z, z = h0.size := ⟨_, rfl⟩
  rw [← gg7] at A7 D7 st7
  have g_b7 : n0 ≤ b7 := Nat.le_trans Z0 (Nat.le_of_eq gg7.symm)
  have Z7 : n0 ≤ h7.size := Nat.le_trans Z0 E7.1
  have O7 : Old Z n0 h7 := O0.ext E7
  have F8 : Fld Z h7 b7 "com/example/unalike/unalike/engine/PairTally$Change" "covered" "J" (.long (0 : Int64)) := D7 (Or.inr (hw _ (List.mem_of_getElem? (i := 10) rfl))) (ty := .long) (by decide)
  have F9 : Fld Z h7 b7 "com/example/unalike/unalike/engine/PairTally$Change" "twice" "J" (.long (0 : Int64)) := D7 (Or.inr (hw _ (List.mem_of_getElem? (i := 12) rfl))) (ty := .long) (by decide)
  refine own_via st7 ?_
  show own_Go p e below s _ _ _ (T7.setTop (mkF m 33 #[.val (.long p0), .second, .val (.long p1), .second, .val (.long p2), .second, .val (.long p3), .second, .val (.int p4), .val (.long v3), .second, .val (.long v6), .second, .unset, .unset, .unset, .unset] [(.ref b7)]))
  refine own_via (fun _ k => XS.dup X7.here hx rfl (hb hby at_33) rfl rfl k) ?_
  show own_Go p e below s _ _ _ (T7.setTop (mkF m 34 #[.val (.long p0), .second, .val (.long p1), .second, .val (.long p2), .second, .val (.long p3), .second, .val (.int p4), .val (.long v3), .second, .val (.long v6), .second, .unset, .unset, .unset, .unset] [(.ref b7), (.ref b7)]))
  refine own_via (fun _ k => XS.lloadN X7.here hx rfl (hb hby at_34) rfl k) ?_
  show own_Go p e below s _ _ _ (T7.setTop (mkF m 35 #[.val (.long p0), .second, .val (.long p1), .second, .val (.long p2), .second, .val (.long p3), .second, .val (.int p4), .val (.long v3), .second, .val (.long v6), .second, .unset, .unset, .unset, .unset] [(.long p0), (.ref b7), (.ref b7)]))
  refine own_via (fun _ k => XS.lloadN X7.here hx rfl (hb hby at_35) rfl k) ?_
  show own_Go p e below s _ _ _ (T7.setTop (mkF m 36 #[.val (.long p0), .second, .val (.long p1), .second, .val (.long p2), .second, .val (.long p3), .second, .val (.int p4), .val (.long v3), .second, .val (.long v6), .second, .unset, .unset, .unset, .unset] [(.long p1), (.long p0), (.ref b7), (.ref b7)]))
  obtain ⟨_, _, ⟨T10, L10, k10, n10⟩, -, X10, ⟨Lc10, hQ10, l10, y10, z10⟩, st10⟩ := X7.specialBack hx (y := (⟨"com/example/unalike/unalike/engine/PairTally$Change", "<init>", "(JJ)V"⟩ : MethodName)) rfl hown (mvT hZ (hw _ (List.mem_of_getElem? (i := 3) rfl))) (mvT hZ (hw _ (List.mem_of_getElem? (i := 4) rfl))) (mvT hZ (hw _ (List.mem_of_getElem? (i := 5) rfl))) (by decide) (backOf (W := 1) (rm1 l Z a0 hw [] b7 p0 p1 h7 n0 Z7 A7 F8 F9 g_b7) hZ (hw _ (List.mem_of_getElem? (i := 5) rfl)) (hw _ (List.mem_of_getElem? (i := 2) rfl)) (by decide) (by decide)) (g := (mkF m 36 #[.val (.long p0), .second, .val (.long p1), .second, .val (.long p2), .second, .val (.long p3), .second, .val (.int p4), .val (.long v3), .second, .val (.long v6), .second, .unset, .unset, .unset, .unset] [(.long p1), (.long p0), (.ref b7), (.ref b7)])) rfl (by rw [hml]; rfl) (Steps.refl _) (a := b7) (argsL := [(.long p0), (.long p1)]) (rest := [(.ref b7)]) (lenOf pd_2 rfl) rfl (by show 2 * 0 + _ ≤ _; exact Nat.le_of_eq rfl) (hb hby at_36) (fun _ _ => ⟨rfl, e7, (by decide : 1 + 0 ≤ _), (by decide : 2 + 0 ≤ _)⟩)
  dsimp only [Pt.U, Pt.locs, Pt.cells, Pt.slots] at X10 l10 y10 z10 st10 hQ10
  subst l10 y10 z10
  obtain ⟨h10, e10⟩ : ∃ h, T10.heap = h := ⟨_, rfl⟩
  rw [e10] at hQ10
  obtain ⟨rfl, N10q, Kq10, F11, F12, F13⟩ := hQ10
  have Z10 : n0 ≤ h10.size := Nat.le_trans Z7 Kq10.1
  have O10 : Old Z n0 h10 := O7.keep Kq10 (allS g_b7 all0)
  have N10 := Fr.app N0 N10q
  refine own_viaT st10 ?_
  show own_Go p e below s _ _ _ (T10.setTop (mkF m 39 #[.val (.long p0), .second, .val (.long p1), .second, .val (.long p2), .second, .val (.long p3), .second, .val (.int p4), .val (.long v3), .second, .val (.long v6), .second, .unset, .unset, .unset, .unset] [(.ref b7)]))
  refine own_via (fun _ k => XS.astore X10.here hx rfl (hb hby at_39) rfl rfl (l' := #[.val (.long p0), .second, .val (.long p1), .second, .val (.long p2), .second, .val (.long p3), .second, .val (.int p4), .val (.long v3), .second, .val (.long v6), .second, .val (.ref b7), .unset, .unset, .unset]) rfl k) ?_
  show own_Go p e below s _ _ _ (T10.setTop (mkF m 41 #[.val (.long p0), .second, .val (.long p1), .second, .val (.long p2), .second, .val (.long p3), .second, .val (.int p4), .val (.long v3), .second, .val (.long v6), .second, .val (.ref b7), .unset, .unset, .unset] []))
  obtain ⟨T14, h14, X14, e14, E14, A14, D14, -, st14⟩ := newO X10 hx hZ hown (hw _ (List.mem_of_getElem? (i := 0) rfl)) (hw _ (List.mem_of_getElem? (i := 1) rfl)) (hw _ (List.mem_of_getElem? (i := 2) rfl)) e10 (g := (mkF m 41 #[.val (.long p0), .second, .val (.long p1), .second, .val (.long p2), .second, .val (.long p3), .second, .val (.int p4), .val (.long v3), .second, .val (.long v6), .second, .val (.ref b7), .unset, .unset, .unset] [])) rfl (hb hby at_41) (by decide) (by decide)
  obtain ⟨b14, gg14⟩ : ∃ z, z = h10.size := ⟨_, rfl⟩
  rw [← gg14] at A14 D14 st14
  have ne_b7_b14 : b7 ≠ b14 := Nat.ne_of_lt (Nat.lt_of_lt_of_le F11.lt (Nat.le_of_eq gg14.symm))
  have g_b14 : n0 ≤ b14 := Nat.le_trans Z10 (Nat.le_of_eq gg14.symm)
  have Z14 : n0 ≤ h14.size := Nat.le_trans Z10 E14.1
  have O14 : Old Z n0 h14 := O10.ext E14
  have F15 : Fld Z h14 b14 "com/example/unalike/unalike/engine/PairTally$Change" "covered" "J" (.long (0 : Int64)) := D14 (Or.inr (hw _ (List.mem_of_getElem? (i := 10) rfl))) (ty := .long) (by decide)
  have F16 : Fld Z h14 b14 "com/example/unalike/unalike/engine/PairTally$Change" "twice" "J" (.long (0 : Int64)) := D14 (Or.inr (hw _ (List.mem_of_getElem? (i := 12) rfl))) (ty := .long) (by decide)
  refine own_via st14 ?_
  show own_Go p e below s _ _ _ (T14.setTop (mkF m 44 #[.val (.long p0), .second, .val (.long p1), .second, .val (.long p2), .second, .val (.long p3), .second, .val (.int p4), .val (.long v3), .second, .val (.long v6), .second, .val (.ref b7), .unset, .unset, .unset] [(.ref b14)]))
  refine own_via (fun _ k => XS.dup X14.here hx rfl (hb hby at_44) rfl rfl k) ?_
  show own_Go p e below s _ _ _ (T14.setTop (mkF m 45 #[.val (.long p0), .second, .val (.long p1), .second, .val (.long p2), .second, .val (.long p3), .second, .val (.int p4), .val (.long v3), .second, .val (.long v6), .second, .val (.ref b7), .unset, .unset, .unset] [(.ref b14), (.ref b14)]))
  refine own_via (fun _ k => XS.lload X14.here hx rfl (hb hby at_45) rfl k) ?_
  show own_Go p e below s _ _ _ (T14.setTop (mkF m 47 #[.val (.long p0), .second, .val (.long p1), .second, .val (.long p2), .second, .val (.long p3), .second, .val (.int p4), .val (.long v3), .second, .val (.long v6), .second, .val (.ref b7), .unset, .unset, .unset] [(.long v3), (.ref b14), (.ref b14)]))
  refine own_via (fun _ k => XS.lload X14.here hx rfl (hb hby at_47) rfl k) ?_
  show own_Go p e below s _ _ _ (T14.setTop (mkF m 49 #[.val (.long p0), .second, .val (.long p1), .second, .val (.long p2), .second, .val (.long p3), .second, .val (.int p4), .val (.long v3), .second, .val (.long v6), .second, .val (.ref b7), .unset, .unset, .unset] [(.long v6), (.long v3), (.ref b14), (.ref b14)]))
  obtain ⟨_, _, ⟨T17, L17, k17, n17⟩, -, X17, ⟨Lc17, hQ17, l17, y17, z17⟩, st17⟩ := X14.specialBack hx (y := (⟨"com/example/unalike/unalike/engine/PairTally$Change", "<init>", "(JJ)V"⟩ : MethodName)) rfl hown (mvT hZ (hw _ (List.mem_of_getElem? (i := 3) rfl))) (mvT hZ (hw _ (List.mem_of_getElem? (i := 4) rfl))) (mvT hZ (hw _ (List.mem_of_getElem? (i := 5) rfl))) (by decide) (backOf (W := 1) (rm1 l Z a0 hw [] b14 v3 v6 h14 n0 Z14 A14 F15 F16 g_b14) hZ (hw _ (List.mem_of_getElem? (i := 5) rfl)) (hw _ (List.mem_of_getElem? (i := 2) rfl)) (by decide) (by decide)) (g := (mkF m 49 #[.val (.long p0), .second, .val (.long p1), .second, .val (.long p2), .second, .val (.long p3), .second, .val (.int p4), .val (.long v3), .second, .val (.long v6), .second, .val (.ref b7), .unset, .unset, .unset] [(.long v6), (.long v3), (.ref b14), (.ref b14)])) rfl (by rw [hml]; rfl) (Steps.refl _) (a := b14) (argsL := [(.long v3), (.long v6)]) (rest := [(.ref b14)]) (lenOf pd_2 rfl) rfl (by show 2 * 0 + _ ≤ _; exact Nat.le_of_eq rfl) (hb hby at_49) (fun _ _ => ⟨rfl, e14, (by decide : 2 + 0 ≤ _), (by decide : 4 + 0 ≤ _)⟩)
  dsimp only [Pt.U, Pt.locs, Pt.cells, Pt.slots] at X17 l17 y17 z17 st17 hQ17
  subst l17 y17 z17
  obtain ⟨h17, e17⟩ : ∃ h, T17.heap = h := ⟨_, rfl⟩
  rw [e17] at hQ17
  obtain ⟨rfl, N17q, Kq17, F18, F19, F20⟩ := hQ17
  have Z17 : n0 ≤ h17.size := Nat.le_trans Z14 Kq17.1
  have O17 : Old Z n0 h17 := O14.keep Kq17 (allS g_b14 all0)
  have N17 := Fr.app N10 N17q
  refine own_viaT st17 ?_
  show own_Go p e below s _ _ _ (T17.setTop (mkF m 52 #[.val (.long p0), .second, .val (.long p1), .second, .val (.long p2), .second, .val (.long p3), .second, .val (.int p4), .val (.long v3), .second, .val (.long v6), .second, .val (.ref b7), .unset, .unset, .unset] [(.ref b14)]))
  refine own_via (fun _ k => XS.astore X17.here hx rfl (hb hby at_52) rfl rfl (l' := #[.val (.long p0), .second, .val (.long p1), .second, .val (.long p2), .second, .val (.long p3), .second, .val (.int p4), .val (.long v3), .second, .val (.long v6), .second, .val (.ref b7), .val (.ref b14), .unset, .unset]) rfl k) ?_
  show own_Go p e below s _ _ _ (T17.setTop (mkF m 54 #[.val (.long p0), .second, .val (.long p1), .second, .val (.long p2), .second, .val (.long p3), .second, .val (.int p4), .val (.long v3), .second, .val (.long v6), .second, .val (.ref b7), .val (.ref b14), .unset, .unset] []))
  have st21 : ∀ t, Steps p.tables e below (T17.setTop (mkF m 73 #[.val (.long p0), .second, .val (.long p1), .second, .val (.long p2), .second, .val (.long p3), .second, .val (.int p4), .val (.long v3), .second, .val (.long v6), .second, .val (.ref b7), .val (.ref b14), .unset, .unset] [(.int (if v3 = p0 then (if v6 = p1 then (1 : Int32) else (0 : Int32)) else (0 : Int32)))])) t → Steps p.tables e below (T17.setTop (mkF m 54 #[.val (.long p0), .second, .val (.long p1), .second, .val (.long p2), .second, .val (.long p3), .second, .val (.int p4), .val (.long v3), .second, .val (.long v6), .second, .val (.ref b7), .val (.ref b14), .unset, .unset] [])) t := by
    intro t k
    refine XS.lload X17.here hx rfl (hb hby at_54) rfl ?_
    show Steps p.tables e below (T17.setTop (mkF m 56 #[.val (.long p0), .second, .val (.long p1), .second, .val (.long p2), .second, .val (.long p3), .second, .val (.int p4), .val (.long v3), .second, .val (.long v6), .second, .val (.ref b7), .val (.ref b14), .unset, .unset] [(.long v3)])) t
    refine XS.lloadN X17.here hx rfl (hb hby at_56) rfl ?_
    show Steps p.tables e below (T17.setTop (mkF m 57 #[.val (.long p0), .second, .val (.long p1), .second, .val (.long p2), .second, .val (.long p3), .second, .val (.int p4), .val (.long v3), .second, .val (.long v6), .second, .val (.ref b7), .val (.ref b14), .unset, .unset] [(.long p0), (.long v3)])) t
    refine XS.lcmp X17.here hx rfl (hb hby at_57) rfl ?_
    show Steps p.tables e below (T17.setTop (mkF m 58 #[.val (.long p0), .second, .val (.long p1), .second, .val (.long p2), .second, .val (.long p3), .second, .val (.int p4), .val (.long v3), .second, .val (.long v6), .second, .val (.ref b7), .val (.ref b14), .unset, .unset] [(.int (lcmpW v3 p0))])) t
    by_cases hq22 : v3 = p0
    · refine XS.ifNo X17.here hx rfl (hb hby at_58) rfl (Jvm.Free.XT.ll_ne_f hq22) ?_
      show Steps p.tables e below (T17.setTop (mkF m 61 #[.val (.long p0), .second, .val (.long p1), .second, .val (.long p2), .second, .val (.long p3), .second, .val (.int p4), .val (.long v3), .second, .val (.long v6), .second, .val (.ref b7), .val (.ref b14), .unset, .unset] [])) t
      refine XS.lload X17.here hx rfl (hb hby at_61) rfl ?_
      show Steps p.tables e below (T17.setTop (mkF m 63 #[.val (.long p0), .second, .val (.long p1), .second, .val (.long p2), .second, .val (.long p3), .second, .val (.int p4), .val (.long v3), .second, .val (.long v6), .second, .val (.ref b7), .val (.ref b14), .unset, .unset] [(.long v6)])) t
      refine XS.lloadN X17.here hx rfl (hb hby at_63) rfl ?_
      show Steps p.tables e below (T17.setTop (mkF m 64 #[.val (.long p0), .second, .val (.long p1), .second, .val (.long p2), .second, .val (.long p3), .second, .val (.int p4), .val (.long v3), .second, .val (.long v6), .second, .val (.ref b7), .val (.ref b14), .unset, .unset] [(.long p1), (.long v6)])) t
      refine XS.lcmp X17.here hx rfl (hb hby at_64) rfl ?_
      show Steps p.tables e below (T17.setTop (mkF m 65 #[.val (.long p0), .second, .val (.long p1), .second, .val (.long p2), .second, .val (.long p3), .second, .val (.int p4), .val (.long v3), .second, .val (.long v6), .second, .val (.ref b7), .val (.ref b14), .unset, .unset] [(.int (lcmpW v6 p1))])) t
      by_cases hq23 : v6 = p1
      · refine XS.ifNo X17.here hx rfl (hb hby at_65) rfl (Jvm.Free.XT.ll_ne_f hq23) ?_
        show Steps p.tables e below (T17.setTop (mkF m 68 #[.val (.long p0), .second, .val (.long p1), .second, .val (.long p2), .second, .val (.long p3), .second, .val (.int p4), .val (.long v3), .second, .val (.long v6), .second, .val (.ref b7), .val (.ref b14), .unset, .unset] [])) t
        refine XS.iconst X17.here hx rfl (hb hby at_68) ?_
        show Steps p.tables e below (T17.setTop (mkF m 69 #[.val (.long p0), .second, .val (.long p1), .second, .val (.long p2), .second, .val (.long p3), .second, .val (.int p4), .val (.long v3), .second, .val (.long v6), .second, .val (.ref b7), .val (.ref b14), .unset, .unset] [(.int (1 : Int32))])) t
        refine XS.goto X17.here hx rfl (pc0 := 69) (pc' := 73) rfl (hb hby at_69) (by decide) (by decide) ?_
        show Steps p.tables e below (T17.setTop (mkF m 73 #[.val (.long p0), .second, .val (.long p1), .second, .val (.long p2), .second, .val (.long p3), .second, .val (.int p4), .val (.long v3), .second, .val (.long v6), .second, .val (.ref b7), .val (.ref b14), .unset, .unset] [(.int (1 : Int32))])) t
        simp only [if_pos hq22, if_pos hq23] at k
        exact k
      · refine XS.ifYes X17.here hx rfl (pc0 := 65) (pc' := 72) rfl (hb hby at_65) rfl (Jvm.Free.XT.ll_ne_t hq23) (by decide) (by decide) ?_
        show Steps p.tables e below (T17.setTop (mkF m 72 #[.val (.long p0), .second, .val (.long p1), .second, .val (.long p2), .second, .val (.long p3), .second, .val (.int p4), .val (.long v3), .second, .val (.long v6), .second, .val (.ref b7), .val (.ref b14), .unset, .unset] [])) t
        refine XS.iconst X17.here hx rfl (hb hby at_72) ?_
        show Steps p.tables e below (T17.setTop (mkF m 73 #[.val (.long p0), .second, .val (.long p1), .second, .val (.long p2), .second, .val (.long p3), .second, .val (.int p4), .val (.long v3), .second, .val (.long v6), .second, .val (.ref b7), .val (.ref b14), .unset, .unset] [(.int (0 : Int32))])) t
        simp only [if_pos hq22, if_neg hq23] at k
        exact k
    · refine XS.ifYes X17.here hx rfl (pc0 := 58) (pc' := 72) rfl (hb hby at_58) rfl (Jvm.Free.XT.ll_ne_t hq22) (by decide) (by decide) ?_
      show Steps p.tables e below (T17.setTop (mkF m 72 #[.val (.long p0), .second, .val (.long p1), .second, .val (.long p2), .second, .val (.long p3), .second, .val (.int p4), .val (.long v3), .second, .val (.long v6), .second, .val (.ref b7), .val (.ref b14), .unset, .unset] [])) t
      refine XS.iconst X17.here hx rfl (hb hby at_72) ?_
      show Steps p.tables e below (T17.setTop (mkF m 73 #[.val (.long p0), .second, .val (.long p1), .second, .val (.long p2), .second, .val (.long p3), .second, .val (.int p4), .val (.long v3), .second, .val (.long v6), .second, .val (.ref b7), .val (.ref b14), .unset, .unset] [(.int (0 : Int32))])) t
      simp only [if_neg hq22] at k
      exact k
  refine own_via st21 ?_
  show own_Go p e below s _ _ _ (T17.setTop (mkF m 73 #[.val (.long p0), .second, .val (.long p1), .second, .val (.long p2), .second, .val (.long p3), .second, .val (.int p4), .val (.long v3), .second, .val (.long v6), .second, .val (.ref b7), .val (.ref b14), .unset, .unset] [(.int (if v3 = p0 then (if v6 = p1 then (1 : Int32) else (0 : Int32)) else (0 : Int32)))]))
  refine own_via (fun _ k => XS.istore X17.here hx rfl (hb hby at_73) rfl (l' := #[.val (.long p0), .second, .val (.long p1), .second, .val (.long p2), .second, .val (.long p3), .second, .val (.int p4), .val (.long v3), .second, .val (.long v6), .second, .val (.ref b7), .val (.ref b14), .val (.int (if v3 = p0 then (if v6 = p1 then (1 : Int32) else (0 : Int32)) else (0 : Int32))), .unset]) rfl k) ?_
  show own_Go p e below s _ _ _ (T17.setTop (mkF m 75 #[.val (.long p0), .second, .val (.long p1), .second, .val (.long p2), .second, .val (.long p3), .second, .val (.int p4), .val (.long v3), .second, .val (.long v6), .second, .val (.ref b7), .val (.ref b14), .val (.int (if v3 = p0 then (if v6 = p1 then (1 : Int32) else (0 : Int32)) else (0 : Int32))), .unset] []))
  generalize hv24 : (if v3 = p0 then (if v6 = p1 then (1 : Int32) else (0 : Int32)) else (0 : Int32)) = v24
  show own_Go p e below s _ _ _ (T17.setTop (mkF m 75 #[.val (.long p0), .second, .val (.long p1), .second, .val (.long p2), .second, .val (.long p3), .second, .val (.int p4), .val (.long v3), .second, .val (.long v6), .second, .val (.ref b7), .val (.ref b14), .val (.int v24), .unset] []))
  refine own_via (fun _ k => XS.lloadN X17.here hx rfl (hb hby at_75) rfl k) ?_
  show own_Go p e below s _ _ _ (T17.setTop (mkF m 76 #[.val (.long p0), .second, .val (.long p1), .second, .val (.long p2), .second, .val (.long p3), .second, .val (.int p4), .val (.long v3), .second, .val (.long v6), .second, .val (.ref b7), .val (.ref b14), .val (.int v24), .unset] [(.long p0)]))
  obtain ⟨_, _, ⟨T25, L25, k25, n25⟩, -, X25, ⟨Lc25, hQ25, l25, y25, z25⟩, st25⟩ := Jvm.LawKit.callS X17 hx (y := (⟨"java/lang/Long", "valueOf", "(J)Ljava/lang/Long;"⟩ : MethodName)) hown (mvT hZ (hw _ (List.mem_of_getElem? (i := 13) rfl))) (mvT hZ (hw _ (List.mem_of_getElem? (i := 14) rfl))) (mvT hZ (hw _ (List.mem_of_getElem? (i := 15) rfl))) (mvT hZ (hw _ (List.mem_of_getElem? (i := 16) rfl))) (by decide) (backOf (W := 0) (rm3 l Z a0 hw [] p0 ca cl_ h17 n0 Z17 O17 S_cache hp1) hZ (hw _ (List.mem_of_getElem? (i := 16) rfl)) (hw _ (List.mem_of_getElem? (i := 15) rfl)) (by decide) (by decide)) (g := (mkF m 76 #[.val (.long p0), .second, .val (.long p1), .second, .val (.long p2), .second, .val (.long p3), .second, .val (.int p4), .val (.long v3), .second, .val (.long v6), .second, .val (.ref b7), .val (.ref b14), .val (.int v24), .unset] [(.long p0)])) rfl (by rw [hml]; rfl) (argsL := [(.long p0)]) (rest := []) (lenOf pd_3 rfl) rfl (by show 2 * 0 + _ ≤ _; exact Nat.le_of_eq rfl) (hb hby at_76) (fun _ _ => ⟨rfl, e17, (by decide : 2 + 1 ≤ _), (by decide : 4 + 1 ≤ _)⟩)
  dsimp only [Pt.U, Pt.locs, Pt.cells, Pt.slots] at X25 l25 y25 z25 st25 hQ25
  subst l25 y25 z25
  obtain ⟨h25, e25⟩ : ∃ h, T25.heap = h := ⟨_, rfl⟩
  rw [e25] at hQ25
  obtain ⟨r_25, rfl, N25q, Kq25, F26⟩ := hQ25
  have Z25 : n0 ≤ h25.size := Nat.le_trans Z17 Kq25.1
  have O25 : Old Z n0 h25 := O17.keep Kq25 all0
  have N25 := Fr.app N17 N25q
  refine own_via st25 ?_
  show own_Go p e below s _ _ _ (T25.setTop (mkF m 79 #[.val (.long p0), .second, .val (.long p1), .second, .val (.long p2), .second, .val (.long p3), .second, .val (.int p4), .val (.long v3), .second, .val (.long v6), .second, .val (.ref b7), .val (.ref b14), .val (.int v24), .unset] [(.ref r_25)]))
  refine own_via (fun _ k => XS.astore X25.here hx rfl (hb hby at_79) rfl rfl (l' := #[.val (.long p0), .second, .val (.long p1), .second, .val (.long p2), .second, .val (.long p3), .second, .val (.int p4), .val (.long v3), .second, .val (.long v6), .second, .val (.ref b7), .val (.ref b14), .val (.int v24), .val (.ref r_25)]) rfl k) ?_
  show own_Go p e below s _ _ _ (T25.setTop (mkF m 81 #[.val (.long p0), .second, .val (.long p1), .second, .val (.long p2), .second, .val (.long p3), .second, .val (.int p4), .val (.long v3), .second, .val (.long v6), .second, .val (.ref b7), .val (.ref b14), .val (.int v24), .val (.ref r_25)] []))
  refine own_via (fun _ k => XS.aload X25.here hx rfl (hb hby at_81) rfl rfl k) ?_
  show own_Go p e below s _ _ _ (T25.setTop (mkF m 83 #[.val (.long p0), .second, .val (.long p1), .second, .val (.long p2), .second, .val (.long p3), .second, .val (.int p4), .val (.long v3), .second, .val (.long v6), .second, .val (.ref b7), .val (.ref b14), .val (.int v24), .val (.ref r_25)] [(.ref b7)]))
  refine own_via (fun _ k => XS.aload X25.here hx rfl (hb hby at_83) rfl rfl k) ?_
  show own_Go p e below s _ _ _ (T25.setTop (mkF m 85 #[.val (.long p0), .second, .val (.long p1), .second, .val (.long p2), .second, .val (.long p3), .second, .val (.int p4), .val (.long v3), .second, .val (.long v6), .second, .val (.ref b7), .val (.ref b14), .val (.int v24), .val (.ref r_25)] [(.ref b14), (.ref b7)]))
  have F28 := (F18.keep Kq25)
  have F29 := (((F12.ext E14).keep Kq17 (ninS ne_b7_b14 nin0)).keep Kq25 nin0)
  have F30 := (((F13.ext E14).keep Kq17 (ninS ne_b7_b14 nin0)).keep Kq25 nin0)
  have F31 := (F19.keep Kq25 nin0)
  have F32 := (F20.keep Kq25 nin0)
  have F33 := (((F11.ext E14).keep Kq17).keep Kq25)
  obtain ⟨cq27, kq27, qa27, qb27, qc27⟩ := isOf hZ e25 F33
  obtain ⟨_, _, ⟨T27, L27, k27, n27⟩, -, X27, ⟨Lc27, hQ27, l27, y27, z27⟩, st27⟩ := X25.virtualBack hx (y := (⟨"com/example/unalike/unalike/engine/PairTally$Change", "equals", "(Ljava/lang/Object;)Z"⟩ : MethodName)) (z := (⟨"com/example/unalike/unalike/engine/PairTally$Change", "equals", "(Ljava/lang/Object;)Z"⟩ : MethodName)) hown (mvT hZ (hw _ (List.mem_of_getElem? (i := 21) rfl))) (mvT hZ (hw _ (List.mem_of_getElem? (i := 22) rfl))) (notFace_of_selects (args := #[]) (mvT hZ (hw _ (List.mem_of_getElem? (i := 24) rfl)))) (mvT hZ (hw _ (List.mem_of_getElem? (i := 24) rfl))) (mvT hZ (hw _ (List.mem_of_getElem? (i := 23) rfl))) (by decide) (backOf (W := 0) (rmeC l Z a0 hw [] b7 b14 p0 p1 v3 v6 h25 n0 Z25 F28 F29 F30 F31 F32) hZ (hw _ (List.mem_of_getElem? (i := 25) rfl)) (hw _ (List.mem_of_getElem? (i := 2) rfl)) (by decide) (by decide)) qa27 qc27 (g := (mkF m 85 #[.val (.long p0), .second, .val (.long p1), .second, .val (.long p2), .second, .val (.long p3), .second, .val (.int p4), .val (.long v3), .second, .val (.long v6), .second, .val (.ref b7), .val (.ref b14), .val (.int v24), .val (.ref r_25)] [(.ref b14), (.ref b7)])) rfl (by rw [hml]; rfl) (Steps.refl _) (argsL := [(.ref b14)]) (rest := []) (lenOf pd_4 rfl) rfl (by show 2 * 0 + _ ≤ _; exact Nat.le_of_eq rfl) (hb hby at_85) (fun _ _ => ⟨rfl, e25, (by decide : 3 + 0 ≤ _), (by decide : 5 + 0 ≤ _)⟩)
  dsimp only [Pt.U, Pt.locs, Pt.cells, Pt.slots] at X27 l27 y27 z27 st27 hQ27
  subst l27 y27 z27
  obtain ⟨rfl, N27q, e27⟩ := hQ27
  have N27 := Fr.app N25 N27q
  refine own_viaT st27 ?_
  show own_Go p e below s _ _ _ (T27.setTop (mkF m 88 #[.val (.long p0), .second, .val (.long p1), .second, .val (.long p2), .second, .val (.long p3), .second, .val (.int p4), .val (.long v3), .second, .val (.long v6), .second, .val (.ref b7), .val (.ref b14), .val (.int v24), .val (.ref r_25)] [(.int (own_f p0 p1 v3 v6))]))
  refine own_via (fun _ k => XS.iload X27.here hx rfl (hb hby at_88) rfl k) ?_
  show own_Go p e below s _ _ _ (T27.setTop (mkF m 90 #[.val (.long p0), .second, .val (.long p1), .second, .val (.long p2), .second, .val (.long p3), .second, .val (.int p4), .val (.long v3), .second, .val (.long v6), .second, .val (.ref b7), .val (.ref b14), .val (.int v24), .val (.ref r_25)] [(.int v24), (.int (own_f p0 p1 v3 v6))]))
  have hc34 : (own_f p0 p1 v3 v6) = v24 := own_p1 hv24
  refine own_via (fun _ k => XS.icmpNo X27.here hx rfl (hb hby at_90) rfl (Jvm.Free.XT.ii_ne_f hc34) k) ?_
  show own_Go p e below s _ _ _ (T27.setTop (mkF m 93 #[.val (.long p0), .second, .val (.long p1), .second, .val (.long p2), .second, .val (.long p3), .second, .val (.int p4), .val (.long v3), .second, .val (.long v6), .second, .val (.ref b7), .val (.ref b14), .val (.int v24), .val (.ref r_25)] []))
  refine own_via (fun _ k => XS.aload X27.here hx rfl (hb hby at_93) rfl rfl k) ?_
  show own_Go p e below s _ _ _ (T27.setTop (mkF m 95 #[.val (.long p0), .second, .val (.long p1), .second, .val (.long p2), .second, .val (.long p3), .second, .val (.int p4), .val (.long v3), .second, .val (.long v6), .second, .val (.ref b7), .val (.ref b14), .val (.int v24), .val (.ref r_25)] [(.ref b14)]))
  refine own_via (fun _ k => XS.aload X27.here hx rfl (hb hby at_95) rfl rfl k) ?_
  show own_Go p e below s _ _ _ (T27.setTop (mkF m 97 #[.val (.long p0), .second, .val (.long p1), .second, .val (.long p2), .second, .val (.long p3), .second, .val (.int p4), .val (.long v3), .second, .val (.long v6), .second, .val (.ref b7), .val (.ref b14), .val (.int v24), .val (.ref r_25)] [(.ref b7), (.ref b14)]))
  obtain ⟨cq35, kq35, qa35, qb35, qc35⟩ := isOf hZ e27 F28
  obtain ⟨_, _, ⟨T35, L35, k35, n35⟩, -, X35, ⟨Lc35, hQ35, l35, y35, z35⟩, st35⟩ := X27.virtualBack hx (y := (⟨"com/example/unalike/unalike/engine/PairTally$Change", "equals", "(Ljava/lang/Object;)Z"⟩ : MethodName)) (z := (⟨"com/example/unalike/unalike/engine/PairTally$Change", "equals", "(Ljava/lang/Object;)Z"⟩ : MethodName)) hown (mvT hZ (hw _ (List.mem_of_getElem? (i := 21) rfl))) (mvT hZ (hw _ (List.mem_of_getElem? (i := 22) rfl))) (notFace_of_selects (args := #[]) (mvT hZ (hw _ (List.mem_of_getElem? (i := 24) rfl)))) (mvT hZ (hw _ (List.mem_of_getElem? (i := 24) rfl))) (mvT hZ (hw _ (List.mem_of_getElem? (i := 23) rfl))) (by decide) (backOf (W := 0) (rmeC l Z a0 hw [] b14 b7 v3 v6 p0 p1 h25 n0 Z25 F33 F31 F32 F29 F30) hZ (hw _ (List.mem_of_getElem? (i := 25) rfl)) (hw _ (List.mem_of_getElem? (i := 2) rfl)) (by decide) (by decide)) qa35 qc35 (g := (mkF m 97 #[.val (.long p0), .second, .val (.long p1), .second, .val (.long p2), .second, .val (.long p3), .second, .val (.int p4), .val (.long v3), .second, .val (.long v6), .second, .val (.ref b7), .val (.ref b14), .val (.int v24), .val (.ref r_25)] [(.ref b7), (.ref b14)])) rfl (by rw [hml]; rfl) (Steps.refl _) (argsL := [(.ref b7)]) (rest := []) (lenOf pd_4 rfl) rfl (by show 2 * 0 + _ ≤ _; exact Nat.le_of_eq rfl) (hb hby at_97) (fun _ _ => ⟨rfl, e27, (by decide : 3 + 0 ≤ _), (by decide : 5 + 0 ≤ _)⟩)
  dsimp only [Pt.U, Pt.locs, Pt.cells, Pt.slots] at X35 l35 y35 z35 st35 hQ35
  subst l35 y35 z35
  obtain ⟨rfl, N35q, e35⟩ := hQ35
  have N35 := Fr.app N27 N35q
  refine own_viaT st35 ?_
  show own_Go p e below s _ _ _ (T35.setTop (mkF m 100 #[.val (.long p0), .second, .val (.long p1), .second, .val (.long p2), .second, .val (.long p3), .second, .val (.int p4), .val (.long v3), .second, .val (.long v6), .second, .val (.ref b7), .val (.ref b14), .val (.int v24), .val (.ref r_25)] [(.int (own_f v3 v6 p0 p1))]))
  refine own_via (fun _ k => XS.iload X35.here hx rfl (hb hby at_100) rfl k) ?_
  show own_Go p e below s _ _ _ (T35.setTop (mkF m 102 #[.val (.long p0), .second, .val (.long p1), .second, .val (.long p2), .second, .val (.long p3), .second, .val (.int p4), .val (.long v3), .second, .val (.long v6), .second, .val (.ref b7), .val (.ref b14), .val (.int v24), .val (.ref r_25)] [(.int v24), (.int (own_f v3 v6 p0 p1))]))
  have hc36 : (own_f v3 v6 p0 p1) = v24 := own_p2 hv24
  refine own_via (fun _ k => XS.icmpNo X35.here hx rfl (hb hby at_102) rfl (Jvm.Free.XT.ii_ne_f hc36) k) ?_
  show own_Go p e below s _ _ _ (T35.setTop (mkF m 105 #[.val (.long p0), .second, .val (.long p1), .second, .val (.long p2), .second, .val (.long p3), .second, .val (.int p4), .val (.long v3), .second, .val (.long v6), .second, .val (.ref b7), .val (.ref b14), .val (.int v24), .val (.ref r_25)] []))
  refine own_via (fun _ k => XS.aload X35.here hx rfl (hb hby at_105) rfl rfl k) ?_
  show own_Go p e below s _ _ _ (T35.setTop (mkF m 107 #[.val (.long p0), .second, .val (.long p1), .second, .val (.long p2), .second, .val (.long p3), .second, .val (.int p4), .val (.long v3), .second, .val (.long v6), .second, .val (.ref b7), .val (.ref b14), .val (.int v24), .val (.ref r_25)] [(.ref b7)]))
  refine own_via (fun _ k => XS.aload X35.here hx rfl (hb hby at_107) rfl rfl k) ?_
  show own_Go p e below s _ _ _ (T35.setTop (mkF m 109 #[.val (.long p0), .second, .val (.long p1), .second, .val (.long p2), .second, .val (.long p3), .second, .val (.int p4), .val (.long v3), .second, .val (.long v6), .second, .val (.ref b7), .val (.ref b14), .val (.int v24), .val (.ref r_25)] [(.ref b7), (.ref b7)]))
  obtain ⟨cq37, kq37, qa37, qb37, qc37⟩ := isOf hZ e35 F33
  obtain ⟨_, _, ⟨T37, L37, k37, n37⟩, -, X37, ⟨Lc37, hQ37, l37, y37, z37⟩, st37⟩ := X35.virtualBack hx (y := (⟨"com/example/unalike/unalike/engine/PairTally$Change", "equals", "(Ljava/lang/Object;)Z"⟩ : MethodName)) (z := (⟨"com/example/unalike/unalike/engine/PairTally$Change", "equals", "(Ljava/lang/Object;)Z"⟩ : MethodName)) hown (mvT hZ (hw _ (List.mem_of_getElem? (i := 21) rfl))) (mvT hZ (hw _ (List.mem_of_getElem? (i := 22) rfl))) (notFace_of_selects (args := #[]) (mvT hZ (hw _ (List.mem_of_getElem? (i := 24) rfl)))) (mvT hZ (hw _ (List.mem_of_getElem? (i := 24) rfl))) (mvT hZ (hw _ (List.mem_of_getElem? (i := 23) rfl))) (by decide) (backOf (W := 0) (rmeC l Z a0 hw [] b7 b7 p0 p1 p0 p1 h25 n0 Z25 F33 F29 F30 F29 F30) hZ (hw _ (List.mem_of_getElem? (i := 25) rfl)) (hw _ (List.mem_of_getElem? (i := 2) rfl)) (by decide) (by decide)) qa37 qc37 (g := (mkF m 109 #[.val (.long p0), .second, .val (.long p1), .second, .val (.long p2), .second, .val (.long p3), .second, .val (.int p4), .val (.long v3), .second, .val (.long v6), .second, .val (.ref b7), .val (.ref b14), .val (.int v24), .val (.ref r_25)] [(.ref b7), (.ref b7)])) rfl (by rw [hml]; rfl) (Steps.refl _) (argsL := [(.ref b7)]) (rest := []) (lenOf pd_4 rfl) rfl (by show 2 * 0 + _ ≤ _; exact Nat.le_of_eq rfl) (hb hby at_109) (fun _ _ => ⟨rfl, e35, (by decide : 3 + 0 ≤ _), (by decide : 5 + 0 ≤ _)⟩)
  dsimp only [Pt.U, Pt.locs, Pt.cells, Pt.slots] at X37 l37 y37 z37 st37 hQ37
  subst l37 y37 z37
  obtain ⟨rfl, N37q, e37⟩ := hQ37
  have N37 := Fr.app N35 N37q
  refine own_viaT st37 ?_
  show own_Go p e below s _ _ _ (T37.setTop (mkF m 112 #[.val (.long p0), .second, .val (.long p1), .second, .val (.long p2), .second, .val (.long p3), .second, .val (.int p4), .val (.long v3), .second, .val (.long v6), .second, .val (.ref b7), .val (.ref b14), .val (.int v24), .val (.ref r_25)] [(.int (own_f p0 p1 p0 p1))]))
  have hc38 : ¬ ((own_f p0 p1 p0 p1) = (0 : Int32)) := own_p3
  refine own_via (fun _ k => XS.ifNo X37.here hx rfl (hb hby at_112) rfl (Jvm.Free.XT.i0_eq_f hc38) k) ?_
  show own_Go p e below s _ _ _ (T37.setTop (mkF m 115 #[.val (.long p0), .second, .val (.long p1), .second, .val (.long p2), .second, .val (.long p3), .second, .val (.int p4), .val (.long v3), .second, .val (.long v6), .second, .val (.ref b7), .val (.ref b14), .val (.int v24), .val (.ref r_25)] []))
  refine own_via (fun _ k => XS.aload X37.here hx rfl (hb hby at_115) rfl rfl k) ?_
  show own_Go p e below s _ _ _ (T37.setTop (mkF m 117 #[.val (.long p0), .second, .val (.long p1), .second, .val (.long p2), .second, .val (.long p3), .second, .val (.int p4), .val (.long v3), .second, .val (.long v6), .second, .val (.ref b7), .val (.ref b14), .val (.int v24), .val (.ref r_25)] [(.ref b7)]))
  refine own_via (fun _ k => XS.aconstNull X37.here hx rfl (hb hby at_117) k) ?_
  show own_Go p e below s _ _ _ (T37.setTop (mkF m 118 #[.val (.long p0), .second, .val (.long p1), .second, .val (.long p2), .second, .val (.long p3), .second, .val (.int p4), .val (.long v3), .second, .val (.long v6), .second, .val (.ref b7), .val (.ref b14), .val (.int v24), .val (.ref r_25)] [.null, (.ref b7)]))
  obtain ⟨cq39, kq39, qa39, qb39, qc39⟩ := isOf hZ e37 F33
  obtain ⟨_, _, ⟨T39, L39, k39, n39⟩, -, X39, ⟨Lc39, hQ39, l39, y39, z39⟩, st39⟩ := X37.virtualBack hx (y := (⟨"com/example/unalike/unalike/engine/PairTally$Change", "equals", "(Ljava/lang/Object;)Z"⟩ : MethodName)) (z := (⟨"com/example/unalike/unalike/engine/PairTally$Change", "equals", "(Ljava/lang/Object;)Z"⟩ : MethodName)) hown (mvT hZ (hw _ (List.mem_of_getElem? (i := 21) rfl))) (mvT hZ (hw _ (List.mem_of_getElem? (i := 22) rfl))) (notFace_of_selects (args := #[]) (mvT hZ (hw _ (List.mem_of_getElem? (i := 24) rfl)))) (mvT hZ (hw _ (List.mem_of_getElem? (i := 24) rfl))) (mvT hZ (hw _ (List.mem_of_getElem? (i := 23) rfl))) (by decide) (backOf (W := 0) (rmeN l Z a0 hw [] b7 h25 n0 Z25 ) hZ (hw _ (List.mem_of_getElem? (i := 25) rfl)) (hw _ (List.mem_of_getElem? (i := 2) rfl)) (by decide) (by decide)) qa39 qc39 (g := (mkF m 118 #[.val (.long p0), .second, .val (.long p1), .second, .val (.long p2), .second, .val (.long p3), .second, .val (.int p4), .val (.long v3), .second, .val (.long v6), .second, .val (.ref b7), .val (.ref b14), .val (.int v24), .val (.ref r_25)] [.null, (.ref b7)])) rfl (by rw [hml]; rfl) (Steps.refl _) (argsL := [.null]) (rest := []) (lenOf pd_4 rfl) rfl (by show 2 * 0 + _ ≤ _; exact Nat.le_of_eq rfl) (hb hby at_118) (fun _ _ => ⟨rfl, e37, (by decide : 3 + 0 ≤ _), (by decide : 5 + 0 ≤ _)⟩)
  dsimp only [Pt.U, Pt.locs, Pt.cells, Pt.slots] at X39 l39 y39 z39 st39 hQ39
  subst l39 y39 z39
  obtain ⟨rfl, N39q, e39⟩ := hQ39
  have N39 := Fr.app N37 N39q
  refine own_viaT st39 ?_
  show own_Go p e below s _ _ _ (T39.setTop (mkF m 121 #[.val (.long p0), .second, .val (.long p1), .second, .val (.long p2), .second, .val (.long p3), .second, .val (.int p4), .val (.long v3), .second, .val (.long v6), .second, .val (.ref b7), .val (.ref b14), .val (.int v24), .val (.ref r_25)] [(.int (0 : Int32))]))
  refine own_via (fun _ k => XS.ifNo X39.here hx rfl (hb hby at_121) rfl (Jvm.Free.XT.i0_ne_f (by decide)) k) ?_
  show own_Go p e below s _ _ _ (T39.setTop (mkF m 124 #[.val (.long p0), .second, .val (.long p1), .second, .val (.long p2), .second, .val (.long p3), .second, .val (.int p4), .val (.long v3), .second, .val (.long v6), .second, .val (.ref b7), .val (.ref b14), .val (.int v24), .val (.ref r_25)] []))
  refine own_via (fun _ k => XS.aload X39.here hx rfl (hb hby at_124) rfl rfl k) ?_
  show own_Go p e below s _ _ _ (T39.setTop (mkF m 126 #[.val (.long p0), .second, .val (.long p1), .second, .val (.long p2), .second, .val (.long p3), .second, .val (.int p4), .val (.long v3), .second, .val (.long v6), .second, .val (.ref b7), .val (.ref b14), .val (.int v24), .val (.ref r_25)] [(.ref b7)]))
  refine own_via (fun _ k => XS.aload X39.here hx rfl (hb hby at_126) rfl rfl k) ?_
  show own_Go p e below s _ _ _ (T39.setTop (mkF m 128 #[.val (.long p0), .second, .val (.long p1), .second, .val (.long p2), .second, .val (.long p3), .second, .val (.int p4), .val (.long v3), .second, .val (.long v6), .second, .val (.ref b7), .val (.ref b14), .val (.int v24), .val (.ref r_25)] [(.ref r_25), (.ref b7)]))
  obtain ⟨cq40, kq40, qa40, qb40, qc40⟩ := isOf hZ e39 F33
  obtain ⟨_, _, ⟨T40, L40, k40, n40⟩, -, X40, ⟨Lc40, hQ40, l40, y40, z40⟩, st40⟩ := X39.virtualBack hx (y := (⟨"com/example/unalike/unalike/engine/PairTally$Change", "equals", "(Ljava/lang/Object;)Z"⟩ : MethodName)) (z := (⟨"com/example/unalike/unalike/engine/PairTally$Change", "equals", "(Ljava/lang/Object;)Z"⟩ : MethodName)) hown (mvT hZ (hw _ (List.mem_of_getElem? (i := 21) rfl))) (mvT hZ (hw _ (List.mem_of_getElem? (i := 22) rfl))) (notFace_of_selects (args := #[]) (mvT hZ (hw _ (List.mem_of_getElem? (i := 24) rfl)))) (mvT hZ (hw _ (List.mem_of_getElem? (i := 24) rfl))) (mvT hZ (hw _ (List.mem_of_getElem? (i := 23) rfl))) (by decide) (backOf (W := 0) (rmeL l Z a0 hw [] b7 r_25 h25 n0 Z25 F26) hZ (hw _ (List.mem_of_getElem? (i := 25) rfl)) (hw _ (List.mem_of_getElem? (i := 2) rfl)) (by decide) (by decide)) qa40 qc40 (g := (mkF m 128 #[.val (.long p0), .second, .val (.long p1), .second, .val (.long p2), .second, .val (.long p3), .second, .val (.int p4), .val (.long v3), .second, .val (.long v6), .second, .val (.ref b7), .val (.ref b14), .val (.int v24), .val (.ref r_25)] [(.ref r_25), (.ref b7)])) rfl (by rw [hml]; rfl) (Steps.refl _) (argsL := [(.ref r_25)]) (rest := []) (lenOf pd_4 rfl) rfl (by show 2 * 0 + _ ≤ _; exact Nat.le_of_eq rfl) (hb hby at_128) (fun _ _ => ⟨rfl, e39, (by decide : 3 + 0 ≤ _), (by decide : 5 + 0 ≤ _)⟩)
  dsimp only [Pt.U, Pt.locs, Pt.cells, Pt.slots] at X40 l40 y40 z40 st40 hQ40
  subst l40 y40 z40
  obtain ⟨rfl, N40q, e40⟩ := hQ40
  have N40 := Fr.app N39 N40q
  refine own_viaT st40 ?_
  show own_Go p e below s _ _ _ (T40.setTop (mkF m 131 #[.val (.long p0), .second, .val (.long p1), .second, .val (.long p2), .second, .val (.long p3), .second, .val (.int p4), .val (.long v3), .second, .val (.long v6), .second, .val (.ref b7), .val (.ref b14), .val (.int v24), .val (.ref r_25)] [(.int (0 : Int32))]))
  refine own_via (fun _ k => XS.ifNo X40.here hx rfl (hb hby at_131) rfl (Jvm.Free.XT.i0_ne_f (by decide)) k) ?_
  show own_Go p e below s _ _ _ (T40.setTop (mkF m 134 #[.val (.long p0), .second, .val (.long p1), .second, .val (.long p2), .second, .val (.long p3), .second, .val (.int p4), .val (.long v3), .second, .val (.long v6), .second, .val (.ref b7), .val (.ref b14), .val (.int v24), .val (.ref r_25)] []))
  refine own_via (fun _ k => XS.iconst X40.here hx rfl (hb hby at_134) k) ?_
  show own_Go p e below s _ _ _ (T40.setTop (mkF m 135 #[.val (.long p0), .second, .val (.long p1), .second, .val (.long p2), .second, .val (.long p3), .second, .val (.int p4), .val (.long v3), .second, .val (.long v6), .second, .val (.ref b7), .val (.ref b14), .val (.int v24), .val (.ref r_25)] [(.int (1 : Int32))]))
  refine own_via (fun _ k => XS.goto X40.here hx rfl (pc0 := 135) (pc' := 139) rfl (hb hby at_135) (by decide) (by decide) k) ?_
  show own_Go p e below s _ _ _ (T40.setTop (mkF m 139 #[.val (.long p0), .second, .val (.long p1), .second, .val (.long p2), .second, .val (.long p3), .second, .val (.int p4), .val (.long v3), .second, .val (.long v6), .second, .val (.ref b7), .val (.ref b14), .val (.int v24), .val (.ref r_25)] [(.int (1 : Int32))]))
  exact own_goN X40 hx (t := .boolean) Bd.returns (by simp) (hb hby at_139) Bd.notSynchronized (by decide) (by decide) (by rw [e40]; exact ⟨rfl, N40⟩)
set_option maxRecDepth 65536 in
set_option maxHeartbeats 40000000 in
theorem comes_1 {Post : Tables → Env → Array Value → State → Outcome → State → Prop} (hpost : ∀ tb e args s v u, (limb_1_1.after args s (.returned v) u = true ∧ limb_1_2.after args s (.returned v) u = true ∧ True) → FrameEnd s (.returned v) u (Jvm.fieldLocs frame_1_writes args s ++ Jvm.arrayLocs frame_1_arrays args s ++ Jvm.staticLocs frame_1_statics s) 16 128 → Post tb e args s (.returned v) u) :
    ArmFor flags0 classFile x code maxLocals ret World_1 tables_1 room_1 Calls_1 rest_1 Pre_1 Post := by
  intro l hfl _ _ p e ha hc hk s m args below hf hA hF happ hP
  obtain ⟨hcalls, hrest, hpre⟩ := hP
  obtain ⟨-, -, -, hnamed, -, -, -, hat⟩ := (Spec.applies_iff hf).mp happ
  obtain ⟨hg, hn⟩ := and_e (Cond.before_iff.mp (show (Jvm.Cond.and given_1 narrow_1).before args s = true from hpre))
  obtain ⟨g1, g2⟩ := and_e hg
  obtain ⟨g3, g4⟩ := and_e g2
  obtain ⟨g5, g6⟩ := and_e g4
  obtain ⟨g7, g8⟩ := and_e g6
  obtain ⟨g9, g10⟩ := and_e g8
  obtain ⟨w0, w1, w2, w3, w4, rfl⟩ : ∃ w0 w1 w2 w3 w4 : Value, args = #[w0, w1, w2, w3, w4] := by
    have hs : args.size = 5 := by simpa [Cond.value, given_1] using g1
    obtain ⟨L⟩ := args
    match L, hs with
    | [w0, w1, w2, w3, w4], _ => exact ⟨w0, w1, w2, w3, w4, rfl⟩
  have hw := fun d (hd : d ∈ tables_1) => atoms_spec (ws := Jvm.Cond.code x code maxLocals ret :: tables_1) hat d (List.mem_cons_of_mem _ hd)
  have hfit : Fit s := fun {y c} hc i hi => by
    obtain ⟨ha, rfl⟩ := Array.getElem?_eq_some_iff.mp hc
    have q := List.all_eq_true.mp ((Array.all_eq_true_iff_forall_mem.mp hF) _ (Array.getElem_mem ha)) i (List.mem_range.mpr hi)
    simpa [Array.getElem?_eq_getElem hi] using q
  obtain ⟨hsets, hown0⟩ := atoms_of _ (rest_1_c_eq ▸ (show rest_1_c.before _ s = true from hrest))
  have hr0 := Cond.before_iff.mp hown0
  obtain ⟨i0, ei0⟩ := isL_v g3
  obtain rfl : w0 = (.long i0) := Option.some.inj ei0
  obtain ⟨i1, ei1⟩ := isL_v g5
  obtain rfl : w1 = (.long i1) := Option.some.inj ei1
  obtain ⟨i2, ei2⟩ := isL_v g7
  obtain rfl : w2 = (.long i2) := Option.some.inj ei2
  obtain ⟨i3, ei3⟩ := isL_v g9
  obtain rfl : w3 = (.long i3) := Option.some.inj ei3
  obtain ⟨i4, ei4⟩ := is_v g10
  obtain rfl : w4 = (.int i4) := Option.some.inj ei4
  obtain ⟨ca, ec⟩ := arr_v (Cond.before_iff.mp (hsets _ (List.mem_of_getElem? (i := 2) rfl)))
  obtain ⟨cl_, Ac⟩ := Arr.start ec (Cond.before_iff.mp (hsets _ (List.mem_of_getElem? (i := 2) rfl)))
  have S_C : Sta s s.heap "java/lang/Long$LongCache" "cache" "[Ljava/lang/Long;" (.ref ca) := Sta.start ec (Or.inl (hsets _ (List.mem_of_getElem? (i := 1) rfl)))
  have el := eqv_i (Term.int_eval 256) (Cond.before_iff.mp (hsets _ (List.mem_of_getElem? (i := 4) rfl)))
  obtain ⟨b1, c1, f1, f2, f3, f4⟩ := own_length el
  cases ec.symm.trans f1
  cases (Ac.fin (Vm.Alike.refl _)).symm.trans f2
  have hB : Bxs s ca cl_ "java/lang/Long" "J" 256 (fun j => .long (j - 128).toInt64) := Bxs.start (fun _ => ec) Ac f3 (Value.int.inj f4).symm (by decide) (Cond.before_iff.mp (hsets _ (List.mem_of_getElem? (i := 5) rfl))) (fun X j nn u => eqv_l (i2l_at (by simp [Term.eval, (back32 nn).1])) u)
  obtain ⟨n, o, h1, h2, h3, _, L, rfl, ⟨rfl, N⟩, hq⟩ := rm0 l s _ hw tables_1 i0 i1 i2 i3 i4 ca cl_ s.heap s.heap.size (Nat.le_refl _) (Old.start s) S_C hB p e ha hc hk s m _ below hf ((Spec.applies_iff_loose hf).mp happ).1 ⟨rfl, State.Warmed39.refl s, rfl⟩ trivial
  refine ⟨n, _, h1, h2, h3, hpost _ _ _ _ _ _ ⟨Cond.after_iff.mpr rfl, Cond.after_iff.mpr (eq_i res_at (Term.int_eval (1)) rfl), trivial⟩ ⟨hq.1, hq.2.1, (hq.2.2.sift fun y hy => Or.inr (N y hy)).mono (by decide) (by decide)⟩⟩
theorem main_1_1 : Claimed_1_1 := comes_1 fun _ _ _ _ _ _ h hF => ⟨h.1, hF⟩
theorem main_1_2 : Claimed_1_2 := comes_1 fun _ _ _ _ _ _ h hF => ⟨h.2.1, hF⟩
end Jvm.Pilot.@@N@@
namespace Jvm.Pilot.@@N@@
open Jvm Jvm.ClassFile Sem Op Lib Jvm.Free Jvm.Stand Jvm.Pilot.@@N@@.Jvm.D
/-! MADE BY PROGRAM (witnessworld.py) out of the Statement's table words and the real class files: 16 classes; the members and pool entries that the words name. The judged class is class 1, her method 1. -/
namespace start1
open Jvm.ClassFile
def u (s : String) : CpInfo := .utf8 (stringToUtf16 s)
/-- a pool by its gaps: so many unusable entries, then the entry; so many at the end -/
def gap : Nat → List CpInfo → List CpInfo
  | 0, r => r
  | n + 1, r => .unusable :: gap n r
def poolList (es : List (Nat × CpInfo)) (last : Nat) : List CpInfo := es.foldr (fun e r => gap e.1 (e.2 :: r)) (gap last [])
def pool (es : List (Nat × CpInfo)) (last : Nat) : Array CpInfo := ⟨poolList es last⟩
def fileOf (pool : Array CpInfo) (this : Nat) (attrs : Array Attribute := #[]) (ms : Array MethodInfo := #[]) (fl : Nat := 33) (sup : Nat := 0) (ifs : Array Nat := #[]) (fds : Array FieldInfo := #[]) : ClassFile where
  minorVersion := 0
  majorVersion := 65
  constantPool := pool
  accessFlags := fl
  thisClass := this
  superClass := sup
  interfaces := ifs
  fields := fds
  methods := ms
  attributes := attrs
def plain (name : String) (sup : Option ClassId) : Class where
  name := name
  kind := .ordinary
  loader := none
  accessFlags := 33
  super := sup
  interfaces := #[]
  cf := none
  fields := #[]
  methods := #[]
  instanceTypes := #[]
  staticTypes := #[]
  resolved := #[]
  callSites := []
  init := .initialized
  statics := none
  mirror := none

def pool0 : Array CpInfo := pool [(5, u "<init>"), (0, u "()V"), (1, .class_ 10), (1, u "java/lang/Object")] 113

def k0c0 : Code := { maxStack := 0, maxLocals := 1, code := object_method_1_code, exceptionTable := #[], attributes := #[] }
def k0m0 : Method := { name := "<init>", desc := "()V", sig := { parameters := [], returnType := none }, accessFlags := 1, code := some k0c0 }
/-- java/lang/Object -/
def k0 : Class := { plain "java/lang/Object" none with
  accessFlags := 33
  interfaces := #[]
  cf := some (fileOf pool0 8 #[] #[{ accessFlags := 1, nameIndex := 5, descriptorIndex := 6, attributes := #[] }] 33 0 #[] #[])
  fields := #[]
  methods := #[k0m0]
  instanceTypes := #[]
  staticTypes := #[]
  resolved := Array.replicate 124 none
  statics := none }

def pool1 : Array CpInfo := pool [(2, .class_ 4), (1, u "java/lang/Object"), (0, u "<init>"), (0, u "()V"), (0, .class_ 8), (0, u "com/example/unalike/unalike/engine/PairTally$Change"), (0, .methodref 7 10), (0, .nameAndType 5 11), (0, u "(JJ)V"), (0, .methodref 13 14), (0, .class_ 15), (0, .nameAndType 16 17), (0, u "java/lang/Long"), (0, u "valueOf"), (0, u "(J)Ljava/lang/Long;"), (0, .methodref 7 19), (0, .nameAndType 20 21), (0, u "equals"), (0, u "(Ljava/lang/Object;)Z"), (0, .class_ 23), (0, u "com/example/unalike/unalike/engine/ChangeEqualsPinLaw"), (2, u "law"), (0, u "(JJJJI)Z")] 7

def k1m0 : Method := { name := "<init>", desc := "()V", sig := { parameters := [], returnType := none }, accessFlags := 2, code := none }
def k1c1 : Code := { maxStack := 6, maxLocals := 17, code := code, exceptionTable := #[], attributes := #[] }
def k1m1 : Method := { name := "law", desc := "(JJJJI)Z", sig := { parameters := [.long, .long, .long, .long, .int], returnType := some .boolean }, accessFlags := 9, code := some k1c1 }
/-- com/example/unalike/unalike/engine/ChangeEqualsPinLaw -/
def k1 : Class := { plain "com/example/unalike/unalike/engine/ChangeEqualsPinLaw" (some 0) with
  accessFlags := 49
  interfaces := #[]
  cf := some (fileOf pool1 22 #[] #[{ accessFlags := 2, nameIndex := 5, descriptorIndex := 6, attributes := #[] }, { accessFlags := 9, nameIndex := 26, descriptorIndex := 27, attributes := #[] }] 49 2 #[] #[])
  fields := #[]
  methods := #[k1m0, k1m1]
  instanceTypes := #[]
  staticTypes := #[]
  resolved := Array.replicate 35 none
  statics := none }

def pool2 : Array CpInfo := pool [(1, .methodref 2 3), (0, .class_ 4), (0, .nameAndType 5 6), (0, u "java/lang/Object"), (0, u "<init>"), (0, u "()V"), (0, .fieldref 8 9), (0, .class_ 10), (0, .nameAndType 11 12), (0, u "com/example/unalike/unalike/engine/PairTally$Change"), (0, u "covered"), (0, u "J"), (0, .fieldref 8 14), (0, .nameAndType 15 12), (0, u "twice"), (14, u "(JJ)V"), (2, u "NONE"), (0, u "Lcom/example/unalike/unalike/engine/PairTally$Change;"), (6, u "equals"), (0, u "(Ljava/lang/Object;)Z"), (7, .class_ 51), (0, u "com/example/unalike/unalike/engine/PairTally")] 16

def k2c0 : Code := { maxStack := 3, maxLocals := 5, code := prog_15_method_1_code, exceptionTable := #[], attributes := #[] }
def k2m0 : Method := { name := "<init>", desc := "(JJ)V", sig := { parameters := [.long, .long], returnType := none }, accessFlags := 0, code := some k2c0 }
def k2c1 : Code := { maxStack := 4, maxLocals := 3, code := prog_15_method_4_code, exceptionTable := #[], attributes := #[] }
def k2m1 : Method := { name := "equals", desc := "(Ljava/lang/Object;)Z", sig := { parameters := [(.object "java/lang/Object")], returnType := some .boolean }, accessFlags := 1, code := some k2c1 }
/-- com/example/unalike/unalike/engine/PairTally$Change -/
def k2 : Class := { plain "com/example/unalike/unalike/engine/PairTally$Change" (some 0) with
  accessFlags := 48
  interfaces := #[]
  cf := some (fileOf pool2 8 #[.nestHost 50] #[{ accessFlags := 0, nameIndex := 5, descriptorIndex := 30, attributes := #[] }, { accessFlags := 1, nameIndex := 41, descriptorIndex := 42, attributes := #[] }] 48 2 #[] #[{ accessFlags := 24, nameIndex := 33, descriptorIndex := 34, attributes := #[] }, { accessFlags := 18, nameIndex := 11, descriptorIndex := 12, attributes := #[] }, { accessFlags := 18, nameIndex := 15, descriptorIndex := 12, attributes := #[] }])
  fields := #[{ name := "NONE", type := (.object "com/example/unalike/unalike/engine/PairTally$Change"), accessFlags := 24, slot := 0, constantValue := 0 }, { name := "covered", type := .long, accessFlags := 18, slot := 0, constantValue := 0 }, { name := "twice", type := .long, accessFlags := 18, slot := 1, constantValue := 0 }]
  methods := #[k2m0, k2m1]
  instanceTypes := #[.long, .long]
  staticTypes := #[(.object "com/example/unalike/unalike/engine/PairTally$Change")]
  resolved := Array.replicate 68 none
  statics := none }

def pool3 : Array CpInfo := pool [(1, .class_ 2), (0, u "java/io/Serializable"), (0, .class_ 4), (0, u "java/lang/Object")] 2

/-- java/io/Serializable -/
def k3 : Class := { plain "java/io/Serializable" (some 0) with
  accessFlags := 1537
  interfaces := #[]
  cf := some (fileOf pool3 1 #[] #[] 1537 3 #[] #[])
  fields := #[]
  methods := #[]
  instanceTypes := #[]
  staticTypes := #[]
  resolved := Array.replicate 7 none
  statics := none }

def pool4 : Array CpInfo := pool [(1, .methodref 2 3), (0, .class_ 4), (0, .nameAndType 5 6), (0, u "java/lang/Object"), (0, u "<init>"), (0, u "()V"), (1, .class_ 10), (1, u "java/lang/Number"), (2, .class_ 14), (0, u "java/io/Serializable"), (0, u "serialVersionUID"), (0, u "J")] 20

def k4c0 : Code := { maxStack := 1, maxLocals := 1, code := jdk_18_method_1_code, exceptionTable := #[], attributes := #[] }
def k4m0 : Method := { name := "<init>", desc := "()V", sig := { parameters := [], returnType := none }, accessFlags := 1, code := some k4c0 }
/-- java/lang/Number -/
def k4 : Class := { plain "java/lang/Number" (some 0) with
  accessFlags := 1057
  interfaces := #[3]
  cf := some (fileOf pool4 8 #[] #[{ accessFlags := 1, nameIndex := 5, descriptorIndex := 6, attributes := #[] }] 1057 2 #[13] #[{ accessFlags := 26, nameIndex := 15, descriptorIndex := 16, attributes := #[] }])
  fields := #[{ name := "serialVersionUID", type := .long, accessFlags := 26, slot := 0, constantValue := 0 }]
  methods := #[k4m0]
  instanceTypes := #[]
  staticTypes := #[.long]
  resolved := Array.replicate 37 none
  statics := none }

def pool5 : Array CpInfo := pool [(1, .class_ 2), (0, u "java/lang/Comparable"), (0, .class_ 4), (0, u "java/lang/Object")] 7

/-- java/lang/Comparable -/
def k5 : Class := { plain "java/lang/Comparable" (some 0) with
  accessFlags := 1537
  interfaces := #[]
  cf := some (fileOf pool5 1 #[] #[] 1537 3 #[] #[])
  fields := #[]
  methods := #[]
  instanceTypes := #[]
  staticTypes := #[]
  resolved := Array.replicate 12 none
  statics := none }

def pool6 : Array CpInfo := pool [(1, .class_ 2), (0, u "java/lang/constant/Constable"), (0, .class_ 4), (0, u "java/lang/Object")] 6

/-- java/lang/constant/Constable -/
def k6 : Class := { plain "java/lang/constant/Constable" (some 0) with
  accessFlags := 1537
  interfaces := #[]
  cf := some (fileOf pool6 1 #[] #[] 1537 3 #[] #[])
  fields := #[]
  methods := #[]
  instanceTypes := #[]
  staticTypes := #[]
  resolved := Array.replicate 11 none
  statics := none }

def pool7 : Array CpInfo := pool [(1, .class_ 2), (0, u "java/lang/constant/ConstantDesc"), (0, .class_ 4), (0, u "java/lang/Object")] 32

/-- java/lang/constant/ConstantDesc -/
def k7 : Class := { plain "java/lang/constant/ConstantDesc" (some 0) with
  accessFlags := 1537
  interfaces := #[]
  cf := some (fileOf pool7 1 #[] #[] 1537 3 #[] #[])
  fields := #[]
  methods := #[]
  instanceTypes := #[]
  staticTypes := #[]
  resolved := Array.replicate 37 none
  statics := none }

def pool8 : Array CpInfo := pool [(1, .class_ 2), (0, u "java/lang/Long"), (55, .nameAndType 59 60), (0, u "<init>"), (0, u "()V"), (24, u "valueOf"), (143, u "(J)Ljava/lang/Long;"), (0, .long 18446744073709551488), (1, .long 127), (1, .fieldref 235 236), (0, .class_ 237), (0, .nameAndType 238 239), (0, u "java/lang/Long$LongCache"), (0, u "cache"), (0, u "[Ljava/lang/Long;"), (0, .methodref 1 241), (0, .nameAndType 59 242), (0, u "(J)V"), (27, .methodref 271 58), (0, .class_ 272), (0, u "java/lang/Number"), (0, .fieldref 1 274), (0, .nameAndType 275 276), (0, u "value"), (0, u "J"), (84, u "TYPE"), (0, u "Ljava/lang/Class;"), (0, .class_ 364), (0, u "java/lang/Comparable"), (0, .class_ 366), (0, u "java/lang/constant/Constable"), (0, .class_ 368), (0, u "java/lang/constant/ConstantDesc"), (0, u "MIN_VALUE"), (1, u "MAX_VALUE"), (4, u "SIZE"), (0, u "I"), (1, u "BYTES"), (1, u "serialVersionUID")] 142

def k8c0 : Code := { maxStack := 4, maxLocals := 3, code := jdk_35_method_24_code, exceptionTable := #[], attributes := #[] }
def k8m0 : Method := { name := "valueOf", desc := "(J)Ljava/lang/Long;", sig := { parameters := [.long], returnType := some (.object "java/lang/Long") }, accessFlags := 9, code := some k8c0 }
def k8c1 : Code := { maxStack := 3, maxLocals := 3, code := jdk_35_method_26_code, exceptionTable := #[], attributes := #[] }
def k8m1 : Method := { name := "<init>", desc := "(J)V", sig := { parameters := [.long], returnType := none }, accessFlags := 1, code := some k8c1 }
/-- java/lang/Long -/
def k8 : Class := { plain "java/lang/Long" (some 4) with
  accessFlags := 49
  interfaces := #[5, 6, 7]
  cf := some (fileOf pool8 1 #[.nestMembers #[235]] #[{ accessFlags := 9, nameIndex := 85, descriptorIndex := 229, attributes := #[] }, { accessFlags := 1, nameIndex := 59, descriptorIndex := 242, attributes := #[] }] 49 271 #[363, 365, 367] #[{ accessFlags := 25, nameIndex := 369, descriptorIndex := 276, attributes := #[] }, { accessFlags := 25, nameIndex := 371, descriptorIndex := 276, attributes := #[] }, { accessFlags := 25, nameIndex := 361, descriptorIndex := 362, attributes := #[] }, { accessFlags := 18, nameIndex := 275, descriptorIndex := 276, attributes := #[] }, { accessFlags := 25, nameIndex := 376, descriptorIndex := 377, attributes := #[] }, { accessFlags := 25, nameIndex := 379, descriptorIndex := 377, attributes := #[] }, { accessFlags := 26, nameIndex := 381, descriptorIndex := 276, attributes := #[] }])
  fields := #[{ name := "MIN_VALUE", type := .long, accessFlags := 25, slot := 0, constantValue := 0 }, { name := "MAX_VALUE", type := .long, accessFlags := 25, slot := 1, constantValue := 0 }, { name := "TYPE", type := (.object "java/lang/Class"), accessFlags := 25, slot := 2, constantValue := 0 }, { name := "value", type := .long, accessFlags := 18, slot := 0, constantValue := 0 }, { name := "SIZE", type := .int, accessFlags := 25, slot := 3, constantValue := 0 }, { name := "BYTES", type := .int, accessFlags := 25, slot := 4, constantValue := 0 }, { name := "serialVersionUID", type := .long, accessFlags := 26, slot := 5, constantValue := 0 }]
  methods := #[k8m0, k8m1]
  instanceTypes := #[.long]
  staticTypes := #[.long, .long, (.object "java/lang/Class"), .int, .int, .long]
  resolved := Array.replicate 524 none
  statics := none }

def pool9 : Array CpInfo := pool [(2, .class_ 4), (1, u "java/lang/Object"), (0, u "<init>"), (0, u "()V"), (0, .class_ 8), (0, u "java/lang/Long"), (7, .class_ 18), (1, u "java/lang/Long$LongCache"), (0, u "$assertionsDisabled"), (0, u "Z"), (8, u "archivedCache"), (0, u "[Ljava/lang/Long;"), (7, u "cache")] 24

def k9m0 : Method := { name := "<init>", desc := "()V", sig := { parameters := [], returnType := none }, accessFlags := 2, code := none }
/-- java/lang/Long$LongCache -/
def k9 : Class := { plain "java/lang/Long$LongCache" (some 0) with
  accessFlags := 48
  interfaces := #[]
  cf := some (fileOf pool9 16 #[.nestHost 7] #[{ accessFlags := 2, nameIndex := 5, descriptorIndex := 6, attributes := #[] }] 48 2 #[] #[{ accessFlags := 24, nameIndex := 38, descriptorIndex := 30, attributes := #[] }, { accessFlags := 8, nameIndex := 29, descriptorIndex := 30, attributes := #[] }, { accessFlags := 4120, nameIndex := 19, descriptorIndex := 20, attributes := #[] }])
  fields := #[{ name := "cache", type := (.array (.object "java/lang/Long")), accessFlags := 24, slot := 0, constantValue := 0 }, { name := "archivedCache", type := (.array (.object "java/lang/Long")), accessFlags := 8, slot := 1, constantValue := 0 }, { name := "$assertionsDisabled", type := .boolean, accessFlags := 4120, slot := 2, constantValue := 0 }]
  methods := #[k9m0]
  instanceTypes := #[]
  staticTypes := #[(.array (.object "java/lang/Long")), (.array (.object "java/lang/Long")), .boolean]
  resolved := Array.replicate 63 none
  statics := some 0 }

def pool10 : Array CpInfo := pool [(1, u "java/lang/Cloneable"), (0, .class_ 1), (0, u "java/lang/Object"), (0, .class_ 3)] 3

/-- java/lang/Cloneable -/
def k10 : Class := { plain "java/lang/Cloneable" (some 0) with
  accessFlags := 1537
  interfaces := #[]
  cf := some (fileOf pool10 2 #[] #[] 1537 4 #[] #[])
  fields := #[]
  methods := #[]
  instanceTypes := #[]
  staticTypes := #[]
  resolved := Array.replicate 8 none
  statics := none }

/-- the primitive byte -/
def k11 : Class := { plain "byte" none with kind := .primitive 'B', accessFlags := 0x411 }
/-- [B -/
def k12 : Class := { plain "[B" (some 0) with kind := .array 11 .byte, interfaces := #[10, 3], accessFlags := 1041 }

/-- the primitive int -/
def k13 : Class := { plain "int" none with kind := .primitive 'I', accessFlags := 0x411 }
/-- [I -/
def k14 : Class := { plain "[I" (some 0) with kind := .array 13 .int, interfaces := #[10, 3], accessFlags := 1041 }

/-- [Ljava/lang/Long; -/
def k15 : Class := { plain "[Ljava/lang/Long;" (some 0) with kind := .array 8 (.object "java/lang/Long"), interfaces := #[10, 3], accessFlags := 1041 }

def heap : Heap := #[{ cls := 9, slots := #[.ref 1, .null, .int 0], vm := .statics 9 },
  { cls := 15, slots := #[.ref 2, .ref 3, .ref 4, .ref 5, .ref 6, .ref 7, .ref 8, .ref 9, .ref 10, .ref 11, .ref 12, .ref 13, .ref 14, .ref 15, .ref 16, .ref 17, .ref 18, .ref 19, .ref 20, .ref 21, .ref 22, .ref 23, .ref 24, .ref 25, .ref 26, .ref 27, .ref 28, .ref 29, .ref 30, .ref 31, .ref 32, .ref 33, .ref 34, .ref 35, .ref 36, .ref 37, .ref 38, .ref 39, .ref 40, .ref 41, .ref 42, .ref 43, .ref 44, .ref 45, .ref 46, .ref 47, .ref 48, .ref 49, .ref 50, .ref 51, .ref 52, .ref 53, .ref 54, .ref 55, .ref 56, .ref 57, .ref 58, .ref 59, .ref 60, .ref 61, .ref 62, .ref 63, .ref 64, .ref 65, .ref 66, .ref 67, .ref 68, .ref 69, .ref 70, .ref 71, .ref 72, .ref 73, .ref 74, .ref 75, .ref 76, .ref 77, .ref 78, .ref 79, .ref 80, .ref 81, .ref 82, .ref 83, .ref 84, .ref 85, .ref 86, .ref 87, .ref 88, .ref 89, .ref 90, .ref 91, .ref 92, .ref 93, .ref 94, .ref 95, .ref 96, .ref 97, .ref 98, .ref 99, .ref 100, .ref 101, .ref 102, .ref 103, .ref 104, .ref 105, .ref 106, .ref 107, .ref 108, .ref 109, .ref 110, .ref 111, .ref 112, .ref 113, .ref 114, .ref 115, .ref 116, .ref 117, .ref 118, .ref 119, .ref 120, .ref 121, .ref 122, .ref 123, .ref 124, .ref 125, .ref 126, .ref 127, .ref 128, .ref 129, .ref 130, .ref 131, .ref 132, .ref 133, .ref 134, .ref 135, .ref 136, .ref 137, .ref 138, .ref 139, .ref 140, .ref 141, .ref 142, .ref 143, .ref 144, .ref 145, .ref 146, .ref 147, .ref 148, .ref 149, .ref 150, .ref 151, .ref 152, .ref 153, .ref 154, .ref 155, .ref 156, .ref 157, .ref 158, .ref 159, .ref 160, .ref 161, .ref 162, .ref 163, .ref 164, .ref 165, .ref 166, .ref 167, .ref 168, .ref 169, .ref 170, .ref 171, .ref 172, .ref 173, .ref 174, .ref 175, .ref 176, .ref 177, .ref 178, .ref 179, .ref 180, .ref 181, .ref 182, .ref 183, .ref 184, .ref 185, .ref 186, .ref 187, .ref 188, .ref 189, .ref 190, .ref 191, .ref 192, .ref 193, .ref 194, .ref 195, .ref 196, .ref 197, .ref 198, .ref 199, .ref 200, .ref 201, .ref 202, .ref 203, .ref 204, .ref 205, .ref 206, .ref 207, .ref 208, .ref 209, .ref 210, .ref 211, .ref 212, .ref 213, .ref 214, .ref 215, .ref 216, .ref 217, .ref 218, .ref 219, .ref 220, .ref 221, .ref 222, .ref 223, .ref 224, .ref 225, .ref 226, .ref 227, .ref 228, .ref 229, .ref 230, .ref 231, .ref 232, .ref 233, .ref 234, .ref 235, .ref 236, .ref 237, .ref 238, .ref 239, .ref 240, .ref 241, .ref 242, .ref 243, .ref 244, .ref 245, .ref 246, .ref 247, .ref 248, .ref 249, .ref 250, .ref 251, .ref 252, .ref 253, .ref 254, .ref 255, .ref 256, .ref 257], vm := .none },
  { cls := 8, slots := #[.long (-128)], vm := .none },
  { cls := 8, slots := #[.long (-127)], vm := .none },
  { cls := 8, slots := #[.long (-126)], vm := .none },
  { cls := 8, slots := #[.long (-125)], vm := .none },
  { cls := 8, slots := #[.long (-124)], vm := .none },
  { cls := 8, slots := #[.long (-123)], vm := .none },
  { cls := 8, slots := #[.long (-122)], vm := .none },
  { cls := 8, slots := #[.long (-121)], vm := .none },
  { cls := 8, slots := #[.long (-120)], vm := .none },
  { cls := 8, slots := #[.long (-119)], vm := .none },
  { cls := 8, slots := #[.long (-118)], vm := .none },
  { cls := 8, slots := #[.long (-117)], vm := .none },
  { cls := 8, slots := #[.long (-116)], vm := .none },
  { cls := 8, slots := #[.long (-115)], vm := .none },
  { cls := 8, slots := #[.long (-114)], vm := .none },
  { cls := 8, slots := #[.long (-113)], vm := .none },
  { cls := 8, slots := #[.long (-112)], vm := .none },
  { cls := 8, slots := #[.long (-111)], vm := .none },
  { cls := 8, slots := #[.long (-110)], vm := .none },
  { cls := 8, slots := #[.long (-109)], vm := .none },
  { cls := 8, slots := #[.long (-108)], vm := .none },
  { cls := 8, slots := #[.long (-107)], vm := .none },
  { cls := 8, slots := #[.long (-106)], vm := .none },
  { cls := 8, slots := #[.long (-105)], vm := .none },
  { cls := 8, slots := #[.long (-104)], vm := .none },
  { cls := 8, slots := #[.long (-103)], vm := .none },
  { cls := 8, slots := #[.long (-102)], vm := .none },
  { cls := 8, slots := #[.long (-101)], vm := .none },
  { cls := 8, slots := #[.long (-100)], vm := .none },
  { cls := 8, slots := #[.long (-99)], vm := .none },
  { cls := 8, slots := #[.long (-98)], vm := .none },
  { cls := 8, slots := #[.long (-97)], vm := .none },
  { cls := 8, slots := #[.long (-96)], vm := .none },
  { cls := 8, slots := #[.long (-95)], vm := .none },
  { cls := 8, slots := #[.long (-94)], vm := .none },
  { cls := 8, slots := #[.long (-93)], vm := .none },
  { cls := 8, slots := #[.long (-92)], vm := .none },
  { cls := 8, slots := #[.long (-91)], vm := .none },
  { cls := 8, slots := #[.long (-90)], vm := .none },
  { cls := 8, slots := #[.long (-89)], vm := .none },
  { cls := 8, slots := #[.long (-88)], vm := .none },
  { cls := 8, slots := #[.long (-87)], vm := .none },
  { cls := 8, slots := #[.long (-86)], vm := .none },
  { cls := 8, slots := #[.long (-85)], vm := .none },
  { cls := 8, slots := #[.long (-84)], vm := .none },
  { cls := 8, slots := #[.long (-83)], vm := .none },
  { cls := 8, slots := #[.long (-82)], vm := .none },
  { cls := 8, slots := #[.long (-81)], vm := .none },
  { cls := 8, slots := #[.long (-80)], vm := .none },
  { cls := 8, slots := #[.long (-79)], vm := .none },
  { cls := 8, slots := #[.long (-78)], vm := .none },
  { cls := 8, slots := #[.long (-77)], vm := .none },
  { cls := 8, slots := #[.long (-76)], vm := .none },
  { cls := 8, slots := #[.long (-75)], vm := .none },
  { cls := 8, slots := #[.long (-74)], vm := .none },
  { cls := 8, slots := #[.long (-73)], vm := .none },
  { cls := 8, slots := #[.long (-72)], vm := .none },
  { cls := 8, slots := #[.long (-71)], vm := .none },
  { cls := 8, slots := #[.long (-70)], vm := .none },
  { cls := 8, slots := #[.long (-69)], vm := .none },
  { cls := 8, slots := #[.long (-68)], vm := .none },
  { cls := 8, slots := #[.long (-67)], vm := .none },
  { cls := 8, slots := #[.long (-66)], vm := .none },
  { cls := 8, slots := #[.long (-65)], vm := .none },
  { cls := 8, slots := #[.long (-64)], vm := .none },
  { cls := 8, slots := #[.long (-63)], vm := .none },
  { cls := 8, slots := #[.long (-62)], vm := .none },
  { cls := 8, slots := #[.long (-61)], vm := .none },
  { cls := 8, slots := #[.long (-60)], vm := .none },
  { cls := 8, slots := #[.long (-59)], vm := .none },
  { cls := 8, slots := #[.long (-58)], vm := .none },
  { cls := 8, slots := #[.long (-57)], vm := .none },
  { cls := 8, slots := #[.long (-56)], vm := .none },
  { cls := 8, slots := #[.long (-55)], vm := .none },
  { cls := 8, slots := #[.long (-54)], vm := .none },
  { cls := 8, slots := #[.long (-53)], vm := .none },
  { cls := 8, slots := #[.long (-52)], vm := .none },
  { cls := 8, slots := #[.long (-51)], vm := .none },
  { cls := 8, slots := #[.long (-50)], vm := .none },
  { cls := 8, slots := #[.long (-49)], vm := .none },
  { cls := 8, slots := #[.long (-48)], vm := .none },
  { cls := 8, slots := #[.long (-47)], vm := .none },
  { cls := 8, slots := #[.long (-46)], vm := .none },
  { cls := 8, slots := #[.long (-45)], vm := .none },
  { cls := 8, slots := #[.long (-44)], vm := .none },
  { cls := 8, slots := #[.long (-43)], vm := .none },
  { cls := 8, slots := #[.long (-42)], vm := .none },
  { cls := 8, slots := #[.long (-41)], vm := .none },
  { cls := 8, slots := #[.long (-40)], vm := .none },
  { cls := 8, slots := #[.long (-39)], vm := .none },
  { cls := 8, slots := #[.long (-38)], vm := .none },
  { cls := 8, slots := #[.long (-37)], vm := .none },
  { cls := 8, slots := #[.long (-36)], vm := .none },
  { cls := 8, slots := #[.long (-35)], vm := .none },
  { cls := 8, slots := #[.long (-34)], vm := .none },
  { cls := 8, slots := #[.long (-33)], vm := .none },
  { cls := 8, slots := #[.long (-32)], vm := .none },
  { cls := 8, slots := #[.long (-31)], vm := .none },
  { cls := 8, slots := #[.long (-30)], vm := .none },
  { cls := 8, slots := #[.long (-29)], vm := .none },
  { cls := 8, slots := #[.long (-28)], vm := .none },
  { cls := 8, slots := #[.long (-27)], vm := .none },
  { cls := 8, slots := #[.long (-26)], vm := .none },
  { cls := 8, slots := #[.long (-25)], vm := .none },
  { cls := 8, slots := #[.long (-24)], vm := .none },
  { cls := 8, slots := #[.long (-23)], vm := .none },
  { cls := 8, slots := #[.long (-22)], vm := .none },
  { cls := 8, slots := #[.long (-21)], vm := .none },
  { cls := 8, slots := #[.long (-20)], vm := .none },
  { cls := 8, slots := #[.long (-19)], vm := .none },
  { cls := 8, slots := #[.long (-18)], vm := .none },
  { cls := 8, slots := #[.long (-17)], vm := .none },
  { cls := 8, slots := #[.long (-16)], vm := .none },
  { cls := 8, slots := #[.long (-15)], vm := .none },
  { cls := 8, slots := #[.long (-14)], vm := .none },
  { cls := 8, slots := #[.long (-13)], vm := .none },
  { cls := 8, slots := #[.long (-12)], vm := .none },
  { cls := 8, slots := #[.long (-11)], vm := .none },
  { cls := 8, slots := #[.long (-10)], vm := .none },
  { cls := 8, slots := #[.long (-9)], vm := .none },
  { cls := 8, slots := #[.long (-8)], vm := .none },
  { cls := 8, slots := #[.long (-7)], vm := .none },
  { cls := 8, slots := #[.long (-6)], vm := .none },
  { cls := 8, slots := #[.long (-5)], vm := .none },
  { cls := 8, slots := #[.long (-4)], vm := .none },
  { cls := 8, slots := #[.long (-3)], vm := .none },
  { cls := 8, slots := #[.long (-2)], vm := .none },
  { cls := 8, slots := #[.long (-1)], vm := .none },
  { cls := 8, slots := #[.long (0)], vm := .none },
  { cls := 8, slots := #[.long (1)], vm := .none },
  { cls := 8, slots := #[.long (2)], vm := .none },
  { cls := 8, slots := #[.long (3)], vm := .none },
  { cls := 8, slots := #[.long (4)], vm := .none },
  { cls := 8, slots := #[.long (5)], vm := .none },
  { cls := 8, slots := #[.long (6)], vm := .none },
  { cls := 8, slots := #[.long (7)], vm := .none },
  { cls := 8, slots := #[.long (8)], vm := .none },
  { cls := 8, slots := #[.long (9)], vm := .none },
  { cls := 8, slots := #[.long (10)], vm := .none },
  { cls := 8, slots := #[.long (11)], vm := .none },
  { cls := 8, slots := #[.long (12)], vm := .none },
  { cls := 8, slots := #[.long (13)], vm := .none },
  { cls := 8, slots := #[.long (14)], vm := .none },
  { cls := 8, slots := #[.long (15)], vm := .none },
  { cls := 8, slots := #[.long (16)], vm := .none },
  { cls := 8, slots := #[.long (17)], vm := .none },
  { cls := 8, slots := #[.long (18)], vm := .none },
  { cls := 8, slots := #[.long (19)], vm := .none },
  { cls := 8, slots := #[.long (20)], vm := .none },
  { cls := 8, slots := #[.long (21)], vm := .none },
  { cls := 8, slots := #[.long (22)], vm := .none },
  { cls := 8, slots := #[.long (23)], vm := .none },
  { cls := 8, slots := #[.long (24)], vm := .none },
  { cls := 8, slots := #[.long (25)], vm := .none },
  { cls := 8, slots := #[.long (26)], vm := .none },
  { cls := 8, slots := #[.long (27)], vm := .none },
  { cls := 8, slots := #[.long (28)], vm := .none },
  { cls := 8, slots := #[.long (29)], vm := .none },
  { cls := 8, slots := #[.long (30)], vm := .none },
  { cls := 8, slots := #[.long (31)], vm := .none },
  { cls := 8, slots := #[.long (32)], vm := .none },
  { cls := 8, slots := #[.long (33)], vm := .none },
  { cls := 8, slots := #[.long (34)], vm := .none },
  { cls := 8, slots := #[.long (35)], vm := .none },
  { cls := 8, slots := #[.long (36)], vm := .none },
  { cls := 8, slots := #[.long (37)], vm := .none },
  { cls := 8, slots := #[.long (38)], vm := .none },
  { cls := 8, slots := #[.long (39)], vm := .none },
  { cls := 8, slots := #[.long (40)], vm := .none },
  { cls := 8, slots := #[.long (41)], vm := .none },
  { cls := 8, slots := #[.long (42)], vm := .none },
  { cls := 8, slots := #[.long (43)], vm := .none },
  { cls := 8, slots := #[.long (44)], vm := .none },
  { cls := 8, slots := #[.long (45)], vm := .none },
  { cls := 8, slots := #[.long (46)], vm := .none },
  { cls := 8, slots := #[.long (47)], vm := .none },
  { cls := 8, slots := #[.long (48)], vm := .none },
  { cls := 8, slots := #[.long (49)], vm := .none },
  { cls := 8, slots := #[.long (50)], vm := .none },
  { cls := 8, slots := #[.long (51)], vm := .none },
  { cls := 8, slots := #[.long (52)], vm := .none },
  { cls := 8, slots := #[.long (53)], vm := .none },
  { cls := 8, slots := #[.long (54)], vm := .none },
  { cls := 8, slots := #[.long (55)], vm := .none },
  { cls := 8, slots := #[.long (56)], vm := .none },
  { cls := 8, slots := #[.long (57)], vm := .none },
  { cls := 8, slots := #[.long (58)], vm := .none },
  { cls := 8, slots := #[.long (59)], vm := .none },
  { cls := 8, slots := #[.long (60)], vm := .none },
  { cls := 8, slots := #[.long (61)], vm := .none },
  { cls := 8, slots := #[.long (62)], vm := .none },
  { cls := 8, slots := #[.long (63)], vm := .none },
  { cls := 8, slots := #[.long (64)], vm := .none },
  { cls := 8, slots := #[.long (65)], vm := .none },
  { cls := 8, slots := #[.long (66)], vm := .none },
  { cls := 8, slots := #[.long (67)], vm := .none },
  { cls := 8, slots := #[.long (68)], vm := .none },
  { cls := 8, slots := #[.long (69)], vm := .none },
  { cls := 8, slots := #[.long (70)], vm := .none },
  { cls := 8, slots := #[.long (71)], vm := .none },
  { cls := 8, slots := #[.long (72)], vm := .none },
  { cls := 8, slots := #[.long (73)], vm := .none },
  { cls := 8, slots := #[.long (74)], vm := .none },
  { cls := 8, slots := #[.long (75)], vm := .none },
  { cls := 8, slots := #[.long (76)], vm := .none },
  { cls := 8, slots := #[.long (77)], vm := .none },
  { cls := 8, slots := #[.long (78)], vm := .none },
  { cls := 8, slots := #[.long (79)], vm := .none },
  { cls := 8, slots := #[.long (80)], vm := .none },
  { cls := 8, slots := #[.long (81)], vm := .none },
  { cls := 8, slots := #[.long (82)], vm := .none },
  { cls := 8, slots := #[.long (83)], vm := .none },
  { cls := 8, slots := #[.long (84)], vm := .none },
  { cls := 8, slots := #[.long (85)], vm := .none },
  { cls := 8, slots := #[.long (86)], vm := .none },
  { cls := 8, slots := #[.long (87)], vm := .none },
  { cls := 8, slots := #[.long (88)], vm := .none },
  { cls := 8, slots := #[.long (89)], vm := .none },
  { cls := 8, slots := #[.long (90)], vm := .none },
  { cls := 8, slots := #[.long (91)], vm := .none },
  { cls := 8, slots := #[.long (92)], vm := .none },
  { cls := 8, slots := #[.long (93)], vm := .none },
  { cls := 8, slots := #[.long (94)], vm := .none },
  { cls := 8, slots := #[.long (95)], vm := .none },
  { cls := 8, slots := #[.long (96)], vm := .none },
  { cls := 8, slots := #[.long (97)], vm := .none },
  { cls := 8, slots := #[.long (98)], vm := .none },
  { cls := 8, slots := #[.long (99)], vm := .none },
  { cls := 8, slots := #[.long (100)], vm := .none },
  { cls := 8, slots := #[.long (101)], vm := .none },
  { cls := 8, slots := #[.long (102)], vm := .none },
  { cls := 8, slots := #[.long (103)], vm := .none },
  { cls := 8, slots := #[.long (104)], vm := .none },
  { cls := 8, slots := #[.long (105)], vm := .none },
  { cls := 8, slots := #[.long (106)], vm := .none },
  { cls := 8, slots := #[.long (107)], vm := .none },
  { cls := 8, slots := #[.long (108)], vm := .none },
  { cls := 8, slots := #[.long (109)], vm := .none },
  { cls := 8, slots := #[.long (110)], vm := .none },
  { cls := 8, slots := #[.long (111)], vm := .none },
  { cls := 8, slots := #[.long (112)], vm := .none },
  { cls := 8, slots := #[.long (113)], vm := .none },
  { cls := 8, slots := #[.long (114)], vm := .none },
  { cls := 8, slots := #[.long (115)], vm := .none },
  { cls := 8, slots := #[.long (116)], vm := .none },
  { cls := 8, slots := #[.long (117)], vm := .none },
  { cls := 8, slots := #[.long (118)], vm := .none },
  { cls := 8, slots := #[.long (119)], vm := .none },
  { cls := 8, slots := #[.long (120)], vm := .none },
  { cls := 8, slots := #[.long (121)], vm := .none },
  { cls := 8, slots := #[.long (122)], vm := .none },
  { cls := 8, slots := #[.long (123)], vm := .none },
  { cls := 8, slots := #[.long (124)], vm := .none },
  { cls := 8, slots := #[.long (125)], vm := .none },
  { cls := 8, slots := #[.long (126)], vm := .none },
  { cls := 8, slots := #[.long (127)], vm := .none }]
def classes : Array Class := #[k0, k1, k2, k3, k4, k5, k6, k7, k8, k9, k10, k11, k12, k13, k14, k15]
def interned : List (Array UInt16 × Addr) := []
def slotsUsed : Nat := 515
def theMethod : MethodId := ⟨1, 1⟩
def args0 : Array Value := #[.long 300, .long 2, .long 3, .long 4, .int 1]
def aboutOver (below : List Frame) : State where
  vm := { classes := classes, interned := interned.toArray }
  heap := heap
  slotsUsed := slotsUsed
  threads := #[{ frames := .invoking theMethod args0 :: below }]
def below0 : List Frame := [.native { method := ⟨0, 0⟩, args := #[] }]
def about1 : State := aboutOver below0
def p0 : Program := .bare "" "" ""
def e0 : Env := launch0.env 0 0 0
theorem w_frames : about1.frames = Frame.invoking theMethod args0 :: below0 := rfl
set_option maxRecDepth 65536 in
theorem w_args : argsFit about1.vm theMethod args0 = true := by decide +kernel
set_option maxRecDepth 65536 in
theorem w_heap : heapFits about1 = true := by decide +kernel
set_option maxRecDepth 65536 in
theorem w_runnable : about1.curStatus? = some .runnable := by decide +kernel
set_option maxRecDepth 65536 in
theorem w_alone : about1.alone = true := by decide +kernel
set_option maxRecDepth 65536 in
theorem w_named : about1.methodNamed? x = some theMethod := by decide +kernel
set_option maxRecDepth 65536 in
theorem w_hears : about1.hears theMethod below0 = true := by decide +kernel
set_option maxRecDepth 65536 in
theorem w_ripe : about1.ripe theMethod args0 below0 = true := by decide +kernel
theorem w_running : about1.status = .running := rfl
set_option maxRecDepth 65536 in
theorem w_room : about1.hasRoom e0.platform room_1 = true :=
  launch0.hasRoom_least _ room_1 (by decide +kernel) (by decide +kernel) (by decide +kernel) (by decide +kernel) (by decide +kernel) (by decide +kernel)
theorem allAtoms_all (ts : List Jvm.Cond) (a : Array Jvm.Value) (st : Jvm.State) : (allAtoms ts).before a st = ts.all (fun c => c.before a st) := by
  induction ts with
  | nil => rfl
  | cons c t ih =>
    show (Jvm.Cond.and c (allAtoms t)).before a st = _
    rw [Jvm.Cond.before_and, ih, List.all_cons]
def words1 : List Jvm.Cond := Jvm.Cond.code x code maxLocals ret :: tables_1
/-- a 'code' word, met by the world's own term for the bytes: nothing is compared byte by byte -/
theorem code_word {y : MethodName} {bytes : ByteArray} {mx : Nat} {rt : Option FieldType} {a : Array Value} {s : State} {m : MethodId} {meth : Method} {c : Code} (h1 : s.methodNamed? y = some m) (h2 : s.vm.method? m = some meth) (h3 : meth.code = some c) (h4 : c.code = bytes)
    (h5 : (c.maxLocals == mx && c.exceptionTable.isEmpty && decide (c.maxStack ≤ mostOperands) && decide (meth.sig.returnType = rt) && !meth.locks && decide (parseMethodDescriptor y.desc = some meth.sig)) = true) : (Jvm.Cond.code y bytes mx rt).before a s = true := by
  simp only [Bool.and_eq_true, beq_iff_eq, Bool.not_eq_true', decide_eq_true_eq] at h5
  obtain ⟨⟨⟨⟨⟨g1, g2⟩, g3⟩, g4⟩, g5⟩, g6⟩ := h5
  simp [Cond.before, Cond.holds, Cond.value, h1, h2, h3, h4, g1, g2, g3, g4, g5, g6]
def isCode : Jvm.Cond → Bool
  | .code _ _ _ _ => true
  | _ => false
theorem all_split {L : List Jvm.Cond} {P : Jvm.Cond → Bool} (h1 : L.all (fun c => isCode c || P c) = true) (h2 : ∀ c ∈ L.filter isCode, P c = true) : L.all P = true := by
  refine List.all_eq_true.mpr fun c hc => ?_
  have h := List.all_eq_true.mp h1 c hc
  rcases Bool.eq_false_or_eq_true (isCode c) with hi | hi
  · exact h2 c (List.mem_filter.mpr ⟨hc, hi⟩)
  · simpa [hi] using h
set_option maxRecDepth 65536 in
theorem w_c0 : (Jvm.Cond.code x code maxLocals ret).before args0 about1 = true := code_word (m := ⟨1, 1⟩) (meth := k1m1) (c := k1c1) (by decide +kernel) rfl rfl rfl (by decide +kernel)
set_option maxRecDepth 65536 in
theorem w_c1 : (Jvm.Cond.code ({ cls := "com/example/unalike/unalike/engine/PairTally$Change", name := "<init>", desc := "(JJ)V" } : Jvm.MethodName) prog_15_method_1_code (5 : Nat) (Option.none : Option Jvm.ClassFile.FieldType)).before args0 about1 = true := code_word (m := ⟨2, 0⟩) (meth := k2m0) (c := k2c0) (by decide +kernel) rfl rfl rfl (by decide +kernel)
set_option maxRecDepth 65536 in
theorem w_c2 : (Jvm.Cond.code ({ cls := "java/lang/Object", name := "<init>", desc := "()V" } : Jvm.MethodName) object_method_1_code (1 : Nat) (Option.none : Option Jvm.ClassFile.FieldType)).before args0 about1 = true := code_word (m := ⟨0, 0⟩) (meth := k0m0) (c := k0c0) (by decide +kernel) rfl rfl rfl (by decide +kernel)
set_option maxRecDepth 65536 in
theorem w_c3 : (Jvm.Cond.code ({ cls := "java/lang/Long", name := "valueOf", desc := "(J)Ljava/lang/Long;" } : Jvm.MethodName) jdk_35_method_24_code (3 : Nat) (Option.some (Jvm.ClassFile.FieldType.object "java/lang/Long"))).before args0 about1 = true := code_word (m := ⟨8, 0⟩) (meth := k8m0) (c := k8c0) (by decide +kernel) rfl rfl rfl (by decide +kernel)
set_option maxRecDepth 65536 in
theorem w_c4 : (Jvm.Cond.code ({ cls := "com/example/unalike/unalike/engine/PairTally$Change", name := "equals", desc := "(Ljava/lang/Object;)Z" } : Jvm.MethodName) prog_15_method_4_code (3 : Nat) (Option.some Jvm.ClassFile.FieldType.boolean)).before args0 about1 = true := code_word (m := ⟨2, 1⟩) (meth := k2m1) (c := k2c1) (by decide +kernel) rfl rfl rfl (by decide +kernel)
set_option maxRecDepth 65536 in
theorem w_c5 : (Jvm.Cond.code ({ cls := "java/lang/Long", name := "<init>", desc := "(J)V" } : Jvm.MethodName) jdk_35_method_26_code (3 : Nat) (Option.none : Option Jvm.ClassFile.FieldType)).before args0 about1 = true := code_word (m := ⟨8, 1⟩) (meth := k8m1) (c := k8c1) (by decide +kernel) rfl rfl rfl (by decide +kernel)
set_option maxRecDepth 65536 in
theorem w_c6 : (Jvm.Cond.code ({ cls := "java/lang/Number", name := "<init>", desc := "()V" } : Jvm.MethodName) jdk_18_method_1_code (1 : Nat) (Option.none : Option Jvm.ClassFile.FieldType)).before args0 about1 = true := code_word (m := ⟨4, 0⟩) (meth := k4m0) (c := k4c0) (by decide +kernel) rfl rfl rfl (by decide +kernel)
def codes1 : List Jvm.Cond := [Jvm.Cond.code x code maxLocals ret, Jvm.Cond.code ({ cls := "com/example/unalike/unalike/engine/PairTally$Change", name := "<init>", desc := "(JJ)V" } : Jvm.MethodName) prog_15_method_1_code (5 : Nat) (Option.none : Option Jvm.ClassFile.FieldType), Jvm.Cond.code ({ cls := "java/lang/Object", name := "<init>", desc := "()V" } : Jvm.MethodName) object_method_1_code (1 : Nat) (Option.none : Option Jvm.ClassFile.FieldType), Jvm.Cond.code ({ cls := "java/lang/Long", name := "valueOf", desc := "(J)Ljava/lang/Long;" } : Jvm.MethodName) jdk_35_method_24_code (3 : Nat) (Option.some (Jvm.ClassFile.FieldType.object "java/lang/Long")), Jvm.Cond.code ({ cls := "com/example/unalike/unalike/engine/PairTally$Change", name := "equals", desc := "(Ljava/lang/Object;)Z" } : Jvm.MethodName) prog_15_method_4_code (3 : Nat) (Option.some Jvm.ClassFile.FieldType.boolean), Jvm.Cond.code ({ cls := "java/lang/Long", name := "<init>", desc := "(J)V" } : Jvm.MethodName) jdk_35_method_26_code (3 : Nat) (Option.none : Option Jvm.ClassFile.FieldType), Jvm.Cond.code ({ cls := "java/lang/Number", name := "<init>", desc := "()V" } : Jvm.MethodName) jdk_18_method_1_code (1 : Nat) (Option.none : Option Jvm.ClassFile.FieldType)]
set_option maxRecDepth 65536 in
theorem codes_eq : words1.filter isCode = codes1 := rfl
theorem w_codes : ∀ c ∈ words1.filter isCode, c.before args0 about1 = true := by
  rw [codes_eq]
  intro c hc
  simp only [codes1, List.mem_cons, List.not_mem_nil, or_false] at hc
  rcases hc with rfl | rfl | rfl | rfl | rfl | rfl | rfl
  · exact w_c0
  · exact w_c1
  · exact w_c2
  · exact w_c3
  · exact w_c4
  · exact w_c5
  · exact w_c6
set_option maxRecDepth 65536 in
theorem w_t1 : (words1.take 24).all (fun c => isCode c || c.before args0 about1) = true := by decide +kernel
set_option maxRecDepth 65536 in
theorem w_t2 : (words1.drop 24).all (fun c => isCode c || c.before args0 about1) = true := by decide +kernel
theorem w_tables : (allAtoms (Jvm.Cond.code x code maxLocals ret :: tables_1)).before args0 about1 = true := by
  rw [allAtoms_all]
  show words1.all (fun c => c.before args0 about1) = true
  refine all_split ?_ w_codes
  rw [← List.take_append_drop 24 words1, List.all_append, w_t1, w_t2]
  rfl
set_option maxRecDepth 65536 in
theorem w_rest : rest_1_c.before args0 about1 = true := by decide +kernel
set_option maxRecDepth 65536 in
theorem w_case : (Jvm.Cond.and given_1 narrow_1).before args0 about1 = true := by decide +kernel
theorem w_applies : (headSpec (Jvm.Cond.code x code maxLocals ret :: tables_1) room_1).applies x e0.platform about1 = true :=
  (Spec.applies_iff w_frames).mpr ⟨w_running, w_runnable, w_alone, w_named, w_hears, w_ripe, w_room, w_tables⟩
theorem atStart : AtStart classFile x code maxLocals ret World_1 tables_1 room_1 Calls_1 rest_1 Pre_1 launch0 p0 e0 about1 theMethod args0 below0 :=
  ⟨lists_1, trivial, launch0.admits_env _ _ _, launch0.least_env, fairChoices_fair.cas, fairChoices_fair.clock, w_frames, w_args, w_heap, w_applies, trivial, w_rest, w_case⟩
end start1
theorem witness_1 : WitnessClaimed_1 := ⟨start1.p0, start1.e0, start1.about1, start1.theMethod, start1.args0, start1.below0, start1.atStart⟩
end Jvm.Pilot.@@N@@
