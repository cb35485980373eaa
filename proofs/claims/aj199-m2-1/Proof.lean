import JvmDerived
import JvmDerived.Pilot.@@N@@Statement
import JvmDerived.Pilot.@@N@@Code
set_option linter.unusedVariables false
set_option linter.unusedSimpArgs false
namespace Jvm.Pilot.@@N@@
open Jvm Jvm.ClassFile Sem Op Lib Jvm.Free Jvm.Stand Jvm.LawKit Jvm.RoadKit Bundle Jvm.Pilot.@@N@@.Jvm.D
section OwnGo
variable {p : Program} {l : Launch} {e : Env} {R : Room} {s : State} {m : MethodId} {args : Array Value} {below : List Frame} {meth : Method} {c : Code} {T : State} {locs : List Loc} {cells slots : Nat}
/-- from S the run ends, returned, with Q -/
def own_Go (p : Program) (e : Env) (below : List Frame) (s : State) (Q : Option Value → Heap → List Loc → Prop) (cs ss : Nat) (S : State) : Prop :=
  ∃ (U : State) (o : Outcome), Steps p.tables e below S U ∧ U.status = .running ∧ Ended U below o ∧ ∃ v L, o = .returned v ∧ Q v U.heap L ∧ FrameEnd s o U L cs ss
variable {Q : Option Value → Heap → List Loc → Prop} {cs ss : Nat} {S S' : State}
theorem own_via (st : ∀ t, Steps p.tables e below S' t → Steps p.tables e below S t) (k : own_Go p e below s Q cs ss S') : own_Go p e below s Q cs ss S := by
  obtain ⟨U, o, h, r⟩ := k; exact ⟨U, o, st U h, r⟩
theorem own_viaT (st : Steps p.tables e below S S') (k : own_Go p e below s Q cs ss S') : own_Go p e below s Q cs ss S := own_via (fun _ h => st.trans h) k
theorem own_goV (X : Stand p l e R s m args below meth c T locs cells slots) (hx : p.tables.exec = Jvm.exec) {pc : Nat} {Ls : Array Slot} (hret : meth.sig.returnType = none) (hd : decode c.code pc = .ok (.return_, 1)) (hk : meth.locks = false) (hc : cells ≤ cs) (hs : slots ≤ ss) (hQ : Q none T.heap locs) :
    own_Go p e below s Q cs ss (T.setTop (mkF m pc Ls [])) := by
  obtain ⟨fs, hr, hrun, hended, hW, hsame⟩ := X.leave (v := none) (fun _ => rfl) hk
  exact ⟨_, _, X.returnOut hx hret hd hr, hrun, hended, _, _, rfl, hQ, ⟨_, rfl⟩, hW, hsame.mono hc hs⟩
theorem own_goN (X : Stand p l e R s m args below meth c T locs cells slots) (hx : p.tables.exec = Jvm.exec) {pc : Nat} {Ls : Array Slot} {z : Int32} {t : FieldType} {rest : List Value} (hret : meth.sig.returnType = some t) (ht : t = .boolean ∨ t = .byte ∨ t = .char ∨ t = .short) (hd : decode c.code pc = .ok (.ireturn, 1)) (hk : meth.locks = false) (hc : cells ≤ cs) (hs : slots ≤ ss) (hQ : Q (some (.int (nar t z))) T.heap locs) :
    own_Go p e below s Q cs ss (T.setTop (mkF m pc Ls (.int z :: rest))) := by
  obtain ⟨fs, hr, hrun, hended, hW, hsame⟩ := X.leave (v := some (.int (nar t z))) (fun h => by rw [hret] at h; cases h) hk
  exact ⟨_, _, retN X hx hret ht hd hr, hrun, hended, _, _, rfl, hQ, ⟨_, rfl⟩, hW, hsame.mono hc hs⟩
theorem own_goI (X : Stand p l e R s m args below meth c T locs cells slots) (hx : p.tables.exec = Jvm.exec) {pc : Nat} {Ls : Array Slot} {z : Int32} (hret : meth.sig.returnType = some .int) (hd : decode c.code pc = .ok (.ireturn, 1)) (hk : meth.locks = false) (hc : cells ≤ cs) (hs : slots ≤ ss) (hQ : Q (some (.int z)) T.heap locs) :
    own_Go p e below s Q cs ss (T.setTop (mkF m pc Ls [.int z])) := by
  obtain ⟨fs, hr, hrun, hended, hW, hsame⟩ := X.leave (v := some (.int z)) (fun h => by rw [hret] at h; cases h) hk
  exact ⟨_, _, X.ireturnOut hx hret rfl (Or.inl rfl) hd hr, hrun, hended, _, _, rfl, hQ, ⟨_, rfl⟩, hW, hsame.mono hc hs⟩
theorem own_goJ (X : Stand p l e R s m args below meth c T locs cells slots) (hx : p.tables.exec = Jvm.exec) {pc : Nat} {Ls : Array Slot} {z : Int64} (hret : meth.sig.returnType = some .long) (hd : decode c.code pc = .ok (.lreturn, 1)) (hk : meth.locks = false) (hc : cells ≤ cs) (hs : slots ≤ ss) (hQ : Q (some (.long z)) T.heap locs) :
    own_Go p e below s Q cs ss (T.setTop (mkF m pc Ls [.long z])) := by
  obtain ⟨fs, hr, hrun, hended, hW, hsame⟩ := X.leave (v := some (.long z)) (fun h => by rw [hret] at h; cases h) hk
  exact ⟨_, _, X.lreturnOut hx hret hd hr, hrun, hended, _, _, rfl, hQ, ⟨_, rfl⟩, hW, hsame.mono hc hs⟩
theorem own_goA (X : Stand p l e R s m args below meth c T locs cells slots) (hx : p.tables.exec = Jvm.exec) {pc : Nat} {Ls : Array Slot} {w : Value} {t : FieldType} (hw : w.isRef = true) (hret : meth.sig.returnType = some t) (ht : t.isReference = true) (hd : decode c.code pc = .ok (.areturn, 1)) (hk : meth.locks = false) (hc : cells ≤ cs) (hs : slots ≤ ss) (hQ : Q (some w) T.heap locs) :
    own_Go p e below s Q cs ss (T.setTop (mkF m pc Ls [w])) := by
  obtain ⟨fs, hr, hrun, hended, hW, hsame⟩ := X.leave (v := some w) (fun h => by rw [hret] at h; cases h) hk
  exact ⟨_, _, X.areturnOut hx hw hret ht hd hr, hrun, hended, _, _, rfl, hQ, ⟨_, rfl⟩, hW, hsame.mono hc hs⟩
theorem own_selP {s : State} {args : Array Value} {y y' : MethodName} (hs : (Cond.selects y'.cls y' y').before args s = true) (hc : y'.cls = y.cls) (hpriv : s.PrivateAt y) (hinst : (Cond.instanceMethod y).before args s = true) (hy : y.cls ≠ "java/lang/invoke/MethodHandle" ∧ y.cls ≠ "java/lang/invoke/VarHandle") : (Cond.selects y.cls y y).before args s = true := by
  obtain ⟨c2, r2, m2, -, -, q3, -, kP, hkP, hkPi⟩ := Cond.selects_spec hs
  exact selects_self_of_private (hc ▸ findClass_of_methodNamed q3) hkP hkPi hpriv hinst hy
end OwnGo
def o_i2l (x : Int32) : Int64 := x.toInt64
def o_l2i (x : Int64) : Int32 := x.toInt32
def o_i2b (x : Int32) : Int32 := x.toInt8.toInt32
def o_i2s (x : Int32) : Int32 := x.toInt16.toInt32
def o_i2c (x : Int32) : Int32 := x.toUInt32.toUInt16.toUInt32.toInt32
def o_ishl (x y : Int32) : Int32 := x <<< (y &&& 31)
def o_ishr (x y : Int32) : Int32 := x >>> (y &&& 31)
def o_iushr (x y : Int32) : Int32 := (x.toUInt32 >>> (y &&& 31).toUInt32).toInt32
def o_lshl (x : Int64) (y : Int32) : Int64 := x <<< (y &&& 0x3f).toInt64
def o_lshr (x : Int64) (y : Int32) : Int64 := x >>> (y &&& 0x3f).toInt64
def o_lushr (x : Int64) (y : Int32) : Int64 := (x.toUInt64 >>> (y &&& 0x3f).toInt64.toUInt64).toInt64
def o_irem (x y : Int32) : Int32 := x - (x / y) * y
def o_lrem (x y : Int64) : Int64 := x - (x / y) * y
def o_d0 : UInt64 := FP.dconst0
def o_d1 : UInt64 := FP.dconst1
theorem d1_0 : decode prog_15_method_1_code 0 = .ok (.aload_n 0, 1) := by decide +kernel
theorem d1_1 : decode prog_15_method_1_code 1 = .ok (.invokespecial 1, 3) := by decide +kernel
theorem d1_4 : decode prog_15_method_1_code 4 = .ok (.aload_n 0, 1) := by decide +kernel
theorem d1_5 : decode prog_15_method_1_code 5 = .ok (.lload_n 1, 1) := by decide +kernel
theorem d1_6 : decode prog_15_method_1_code 6 = .ok (.putfield 7, 3) := by decide +kernel
theorem d1_9 : decode prog_15_method_1_code 9 = .ok (.aload_n 0, 1) := by decide +kernel
theorem d1_10 : decode prog_15_method_1_code 10 = .ok (.lload_n 3, 1) := by decide +kernel
theorem d1_11 : decode prog_15_method_1_code 11 = .ok (.putfield 13, 3) := by decide +kernel
theorem d1_14 : decode prog_15_method_1_code 14 = .ok (.return_, 1) := by decide +kernel
theorem pn_0 : plainName "com/example/unalike/unalike/engine/PairTally$Change" = true := by first | (simp [plainName, overriddenIn]; done) | decide +kernel
theorem ef_1 (m : MethodId) (x0 : Addr) (x1 : Int64) (x2 : Int64) : entryFrame m #[(.ref x0), (.long x1), (.long x2)] 5 = mkF m 0 #[.val (.ref x0), .val (.long x1), .second, .val (.long x2), .second] [] := by first | (simp [entryFrame, mkF, argsToLocals, Value.category]; done) | rfl
def Q1 (Z : State) (a : Addr) (pc_ : Int64) (pt_ : Int64) (h0 : Heap) (n0 : Nat) (v : Option Value) (h : Heap) (L : List Loc) : Prop := v = none ∧ Fr n0 L ∧ Keep h0 h [a] ∧ Exa Z h a "com/example/unalike/unalike/engine/PairTally$Change" ∧ Fld Z h a "com/example/unalike/unalike/engine/PairTally$Change" "covered" "J" (.long pc_) ∧ Fld Z h a "com/example/unalike/unalike/engine/PairTally$Change" "twice" "J" (.long pt_)
set_option maxRecDepth 65536 in
set_option maxHeartbeats 40000000 in
theorem rm1 (l : Launch) (Z : State) (a0 : Array Value) (hw : ∀ d ∈ tables_1, d.before a0 Z = true) (ws : List Jvm.Cond) (a : Addr) (pc_ : Int64) (pt_ : Int64) (h0 : Heap) (n0 : Nat) (Z0 : n0 ≤ h0.size) (E_a : Exa Z h0 a "com/example/unalike/unalike/engine/PairTally$Change") (F_covered_a : Fld Z h0 a "com/example/unalike/unalike/engine/PairTally$Change" "covered" "J" (.long (0 : Int64))) (F_twice_a : Fld Z h0 a "com/example/unalike/unalike/engine/PairTally$Change" "twice" "J" (.long (0 : Int64))) (g_a : n0 ≤ a) :
    MetFree l (⟨"com/example/unalike/unalike/engine/PairTally$Change", "<init>", "(JJ)V"⟩ : MethodName) (head1 (Jvm.Cond.code (⟨"com/example/unalike/unalike/engine/PairTally$Change", "<init>", "(JJ)V"⟩ : MethodName) prog_15_method_1_code 5 none :: ws) ({ frames := 1, cells := 0, slots := 0, locals := 12 } : Room)) (fun q_ U => q_ = #[(.ref a), (.long pc_), (.long pt_)] ∧ Z.Warmed39 U.vm ∧ U.heap = h0) (fun _ _ _ _ _ => True) (fun _ U o U' => ∃ v L, o = .returned v ∧ Q1 Z a pc_ pt_ h0 n0 v U'.heap L ∧ FrameEnd U o U' L ({ frames := 1, cells := 0, slots := 0, locals := 12 } : Room).cells ({ frames := 1, cells := 0, slots := 0, locals := 12 } : Room).slots) := by
  refine MetFree.of_bodySF (plainFor_of_name pn_0) hisR ?_
  intro p e s m args below meth c s₁ Bd hml0 hP hK
  obtain ⟨rfl, hZ, hh⟩ := hP
  have hx := Bd.exec
  have hby := Bd.bytes
  have hml : c.maxLocals = 5 := hml0
  have hown : s.vm.findClass "com/example/unalike/unalike/engine/PairTally$Change" = some m.cls := findClass_of_methodNamed Bd.named
  have hnm := (name_of_methodNamed Bd.named Bd.method).1
  have X0 : Stand p l e ({ frames := 1, cells := 0, slots := 0, locals := 12 } : Room) s m #[(.ref a), (.long pc_), (.long pt_)] below meth c s₁ [] 0 0 := Stand.of_body Bd
  have e0 : s₁.heap = h0 := by rw [← hh, Bd.state]; rfl
  have N0 := Fr.nil n0
  show own_Go p e below s (Q1 Z a pc_ pt_ h0 n0) ({ frames := 1, cells := 0, slots := 0, locals := 12 } : Room).cells ({ frames := 1, cells := 0, slots := 0, locals := 12 } : Room).slots (s₁.setTop (entryFrame m #[(.ref a), (.long pc_), (.long pt_)] 5))
  refine own_via (fun t k => castTop (ef_1 m a pc_ pt_) k) ?_
  have K0 : Keep h0 h0 [a] := Keep.refl _ _
  show own_Go p e below s _ _ _ (s₁.setTop (mkF m 0 #[.val (.ref a), .val (.long pc_), .second, .val (.long pt_), .second] []))
  refine own_via (fun _ k => XS.aloadN X0.here hx rfl (hb hby d1_0) rfl rfl k) ?_
  show own_Go p e below s _ _ _ (s₁.setTop (mkF m 1 #[.val (.ref a), .val (.long pc_), .second, .val (.long pt_), .second] [(.ref a)]))
  obtain ⟨T1, X1, e1, st1⟩ := initO X0 hx hZ hown (hw _ (List.mem_of_getElem? (i := 6) rfl)) (hw _ (List.mem_of_getElem? (i := 7) rfl)) (hw _ (List.mem_of_getElem? (i := 8) rfl)) e0 (g := (mkF m 1 #[.val (.ref a), .val (.long pc_), .second, .val (.long pt_), .second] [(.ref a)])) rfl (by rw [hml]; rfl) rfl (hb hby d1_1) (by decide) (W := 0) (by show 2 * 0 + _ ≤ _; exact Nat.le_of_eq rfl) (by decide)
  refine own_via st1 ?_
  show own_Go p e below s _ _ _ (T1.setTop (mkF m 4 #[.val (.ref a), .val (.long pc_), .second, .val (.long pt_), .second] []))
  refine own_via (fun _ k => XS.aloadN X1.here hx rfl (hb hby d1_4) rfl rfl k) ?_
  show own_Go p e below s _ _ _ (T1.setTop (mkF m 5 #[.val (.ref a), .val (.long pc_), .second, .val (.long pt_), .second] [(.ref a)]))
  refine own_via (fun _ k => XS.lloadN X1.here hx rfl (hb hby d1_5) rfl k) ?_
  show own_Go p e below s _ _ _ (T1.setTop (mkF m 6 #[.val (.ref a), .val (.long pc_), .second, .val (.long pt_), .second] [(.long pc_), (.ref a)]))
  obtain ⟨T2, h2, X2, e2, W2, st2⟩ := putF X1 hx hZ hown (host := "") (Or.inl (hw _ (List.mem_of_getElem? (i := 9) rfl))) Via.refl e1 F_covered_a E_a (Or.inr ⟨(hw _ (List.mem_of_getElem? (i := 10) rfl)), rfl, hnm⟩) (hw _ (List.mem_of_getElem? (i := 1) rfl)) (ty := .long) (by decide) rfl rfl (g := (mkF m 6 #[.val (.ref a), .val (.long pc_), .second, .val (.long pt_), .second] [(.long pc_), (.ref a)])) rfl rfl (hb hby d1_6)
  have N2 := Fr.snoc X2 N0 g_a
  have Fw2 := F_covered_a.same W2
  have Z2 : n0 ≤ h2.size := Nat.le_trans Z0 (Keep.of_wr W2).1
  have K2 : Keep h0 h2 [a] := K0.wr W2 (Or.inl (List.mem_of_getElem? (i := 0) rfl))
  refine own_via st2 ?_
  show own_Go p e below s _ _ _ (T2.setTop (mkF m 9 #[.val (.ref a), .val (.long pc_), .second, .val (.long pt_), .second] []))
  refine own_via (fun _ k => XS.aloadN X2.here hx rfl (hb hby d1_9) rfl rfl k) ?_
  show own_Go p e below s _ _ _ (T2.setTop (mkF m 10 #[.val (.ref a), .val (.long pc_), .second, .val (.long pt_), .second] [(.ref a)]))
  refine own_via (fun _ k => XS.lloadN X2.here hx rfl (hb hby d1_10) rfl k) ?_
  show own_Go p e below s _ _ _ (T2.setTop (mkF m 11 #[.val (.ref a), .val (.long pc_), .second, .val (.long pt_), .second] [(.long pt_), (.ref a)]))
  have F3 := (E_a.wr W2)
  have F4 := (F_twice_a.other W2 (Or.inr (slot_ne (Or.inr (hw _ (List.mem_of_getElem? (i := 12) rfl))) (Or.inr (hw _ (List.mem_of_getElem? (i := 10) rfl))) (by decide) (t := .long) (t' := .long) (by decide) (by decide))))
  obtain ⟨T5, h5, X5, e5, W5, st5⟩ := putF X2 hx hZ hown (host := "") (Or.inl (hw _ (List.mem_of_getElem? (i := 11) rfl))) Via.refl e2 F4 F3 (Or.inr ⟨(hw _ (List.mem_of_getElem? (i := 12) rfl)), rfl, hnm⟩) (hw _ (List.mem_of_getElem? (i := 1) rfl)) (ty := .long) (by decide) rfl rfl (g := (mkF m 11 #[.val (.ref a), .val (.long pc_), .second, .val (.long pt_), .second] [(.long pt_), (.ref a)])) rfl rfl (hb hby d1_11)
  have N5 := Fr.snoc X5 N2 g_a
  have Fw5 := F4.same W5
  have Z5 : n0 ≤ h5.size := Nat.le_trans Z2 (Keep.of_wr W5).1
  have K5 : Keep h0 h5 [a] := K2.wr W5 (Or.inl (List.mem_of_getElem? (i := 0) rfl))
  refine own_via st5 ?_
  show own_Go p e below s _ _ _ (T5.setTop (mkF m 14 #[.val (.ref a), .val (.long pc_), .second, .val (.long pt_), .second] []))
  have F6 := (F3.wr W5)
  have F7 := (Fw2.other W5 (Or.inr (slot_ne (Or.inr (hw _ (List.mem_of_getElem? (i := 10) rfl))) (Or.inr (hw _ (List.mem_of_getElem? (i := 12) rfl))) (by decide) (t := .long) (t' := .long) (by decide) (by decide))))
  exact own_goV X5 hx Bd.returns (hb hby d1_14) Bd.notSynchronized (by decide) (by decide) (by rw [e5]; exact ⟨rfl, N5, K5, F6, F7, Fw5⟩)
theorem d3_0 : decode prog_15_method_3_code 0 = .ok (.aload_n 0, 1) := by decide +kernel
theorem d3_1 : decode prog_15_method_3_code 1 = .ok (.getfield 7, 3) := by decide +kernel
theorem d3_4 : decode prog_15_method_3_code 4 = .ok (.aload_n 1, 1) := by decide +kernel
theorem d3_5 : decode prog_15_method_3_code 5 = .ok (.getfield 7, 3) := by decide +kernel
theorem d3_8 : decode prog_15_method_3_code 8 = .ok (.lcmp, 1) := by decide +kernel
theorem d3_9 : decode prog_15_method_3_code 9 = .ok (.ifCond .eq 23, 3) := by decide +kernel
theorem d3_32 : decode prog_15_method_3_code 32 = .ok (.aload_n 0, 1) := by decide +kernel
theorem d3_33 : decode prog_15_method_3_code 33 = .ok (.getfield 13, 3) := by decide +kernel
theorem d3_36 : decode prog_15_method_3_code 36 = .ok (.aload_n 1, 1) := by decide +kernel
theorem d3_37 : decode prog_15_method_3_code 37 = .ok (.getfield 13, 3) := by decide +kernel
theorem d3_40 : decode prog_15_method_3_code 40 = .ok (.lcmp, 1) := by decide +kernel
theorem d3_41 : decode prog_15_method_3_code 41 = .ok (.ifCond .le 7, 3) := by decide +kernel
theorem d3_44 : decode prog_15_method_3_code 44 = .ok (.iconst 1, 1) := by decide +kernel
theorem d3_45 : decode prog_15_method_3_code 45 = .ok (.goto 4, 3) := by decide +kernel
theorem d3_49 : decode prog_15_method_3_code 49 = .ok (.ireturn, 1) := by decide +kernel
theorem d3_48 : decode prog_15_method_3_code 48 = .ok (.iconst 0, 1) := by decide +kernel
theorem d3_12 : decode prog_15_method_3_code 12 = .ok (.aload_n 0, 1) := by decide +kernel
theorem d3_13 : decode prog_15_method_3_code 13 = .ok (.getfield 7, 3) := by decide +kernel
theorem d3_16 : decode prog_15_method_3_code 16 = .ok (.aload_n 1, 1) := by decide +kernel
theorem d3_17 : decode prog_15_method_3_code 17 = .ok (.getfield 7, 3) := by decide +kernel
theorem d3_20 : decode prog_15_method_3_code 20 = .ok (.lcmp, 1) := by decide +kernel
theorem d3_21 : decode prog_15_method_3_code 21 = .ok (.ifCond .le 7, 3) := by decide +kernel
theorem d3_24 : decode prog_15_method_3_code 24 = .ok (.iconst 1, 1) := by decide +kernel
theorem d3_25 : decode prog_15_method_3_code 25 = .ok (.goto 24, 3) := by decide +kernel
theorem d3_28 : decode prog_15_method_3_code 28 = .ok (.iconst 0, 1) := by decide +kernel
theorem d3_29 : decode prog_15_method_3_code 29 = .ok (.goto 20, 3) := by decide +kernel
def own_f (ac : Int64) (at_ : Int64) (bc : Int64) (bt : Int64) : Int32 := (if ac = bc then (if bt < at_ then (1 : Int32) else (0 : Int32)) else (if bc < ac then (1 : Int32) else (0 : Int32)))
theorem ef_3 (m : MethodId) (x0 : Addr) (x1 : Addr) : entryFrame m #[(.ref x0), (.ref x1)] 2 = mkF m 0 #[.val (.ref x0), .val (.ref x1)] [] := by first | (simp [entryFrame, mkF, argsToLocals, Value.category]; done) | rfl
def Q3 (Z : State) (a : Addr) (b : Addr) (ac : Int64) (at_ : Int64) (bc : Int64) (bt : Int64) (h0 : Heap) (n0 : Nat) (v : Option Value) (h : Heap) (L : List Loc) : Prop := v = some (.int (own_f ac at_ bc bt)) ∧ Fr n0 L ∧ h = h0
set_option maxRecDepth 65536 in
set_option maxHeartbeats 40000000 in
theorem rm3 (l : Launch) (Z : State) (a0 : Array Value) (hw : ∀ d ∈ tables_1, d.before a0 Z = true) (ws : List Jvm.Cond) (a : Addr) (b : Addr) (ac : Int64) (at_ : Int64) (bc : Int64) (bt : Int64) (h0 : Heap) (n0 : Nat) (Z0 : n0 ≤ h0.size) (F_covered_a : Fld Z h0 a "com/example/unalike/unalike/engine/PairTally$Change" "covered" "J" (.long ac)) (F_twice_a : Fld Z h0 a "com/example/unalike/unalike/engine/PairTally$Change" "twice" "J" (.long at_)) (F_covered_b : Fld Z h0 b "com/example/unalike/unalike/engine/PairTally$Change" "covered" "J" (.long bc)) (F_twice_b : Fld Z h0 b "com/example/unalike/unalike/engine/PairTally$Change" "twice" "J" (.long bt)) :
    MetFree l (⟨"com/example/unalike/unalike/engine/PairTally$Change", "isBetterThan", "(Lcom/example/unalike/unalike/engine/PairTally$Change;)Z"⟩ : MethodName) (head1 (Jvm.Cond.code (⟨"com/example/unalike/unalike/engine/PairTally$Change", "isBetterThan", "(Lcom/example/unalike/unalike/engine/PairTally$Change;)Z"⟩ : MethodName) prog_15_method_3_code 2 (some .boolean) :: ws) ({ frames := 0, cells := 0, slots := 0, locals := 0 } : Room)) (fun q_ U => q_ = #[(.ref a), (.ref b)] ∧ Z.Warmed39 U.vm ∧ U.heap = h0) (fun _ _ _ _ _ => True) (fun _ U o U' => ∃ v L, o = .returned v ∧ Q3 Z a b ac at_ bc bt h0 n0 v U'.heap L ∧ FrameEnd U o U' L ({ frames := 0, cells := 0, slots := 0, locals := 0 } : Room).cells ({ frames := 0, cells := 0, slots := 0, locals := 0 } : Room).slots) := by
  refine MetFree.of_bodySF (plainFor_of_name pn_0) hisR ?_
  intro p e s m args below meth c s₁ Bd hml0 hP hK
  obtain ⟨rfl, hZ, hh⟩ := hP
  have hx := Bd.exec
  have hby := Bd.bytes
  have hml : c.maxLocals = 2 := hml0
  have hown : s.vm.findClass "com/example/unalike/unalike/engine/PairTally$Change" = some m.cls := findClass_of_methodNamed Bd.named
  have hnm := (name_of_methodNamed Bd.named Bd.method).1
  have X0 : Stand p l e ({ frames := 0, cells := 0, slots := 0, locals := 0 } : Room) s m #[(.ref a), (.ref b)] below meth c s₁ [] 0 0 := Stand.of_body Bd
  have e0 : s₁.heap = h0 := by rw [← hh, Bd.state]; rfl
  have N0 := Fr.nil n0
  show own_Go p e below s (Q3 Z a b ac at_ bc bt h0 n0) ({ frames := 0, cells := 0, slots := 0, locals := 0 } : Room).cells ({ frames := 0, cells := 0, slots := 0, locals := 0 } : Room).slots (s₁.setTop (entryFrame m #[(.ref a), (.ref b)] 2))
  refine own_via (fun t k => castTop (ef_3 m a b) k) ?_
  show own_Go p e below s _ _ _ (s₁.setTop (mkF m 0 #[.val (.ref a), .val (.ref b)] []))
  refine own_via (fun _ k => XS.aloadN X0.here hx rfl (hb hby d3_0) rfl rfl k) ?_
  show own_Go p e below s _ _ _ (s₁.setTop (mkF m 1 #[.val (.ref a), .val (.ref b)] [(.ref a)]))
  obtain ⟨T1, X1, e1, st1⟩ := getF X0 hx hZ hown (host := "") (Or.inl (hw _ (List.mem_of_getElem? (i := 9) rfl))) Via.refl e0 F_covered_a (g := (mkF m 1 #[.val (.ref a), .val (.ref b)] [(.ref a)])) rfl rfl (hb hby d3_1)
  refine own_via st1 ?_
  show own_Go p e below s _ _ _ (T1.setTop (mkF m 4 #[.val (.ref a), .val (.ref b)] [(.long ac)]))
  refine own_via (fun _ k => XS.aloadN X1.here hx rfl (hb hby d3_4) rfl rfl k) ?_
  show own_Go p e below s _ _ _ (T1.setTop (mkF m 5 #[.val (.ref a), .val (.ref b)] [(.ref b), (.long ac)]))
  obtain ⟨T2, X2, e2, st2⟩ := getF X1 hx hZ hown (host := "") (Or.inl (hw _ (List.mem_of_getElem? (i := 9) rfl))) Via.refl e1 F_covered_b (g := (mkF m 5 #[.val (.ref a), .val (.ref b)] [(.ref b), (.long ac)])) rfl rfl (hb hby d3_5)
  refine own_via st2 ?_
  show own_Go p e below s _ _ _ (T2.setTop (mkF m 8 #[.val (.ref a), .val (.ref b)] [(.long bc), (.long ac)]))
  refine own_via (fun _ k => XS.lcmp X2.here hx rfl (hb hby d3_8) rfl k) ?_
  show own_Go p e below s _ _ _ (T2.setTop (mkF m 9 #[.val (.ref a), .val (.ref b)] [(.int (lcmpW ac bc))]))
  by_cases hc3 : ac = bc
  · refine own_via (fun _ k => XS.ifYes X2.here hx rfl (pc0 := 9) (pc' := 32) rfl (hb hby d3_9) rfl (Jvm.Free.XT.ll_eq_t hc3) (by decide) (by decide) k) ?_
    show own_Go p e below s _ _ _ (T2.setTop (mkF m 32 #[.val (.ref a), .val (.ref b)] []))
    refine own_via (fun _ k => XS.aloadN X2.here hx rfl (hb hby d3_32) rfl rfl k) ?_
    show own_Go p e below s _ _ _ (T2.setTop (mkF m 33 #[.val (.ref a), .val (.ref b)] [(.ref a)]))
    obtain ⟨T4, X4, e4, st4⟩ := getF X2 hx hZ hown (host := "") (Or.inl (hw _ (List.mem_of_getElem? (i := 11) rfl))) Via.refl e2 F_twice_a (g := (mkF m 33 #[.val (.ref a), .val (.ref b)] [(.ref a)])) rfl rfl (hb hby d3_33)
    refine own_via st4 ?_
    show own_Go p e below s _ _ _ (T4.setTop (mkF m 36 #[.val (.ref a), .val (.ref b)] [(.long at_)]))
    refine own_via (fun _ k => XS.aloadN X4.here hx rfl (hb hby d3_36) rfl rfl k) ?_
    show own_Go p e below s _ _ _ (T4.setTop (mkF m 37 #[.val (.ref a), .val (.ref b)] [(.ref b), (.long at_)]))
    obtain ⟨T5, X5, e5, st5⟩ := getF X4 hx hZ hown (host := "") (Or.inl (hw _ (List.mem_of_getElem? (i := 11) rfl))) Via.refl e4 F_twice_b (g := (mkF m 37 #[.val (.ref a), .val (.ref b)] [(.ref b), (.long at_)])) rfl rfl (hb hby d3_37)
    refine own_via st5 ?_
    show own_Go p e below s _ _ _ (T5.setTop (mkF m 40 #[.val (.ref a), .val (.ref b)] [(.long bt), (.long at_)]))
    refine own_via (fun _ k => XS.lcmp X5.here hx rfl (hb hby d3_40) rfl k) ?_
    show own_Go p e below s _ _ _ (T5.setTop (mkF m 41 #[.val (.ref a), .val (.ref b)] [(.int (lcmpW at_ bt))]))
    by_cases hc6 : bt < at_
    · refine own_via (fun _ k => XS.ifNo X5.here hx rfl (hb hby d3_41) rfl (Jvm.Free.XT.ll_le_f hc6) k) ?_
      show own_Go p e below s _ _ _ (T5.setTop (mkF m 44 #[.val (.ref a), .val (.ref b)] []))
      refine own_via (fun _ k => XS.iconst X5.here hx rfl (hb hby d3_44) k) ?_
      show own_Go p e below s _ _ _ (T5.setTop (mkF m 45 #[.val (.ref a), .val (.ref b)] [(.int (1 : Int32))]))
      refine own_via (fun _ k => XS.goto X5.here hx rfl (pc0 := 45) (pc' := 49) rfl (hb hby d3_45) (by decide) (by decide) k) ?_
      show own_Go p e below s _ _ _ (T5.setTop (mkF m 49 #[.val (.ref a), .val (.ref b)] [(.int (1 : Int32))]))
      exact own_goN X5 hx (t := .boolean) Bd.returns (by simp) (hb hby d3_49) Bd.notSynchronized (by decide) (by decide) (by rw [e5]; exact ⟨by rw [own_f, if_pos hc3, if_pos hc6] <;> rfl, N0, rfl⟩)
    · refine own_via (fun _ k => XS.ifYes X5.here hx rfl (pc0 := 41) (pc' := 48) rfl (hb hby d3_41) rfl (Jvm.Free.XT.ll_le_t hc6) (by decide) (by decide) k) ?_
      show own_Go p e below s _ _ _ (T5.setTop (mkF m 48 #[.val (.ref a), .val (.ref b)] []))
      refine own_via (fun _ k => XS.iconst X5.here hx rfl (hb hby d3_48) k) ?_
      show own_Go p e below s _ _ _ (T5.setTop (mkF m 49 #[.val (.ref a), .val (.ref b)] [(.int (0 : Int32))]))
      exact own_goN X5 hx (t := .boolean) Bd.returns (by simp) (hb hby d3_49) Bd.notSynchronized (by decide) (by decide) (by rw [e5]; exact ⟨by rw [own_f, if_pos hc3, if_neg hc6] <;> rfl, N0, rfl⟩)
  · refine own_via (fun _ k => XS.ifNo X2.here hx rfl (hb hby d3_9) rfl (Jvm.Free.XT.ll_eq_f hc3) k) ?_
    show own_Go p e below s _ _ _ (T2.setTop (mkF m 12 #[.val (.ref a), .val (.ref b)] []))
    refine own_via (fun _ k => XS.aloadN X2.here hx rfl (hb hby d3_12) rfl rfl k) ?_
    show own_Go p e below s _ _ _ (T2.setTop (mkF m 13 #[.val (.ref a), .val (.ref b)] [(.ref a)]))
    obtain ⟨T7, X7, e7, st7⟩ := getF X2 hx hZ hown (host := "") (Or.inl (hw _ (List.mem_of_getElem? (i := 9) rfl))) Via.refl e2 F_covered_a (g := (mkF m 13 #[.val (.ref a), .val (.ref b)] [(.ref a)])) rfl rfl (hb hby d3_13)
    refine own_via st7 ?_
    show own_Go p e below s _ _ _ (T7.setTop (mkF m 16 #[.val (.ref a), .val (.ref b)] [(.long ac)]))
    refine own_via (fun _ k => XS.aloadN X7.here hx rfl (hb hby d3_16) rfl rfl k) ?_
    show own_Go p e below s _ _ _ (T7.setTop (mkF m 17 #[.val (.ref a), .val (.ref b)] [(.ref b), (.long ac)]))
    obtain ⟨T8, X8, e8, st8⟩ := getF X7 hx hZ hown (host := "") (Or.inl (hw _ (List.mem_of_getElem? (i := 9) rfl))) Via.refl e7 F_covered_b (g := (mkF m 17 #[.val (.ref a), .val (.ref b)] [(.ref b), (.long ac)])) rfl rfl (hb hby d3_17)
    refine own_via st8 ?_
    show own_Go p e below s _ _ _ (T8.setTop (mkF m 20 #[.val (.ref a), .val (.ref b)] [(.long bc), (.long ac)]))
    refine own_via (fun _ k => XS.lcmp X8.here hx rfl (hb hby d3_20) rfl k) ?_
    show own_Go p e below s _ _ _ (T8.setTop (mkF m 21 #[.val (.ref a), .val (.ref b)] [(.int (lcmpW ac bc))]))
    by_cases hc9 : bc < ac
    · refine own_via (fun _ k => XS.ifNo X8.here hx rfl (hb hby d3_21) rfl (Jvm.Free.XT.ll_le_f hc9) k) ?_
      show own_Go p e below s _ _ _ (T8.setTop (mkF m 24 #[.val (.ref a), .val (.ref b)] []))
      refine own_via (fun _ k => XS.iconst X8.here hx rfl (hb hby d3_24) k) ?_
      show own_Go p e below s _ _ _ (T8.setTop (mkF m 25 #[.val (.ref a), .val (.ref b)] [(.int (1 : Int32))]))
      refine own_via (fun _ k => XS.goto X8.here hx rfl (pc0 := 25) (pc' := 49) rfl (hb hby d3_25) (by decide) (by decide) k) ?_
      show own_Go p e below s _ _ _ (T8.setTop (mkF m 49 #[.val (.ref a), .val (.ref b)] [(.int (1 : Int32))]))
      exact own_goN X8 hx (t := .boolean) Bd.returns (by simp) (hb hby d3_49) Bd.notSynchronized (by decide) (by decide) (by rw [e8]; exact ⟨by rw [own_f, if_neg hc3, if_pos hc9] <;> rfl, N0, rfl⟩)
    · refine own_via (fun _ k => XS.ifYes X8.here hx rfl (pc0 := 21) (pc' := 28) rfl (hb hby d3_21) rfl (Jvm.Free.XT.ll_le_t hc9) (by decide) (by decide) k) ?_
      show own_Go p e below s _ _ _ (T8.setTop (mkF m 28 #[.val (.ref a), .val (.ref b)] []))
      refine own_via (fun _ k => XS.iconst X8.here hx rfl (hb hby d3_28) k) ?_
      show own_Go p e below s _ _ _ (T8.setTop (mkF m 29 #[.val (.ref a), .val (.ref b)] [(.int (0 : Int32))]))
      refine own_via (fun _ k => XS.goto X8.here hx rfl (pc0 := 29) (pc' := 49) rfl (hb hby d3_29) (by decide) (by decide) k) ?_
      show own_Go p e below s _ _ _ (T8.setTop (mkF m 49 #[.val (.ref a), .val (.ref b)] [(.int (0 : Int32))]))
      exact own_goN X8 hx (t := .boolean) Bd.returns (by simp) (hb hby d3_49) Bd.notSynchronized (by decide) (by decide) (by rw [e8]; exact ⟨by rw [own_f, if_neg hc3, if_neg hc9] <;> rfl, N0, rfl⟩)

theorem own_plain (a b c d : Int64) : own_f a b c d = (if c < a then (1 : Int32) else (if a < c then (0 : Int32) else (if d < b then (1 : Int32) else (0 : Int32)))) := by
  unfold own_f
  simp only [Int64.lt_iff_toInt_lt, ← Int64.toInt_inj]
  (repeat' split) <;> first | rfl | (exfalso; omega)

theorem pd_0 : parseMethodDescriptor "(JJ)V" = some ⟨[.long, .long], none⟩ := by decide +kernel
theorem pd_1 : parseMethodDescriptor "(Lcom/example/unalike/unalike/engine/PairTally$Change;)Z" = some ⟨[(.object "com/example/unalike/unalike/engine/PairTally$Change")], some .boolean⟩ := by decide +kernel
theorem pn_1 : plainName "com/example/unalike/unalike/engine/ChangeIsBetterThanPinLaw" = true := by first | (simp [plainName, overriddenIn]; done) | decide +kernel
theorem ef_0 (m : MethodId) (x0 : Int64) (x1 : Int64) (x2 : Int64) (x3 : Int64) (x4 : Int32) : entryFrame m #[(.long x0), (.long x1), (.long x2), (.long x3), (.int x4)] maxLocals = mkF m 0 #[.val (.long x0), .second, .val (.long x1), .second, .val (.long x2), .second, .val (.long x3), .second, .val (.int x4), .unset, .unset, .unset, .unset, .unset, .unset, .unset] [] := by first | (simp [entryFrame, mkF, argsToLocals, Value.category, maxLocals]; done) | rfl
def Q0 (Z : State) (p0 : Int64) (p1 : Int64) (p2 : Int64) (p3 : Int64) (p4 : Int32) (h0 : Heap) (n0 : Nat) (v : Option Value) (h : Heap) (L : List Loc) : Prop := v = some (.int 1) ∧ Fr n0 L
set_option maxRecDepth 65536 in
set_option maxHeartbeats 40000000 in
theorem rm0 (l : Launch) (Z : State) (a0 : Array Value) (hw : ∀ d ∈ tables_1, d.before a0 Z = true) (ws : List Jvm.Cond) (p0 : Int64) (p1 : Int64) (p2 : Int64) (p3 : Int64) (p4 : Int32) (h0 : Heap) (n0 : Nat) (Z0 : n0 ≤ h0.size) :
    MetFree l x (head1 (Jvm.Cond.code x code maxLocals ret :: ws) room_1) (fun q_ U => q_ = #[(.long p0), (.long p1), (.long p2), (.long p3), (.int p4)] ∧ Z.Warmed39 U.vm ∧ U.heap = h0) (fun _ _ _ _ _ => True) (fun _ U o U' => ∃ v L, o = .returned v ∧ Q0 Z p0 p1 p2 p3 p4 h0 n0 v U'.heap L ∧ FrameEnd U o U' L room_1.cells room_1.slots) := by
  refine MetFree.of_bodySF (plainFor_of_name pn_1) hisR ?_
  intro p e s m args below meth c s₁ Bd hml0 hP hK
  obtain ⟨rfl, hZ, hh⟩ := hP
  have hx := Bd.exec
  have hby := Bd.bytes
  have hml : c.maxLocals = 16 := hml0
  have hown : s.vm.findClass "com/example/unalike/unalike/engine/ChangeIsBetterThanPinLaw" = some m.cls := findClass_of_methodNamed Bd.named
  have hnm := (name_of_methodNamed Bd.named Bd.method).1
  have X0 : Stand p l e room_1 s m #[(.long p0), (.long p1), (.long p2), (.long p3), (.int p4)] below meth c s₁ [] 0 0 := Stand.of_body Bd
  have e0 : s₁.heap = h0 := by rw [← hh, Bd.state]; rfl
  have N0 := Fr.nil n0
  show own_Go p e below s (Q0 Z p0 p1 p2 p3 p4 h0 n0) room_1.cells room_1.slots (s₁.setTop (entryFrame m #[(.long p0), (.long p1), (.long p2), (.long p3), (.int p4)] maxLocals))
  refine own_via (fun t k => castTop (ef_0 m p0 p1 p2 p3 p4) k) ?_
  show own_Go p e below s _ _ _ (s₁.setTop (mkF m 0 #[.val (.long p0), .second, .val (.long p1), .second, .val (.long p2), .second, .val (.long p3), .second, .val (.int p4), .unset, .unset, .unset, .unset, .unset, .unset, .unset] []))
  have st1 : ∀ t, Steps p.tables e below (s₁.setTop (mkF m 13 #[.val (.long p0), .second, .val (.long p1), .second, .val (.long p2), .second, .val (.long p3), .second, .val (.int p4), .unset, .unset, .unset, .unset, .unset, .unset, .unset] [(.long (if (p4 &&& (1 : Int32)) = (0 : Int32) then p2 else p0))])) t → Steps p.tables e below (s₁.setTop (mkF m 0 #[.val (.long p0), .second, .val (.long p1), .second, .val (.long p2), .second, .val (.long p3), .second, .val (.int p4), .unset, .unset, .unset, .unset, .unset, .unset, .unset] [])) t := by
    intro t k
    refine XS.iload X0.here hx rfl (hb hby at_0) rfl ?_
    show Steps p.tables e below (s₁.setTop (mkF m 2 #[.val (.long p0), .second, .val (.long p1), .second, .val (.long p2), .second, .val (.long p3), .second, .val (.int p4), .unset, .unset, .unset, .unset, .unset, .unset, .unset] [(.int p4)])) t
    refine XS.iconst X0.here hx rfl (hb hby at_2) ?_
    show Steps p.tables e below (s₁.setTop (mkF m 3 #[.val (.long p0), .second, .val (.long p1), .second, .val (.long p2), .second, .val (.long p3), .second, .val (.int p4), .unset, .unset, .unset, .unset, .unset, .unset, .unset] [(.int (1 : Int32)), (.int p4)])) t
    refine XS.iand X0.here hx rfl (hb hby at_3) rfl ?_
    show Steps p.tables e below (s₁.setTop (mkF m 4 #[.val (.long p0), .second, .val (.long p1), .second, .val (.long p2), .second, .val (.long p3), .second, .val (.int p4), .unset, .unset, .unset, .unset, .unset, .unset, .unset] [(.int (p4 &&& (1 : Int32)))])) t
    by_cases hq2 : (p4 &&& (1 : Int32)) = (0 : Int32)
    · refine XS.ifYes X0.here hx rfl (pc0 := 4) (pc' := 11) rfl (hb hby at_4) rfl (Jvm.Free.XT.i0_eq_t hq2) (by decide) (by decide) ?_
      show Steps p.tables e below (s₁.setTop (mkF m 11 #[.val (.long p0), .second, .val (.long p1), .second, .val (.long p2), .second, .val (.long p3), .second, .val (.int p4), .unset, .unset, .unset, .unset, .unset, .unset, .unset] [])) t
      refine XS.lload X0.here hx rfl (hb hby at_11) rfl ?_
      show Steps p.tables e below (s₁.setTop (mkF m 13 #[.val (.long p0), .second, .val (.long p1), .second, .val (.long p2), .second, .val (.long p3), .second, .val (.int p4), .unset, .unset, .unset, .unset, .unset, .unset, .unset] [(.long p2)])) t
      simp only [if_pos hq2] at k
      exact k
    · refine XS.ifNo X0.here hx rfl (hb hby at_4) rfl (Jvm.Free.XT.i0_eq_f hq2) ?_
      show Steps p.tables e below (s₁.setTop (mkF m 7 #[.val (.long p0), .second, .val (.long p1), .second, .val (.long p2), .second, .val (.long p3), .second, .val (.int p4), .unset, .unset, .unset, .unset, .unset, .unset, .unset] [])) t
      refine XS.lloadN X0.here hx rfl (hb hby at_7) rfl ?_
      show Steps p.tables e below (s₁.setTop (mkF m 8 #[.val (.long p0), .second, .val (.long p1), .second, .val (.long p2), .second, .val (.long p3), .second, .val (.int p4), .unset, .unset, .unset, .unset, .unset, .unset, .unset] [(.long p0)])) t
      refine XS.goto X0.here hx rfl (pc0 := 8) (pc' := 13) rfl (hb hby at_8) (by decide) (by decide) ?_
      show Steps p.tables e below (s₁.setTop (mkF m 13 #[.val (.long p0), .second, .val (.long p1), .second, .val (.long p2), .second, .val (.long p3), .second, .val (.int p4), .unset, .unset, .unset, .unset, .unset, .unset, .unset] [(.long p0)])) t
      simp only [if_neg hq2] at k
      exact k
  refine own_via st1 ?_
  show own_Go p e below s _ _ _ (s₁.setTop (mkF m 13 #[.val (.long p0), .second, .val (.long p1), .second, .val (.long p2), .second, .val (.long p3), .second, .val (.int p4), .unset, .unset, .unset, .unset, .unset, .unset, .unset] [(.long (if (p4 &&& (1 : Int32)) = (0 : Int32) then p2 else p0))]))
  refine own_via (fun _ k => XS.lstore X0.here hx rfl (hb hby at_13) rfl (l' := #[.val (.long p0), .second, .val (.long p1), .second, .val (.long p2), .second, .val (.long p3), .second, .val (.int p4), .val (.long (if (p4 &&& (1 : Int32)) = (0 : Int32) then p2 else p0)), .second, .unset, .unset, .unset, .unset, .unset]) rfl k) ?_
  show own_Go p e below s _ _ _ (s₁.setTop (mkF m 15 #[.val (.long p0), .second, .val (.long p1), .second, .val (.long p2), .second, .val (.long p3), .second, .val (.int p4), .val (.long (if (p4 &&& (1 : Int32)) = (0 : Int32) then p2 else p0)), .second, .unset, .unset, .unset, .unset, .unset] []))
  generalize hv3 : (if (p4 &&& (1 : Int32)) = (0 : Int32) then p2 else p0) = v3
  show own_Go p e below s _ _ _ (s₁.setTop (mkF m 15 #[.val (.long p0), .second, .val (.long p1), .second, .val (.long p2), .second, .val (.long p3), .second, .val (.int p4), .val (.long v3), .second, .unset, .unset, .unset, .unset, .unset] []))
  have st4 : ∀ t, Steps p.tables e below (s₁.setTop (mkF m 28 #[.val (.long p0), .second, .val (.long p1), .second, .val (.long p2), .second, .val (.long p3), .second, .val (.int p4), .val (.long v3), .second, .unset, .unset, .unset, .unset, .unset] [(.long (if (p4 &&& (2 : Int32)) = (0 : Int32) then p3 else p1))])) t → Steps p.tables e below (s₁.setTop (mkF m 15 #[.val (.long p0), .second, .val (.long p1), .second, .val (.long p2), .second, .val (.long p3), .second, .val (.int p4), .val (.long v3), .second, .unset, .unset, .unset, .unset, .unset] [])) t := by
    intro t k
    refine XS.iload X0.here hx rfl (hb hby at_15) rfl ?_
    show Steps p.tables e below (s₁.setTop (mkF m 17 #[.val (.long p0), .second, .val (.long p1), .second, .val (.long p2), .second, .val (.long p3), .second, .val (.int p4), .val (.long v3), .second, .unset, .unset, .unset, .unset, .unset] [(.int p4)])) t
    refine XS.iconst X0.here hx rfl (hb hby at_17) ?_
    show Steps p.tables e below (s₁.setTop (mkF m 18 #[.val (.long p0), .second, .val (.long p1), .second, .val (.long p2), .second, .val (.long p3), .second, .val (.int p4), .val (.long v3), .second, .unset, .unset, .unset, .unset, .unset] [(.int (2 : Int32)), (.int p4)])) t
    refine XS.iand X0.here hx rfl (hb hby at_18) rfl ?_
    show Steps p.tables e below (s₁.setTop (mkF m 19 #[.val (.long p0), .second, .val (.long p1), .second, .val (.long p2), .second, .val (.long p3), .second, .val (.int p4), .val (.long v3), .second, .unset, .unset, .unset, .unset, .unset] [(.int (p4 &&& (2 : Int32)))])) t
    by_cases hq5 : (p4 &&& (2 : Int32)) = (0 : Int32)
    · refine XS.ifYes X0.here hx rfl (pc0 := 19) (pc' := 26) rfl (hb hby at_19) rfl (Jvm.Free.XT.i0_eq_t hq5) (by decide) (by decide) ?_
      show Steps p.tables e below (s₁.setTop (mkF m 26 #[.val (.long p0), .second, .val (.long p1), .second, .val (.long p2), .second, .val (.long p3), .second, .val (.int p4), .val (.long v3), .second, .unset, .unset, .unset, .unset, .unset] [])) t
      refine XS.lload X0.here hx rfl (hb hby at_26) rfl ?_
      show Steps p.tables e below (s₁.setTop (mkF m 28 #[.val (.long p0), .second, .val (.long p1), .second, .val (.long p2), .second, .val (.long p3), .second, .val (.int p4), .val (.long v3), .second, .unset, .unset, .unset, .unset, .unset] [(.long p3)])) t
      simp only [if_pos hq5] at k
      exact k
    · refine XS.ifNo X0.here hx rfl (hb hby at_19) rfl (Jvm.Free.XT.i0_eq_f hq5) ?_
      show Steps p.tables e below (s₁.setTop (mkF m 22 #[.val (.long p0), .second, .val (.long p1), .second, .val (.long p2), .second, .val (.long p3), .second, .val (.int p4), .val (.long v3), .second, .unset, .unset, .unset, .unset, .unset] [])) t
      refine XS.lloadN X0.here hx rfl (hb hby at_22) rfl ?_
      show Steps p.tables e below (s₁.setTop (mkF m 23 #[.val (.long p0), .second, .val (.long p1), .second, .val (.long p2), .second, .val (.long p3), .second, .val (.int p4), .val (.long v3), .second, .unset, .unset, .unset, .unset, .unset] [(.long p1)])) t
      refine XS.goto X0.here hx rfl (pc0 := 23) (pc' := 28) rfl (hb hby at_23) (by decide) (by decide) ?_
      show Steps p.tables e below (s₁.setTop (mkF m 28 #[.val (.long p0), .second, .val (.long p1), .second, .val (.long p2), .second, .val (.long p3), .second, .val (.int p4), .val (.long v3), .second, .unset, .unset, .unset, .unset, .unset] [(.long p1)])) t
      simp only [if_neg hq5] at k
      exact k
  refine own_via st4 ?_
  show own_Go p e below s _ _ _ (s₁.setTop (mkF m 28 #[.val (.long p0), .second, .val (.long p1), .second, .val (.long p2), .second, .val (.long p3), .second, .val (.int p4), .val (.long v3), .second, .unset, .unset, .unset, .unset, .unset] [(.long (if (p4 &&& (2 : Int32)) = (0 : Int32) then p3 else p1))]))
  refine own_via (fun _ k => XS.lstore X0.here hx rfl (hb hby at_28) rfl (l' := #[.val (.long p0), .second, .val (.long p1), .second, .val (.long p2), .second, .val (.long p3), .second, .val (.int p4), .val (.long v3), .second, .val (.long (if (p4 &&& (2 : Int32)) = (0 : Int32) then p3 else p1)), .second, .unset, .unset, .unset]) rfl k) ?_
  show own_Go p e below s _ _ _ (s₁.setTop (mkF m 30 #[.val (.long p0), .second, .val (.long p1), .second, .val (.long p2), .second, .val (.long p3), .second, .val (.int p4), .val (.long v3), .second, .val (.long (if (p4 &&& (2 : Int32)) = (0 : Int32) then p3 else p1)), .second, .unset, .unset, .unset] []))
  generalize hv6 : (if (p4 &&& (2 : Int32)) = (0 : Int32) then p3 else p1) = v6
  show own_Go p e below s _ _ _ (s₁.setTop (mkF m 30 #[.val (.long p0), .second, .val (.long p1), .second, .val (.long p2), .second, .val (.long p3), .second, .val (.int p4), .val (.long v3), .second, .val (.long v6), .second, .unset, .unset, .unset] []))
  obtain ⟨T7, h7, X7, e7, E7, A7, D7, -, st7⟩ := newO X0 hx hZ hown (hw _ (List.mem_of_getElem? (i := 0) rfl)) (hw _ (List.mem_of_getElem? (i := 1) rfl)) (hw _ (List.mem_of_getElem? (i := 2) rfl)) e0 (g := (mkF m 30 #[.val (.long p0), .second, .val (.long p1), .second, .val (.long p2), .second, .val (.long p3), .second, .val (.int p4), .val (.long v3), .second, .val (.long v6), .second, .unset, .unset, .unset] [])) rfl (hb hby at_30) (by decide) (by decide)
  obtain ⟨b7, gg7⟩ : ∃ z, z = h0.size := ⟨_, rfl⟩
  rw [← gg7] at A7 D7 st7
  have g_b7 : n0 ≤ b7 := Nat.le_trans Z0 (Nat.le_of_eq gg7.symm)
  have Z7 : n0 ≤ h7.size := Nat.le_trans Z0 E7.1
  have F8 : Fld Z h7 b7 "com/example/unalike/unalike/engine/PairTally$Change" "covered" "J" (.long (0 : Int64)) := D7 (Or.inr (hw _ (List.mem_of_getElem? (i := 10) rfl))) (ty := .long) (by decide)
  have F9 : Fld Z h7 b7 "com/example/unalike/unalike/engine/PairTally$Change" "twice" "J" (.long (0 : Int64)) := D7 (Or.inr (hw _ (List.mem_of_getElem? (i := 12) rfl))) (ty := .long) (by decide)
  refine own_via st7 ?_
  show own_Go p e below s _ _ _ (T7.setTop (mkF m 33 #[.val (.long p0), .second, .val (.long p1), .second, .val (.long p2), .second, .val (.long p3), .second, .val (.int p4), .val (.long v3), .second, .val (.long v6), .second, .unset, .unset, .unset] [(.ref b7)]))
  refine own_via (fun _ k => XS.dup X7.here hx rfl (hb hby at_33) rfl rfl k) ?_
  show own_Go p e below s _ _ _ (T7.setTop (mkF m 34 #[.val (.long p0), .second, .val (.long p1), .second, .val (.long p2), .second, .val (.long p3), .second, .val (.int p4), .val (.long v3), .second, .val (.long v6), .second, .unset, .unset, .unset] [(.ref b7), (.ref b7)]))
  refine own_via (fun _ k => XS.lloadN X7.here hx rfl (hb hby at_34) rfl k) ?_
  show own_Go p e below s _ _ _ (T7.setTop (mkF m 35 #[.val (.long p0), .second, .val (.long p1), .second, .val (.long p2), .second, .val (.long p3), .second, .val (.int p4), .val (.long v3), .second, .val (.long v6), .second, .unset, .unset, .unset] [(.long p0), (.ref b7), (.ref b7)]))
  refine own_via (fun _ k => XS.lloadN X7.here hx rfl (hb hby at_35) rfl k) ?_
  show own_Go p e below s _ _ _ (T7.setTop (mkF m 36 #[.val (.long p0), .second, .val (.long p1), .second, .val (.long p2), .second, .val (.long p3), .second, .val (.int p4), .val (.long v3), .second, .val (.long v6), .second, .unset, .unset, .unset] [(.long p1), (.long p0), (.ref b7), (.ref b7)]))
  obtain ⟨_, _, ⟨T10, L10, k10, n10⟩, -, X10, ⟨Lc10, hQ10, l10, y10, z10⟩, st10⟩ := X7.specialBack hx (y := (⟨"com/example/unalike/unalike/engine/PairTally$Change", "<init>", "(JJ)V"⟩ : MethodName)) rfl hown (mvT hZ (hw _ (List.mem_of_getElem? (i := 3) rfl))) (mvT hZ (hw _ (List.mem_of_getElem? (i := 4) rfl))) (mvT hZ (hw _ (List.mem_of_getElem? (i := 5) rfl))) (by decide) (backOf (W := 1) (rm1 l Z a0 hw [] b7 p0 p1 h7 n0 Z7 A7 F8 F9 g_b7) hZ (hw _ (List.mem_of_getElem? (i := 5) rfl)) (hw _ (List.mem_of_getElem? (i := 2) rfl)) (by decide) (by decide)) (g := (mkF m 36 #[.val (.long p0), .second, .val (.long p1), .second, .val (.long p2), .second, .val (.long p3), .second, .val (.int p4), .val (.long v3), .second, .val (.long v6), .second, .unset, .unset, .unset] [(.long p1), (.long p0), (.ref b7), (.ref b7)])) rfl (by rw [hml]; rfl) (Steps.refl _) (a := b7) (argsL := [(.long p0), (.long p1)]) (rest := [(.ref b7)]) (lenOf pd_0 rfl) rfl (by show 2 * 0 + _ ≤ _; exact Nat.le_of_eq rfl) (hb hby at_36) (fun _ _ => ⟨rfl, e7, (by decide : 1 + 0 ≤ _), (by decide : 2 + 0 ≤ _)⟩)
  dsimp only [Pt.U, Pt.locs, Pt.cells, Pt.slots] at X10 l10 y10 z10 st10 hQ10
  subst l10 y10 z10
  obtain ⟨h10, e10⟩ : ∃ h, T10.heap = h := ⟨_, rfl⟩
  rw [e10] at hQ10
  obtain ⟨rfl, N10q, Kq10, F11, F12, F13⟩ := hQ10
  have Z10 : n0 ≤ h10.size := Nat.le_trans Z7 Kq10.1
  have N10 := Fr.app N0 N10q
  refine own_viaT st10 ?_
  show own_Go p e below s _ _ _ (T10.setTop (mkF m 39 #[.val (.long p0), .second, .val (.long p1), .second, .val (.long p2), .second, .val (.long p3), .second, .val (.int p4), .val (.long v3), .second, .val (.long v6), .second, .unset, .unset, .unset] [(.ref b7)]))
  refine own_via (fun _ k => XS.astore X10.here hx rfl (hb hby at_39) rfl rfl (l' := #[.val (.long p0), .second, .val (.long p1), .second, .val (.long p2), .second, .val (.long p3), .second, .val (.int p4), .val (.long v3), .second, .val (.long v6), .second, .val (.ref b7), .unset, .unset]) rfl k) ?_
  show own_Go p e below s _ _ _ (T10.setTop (mkF m 41 #[.val (.long p0), .second, .val (.long p1), .second, .val (.long p2), .second, .val (.long p3), .second, .val (.int p4), .val (.long v3), .second, .val (.long v6), .second, .val (.ref b7), .unset, .unset] []))
  obtain ⟨T14, h14, X14, e14, E14, A14, D14, -, st14⟩ := newO X10 hx hZ hown (hw _ (List.mem_of_getElem? (i := 0) rfl)) (hw _ (List.mem_of_getElem? (i := 1) rfl)) (hw _ (List.mem_of_getElem? (i := 2) rfl)) e10 (g := (mkF m 41 #[.val (.long p0), .second, .val (.long p1), .second, .val (.long p2), .second, .val (.long p3), .second, .val (.int p4), .val (.long v3), .second, .val (.long v6), .second, .val (.ref b7), .unset, .unset] [])) rfl (hb hby at_41) (by decide) (by decide)
  obtain ⟨b14, gg14⟩ : ∃ z, z = h10.size := ⟨_, rfl⟩
  rw [← gg14] at A14 D14 st14
  have ne_b7_b14 : b7 ≠ b14 := Nat.ne_of_lt (Nat.lt_of_lt_of_le F11.lt (Nat.le_of_eq gg14.symm))
  have g_b14 : n0 ≤ b14 := Nat.le_trans Z10 (Nat.le_of_eq gg14.symm)
  have Z14 : n0 ≤ h14.size := Nat.le_trans Z10 E14.1
  have F15 : Fld Z h14 b14 "com/example/unalike/unalike/engine/PairTally$Change" "covered" "J" (.long (0 : Int64)) := D14 (Or.inr (hw _ (List.mem_of_getElem? (i := 10) rfl))) (ty := .long) (by decide)
  have F16 : Fld Z h14 b14 "com/example/unalike/unalike/engine/PairTally$Change" "twice" "J" (.long (0 : Int64)) := D14 (Or.inr (hw _ (List.mem_of_getElem? (i := 12) rfl))) (ty := .long) (by decide)
  refine own_via st14 ?_
  show own_Go p e below s _ _ _ (T14.setTop (mkF m 44 #[.val (.long p0), .second, .val (.long p1), .second, .val (.long p2), .second, .val (.long p3), .second, .val (.int p4), .val (.long v3), .second, .val (.long v6), .second, .val (.ref b7), .unset, .unset] [(.ref b14)]))
  refine own_via (fun _ k => XS.dup X14.here hx rfl (hb hby at_44) rfl rfl k) ?_
  show own_Go p e below s _ _ _ (T14.setTop (mkF m 45 #[.val (.long p0), .second, .val (.long p1), .second, .val (.long p2), .second, .val (.long p3), .second, .val (.int p4), .val (.long v3), .second, .val (.long v6), .second, .val (.ref b7), .unset, .unset] [(.ref b14), (.ref b14)]))
  refine own_via (fun _ k => XS.lload X14.here hx rfl (hb hby at_45) rfl k) ?_
  show own_Go p e below s _ _ _ (T14.setTop (mkF m 47 #[.val (.long p0), .second, .val (.long p1), .second, .val (.long p2), .second, .val (.long p3), .second, .val (.int p4), .val (.long v3), .second, .val (.long v6), .second, .val (.ref b7), .unset, .unset] [(.long v3), (.ref b14), (.ref b14)]))
  refine own_via (fun _ k => XS.lload X14.here hx rfl (hb hby at_47) rfl k) ?_
  show own_Go p e below s _ _ _ (T14.setTop (mkF m 49 #[.val (.long p0), .second, .val (.long p1), .second, .val (.long p2), .second, .val (.long p3), .second, .val (.int p4), .val (.long v3), .second, .val (.long v6), .second, .val (.ref b7), .unset, .unset] [(.long v6), (.long v3), (.ref b14), (.ref b14)]))
  obtain ⟨_, _, ⟨T17, L17, k17, n17⟩, -, X17, ⟨Lc17, hQ17, l17, y17, z17⟩, st17⟩ := X14.specialBack hx (y := (⟨"com/example/unalike/unalike/engine/PairTally$Change", "<init>", "(JJ)V"⟩ : MethodName)) rfl hown (mvT hZ (hw _ (List.mem_of_getElem? (i := 3) rfl))) (mvT hZ (hw _ (List.mem_of_getElem? (i := 4) rfl))) (mvT hZ (hw _ (List.mem_of_getElem? (i := 5) rfl))) (by decide) (backOf (W := 1) (rm1 l Z a0 hw [] b14 v3 v6 h14 n0 Z14 A14 F15 F16 g_b14) hZ (hw _ (List.mem_of_getElem? (i := 5) rfl)) (hw _ (List.mem_of_getElem? (i := 2) rfl)) (by decide) (by decide)) (g := (mkF m 49 #[.val (.long p0), .second, .val (.long p1), .second, .val (.long p2), .second, .val (.long p3), .second, .val (.int p4), .val (.long v3), .second, .val (.long v6), .second, .val (.ref b7), .unset, .unset] [(.long v6), (.long v3), (.ref b14), (.ref b14)])) rfl (by rw [hml]; rfl) (Steps.refl _) (a := b14) (argsL := [(.long v3), (.long v6)]) (rest := [(.ref b14)]) (lenOf pd_0 rfl) rfl (by show 2 * 0 + _ ≤ _; exact Nat.le_of_eq rfl) (hb hby at_49) (fun _ _ => ⟨rfl, e14, (by decide : 2 + 0 ≤ _), (by decide : 4 + 0 ≤ _)⟩)
  dsimp only [Pt.U, Pt.locs, Pt.cells, Pt.slots] at X17 l17 y17 z17 st17 hQ17
  subst l17 y17 z17
  obtain ⟨h17, e17⟩ : ∃ h, T17.heap = h := ⟨_, rfl⟩
  rw [e17] at hQ17
  obtain ⟨rfl, N17q, Kq17, F18, F19, F20⟩ := hQ17
  have Z17 : n0 ≤ h17.size := Nat.le_trans Z14 Kq17.1
  have N17 := Fr.app N10 N17q
  refine own_viaT st17 ?_
  show own_Go p e below s _ _ _ (T17.setTop (mkF m 52 #[.val (.long p0), .second, .val (.long p1), .second, .val (.long p2), .second, .val (.long p3), .second, .val (.int p4), .val (.long v3), .second, .val (.long v6), .second, .val (.ref b7), .unset, .unset] [(.ref b14)]))
  refine own_via (fun _ k => XS.astore X17.here hx rfl (hb hby at_52) rfl rfl (l' := #[.val (.long p0), .second, .val (.long p1), .second, .val (.long p2), .second, .val (.long p3), .second, .val (.int p4), .val (.long v3), .second, .val (.long v6), .second, .val (.ref b7), .val (.ref b14), .unset]) rfl k) ?_
  show own_Go p e below s _ _ _ (T17.setTop (mkF m 54 #[.val (.long p0), .second, .val (.long p1), .second, .val (.long p2), .second, .val (.long p3), .second, .val (.int p4), .val (.long v3), .second, .val (.long v6), .second, .val (.ref b7), .val (.ref b14), .unset] []))
  have st21 : ∀ t, Steps p.tables e below (T17.setTop (mkF m 94 #[.val (.long p0), .second, .val (.long p1), .second, .val (.long p2), .second, .val (.long p3), .second, .val (.int p4), .val (.long v3), .second, .val (.long v6), .second, .val (.ref b7), .val (.ref b14), .val (.int (if v3 < p0 then (1 : Int32) else (if p0 < v3 then (0 : Int32) else (if v6 < p1 then (1 : Int32) else (0 : Int32)))))] [])) t → Steps p.tables e below (T17.setTop (mkF m 54 #[.val (.long p0), .second, .val (.long p1), .second, .val (.long p2), .second, .val (.long p3), .second, .val (.int p4), .val (.long v3), .second, .val (.long v6), .second, .val (.ref b7), .val (.ref b14), .unset] [])) t := by
    intro t k
    refine XS.lloadN X17.here hx rfl (hb hby at_54) rfl ?_
    show Steps p.tables e below (T17.setTop (mkF m 55 #[.val (.long p0), .second, .val (.long p1), .second, .val (.long p2), .second, .val (.long p3), .second, .val (.int p4), .val (.long v3), .second, .val (.long v6), .second, .val (.ref b7), .val (.ref b14), .unset] [(.long p0)])) t
    refine XS.lload X17.here hx rfl (hb hby at_55) rfl ?_
    show Steps p.tables e below (T17.setTop (mkF m 57 #[.val (.long p0), .second, .val (.long p1), .second, .val (.long p2), .second, .val (.long p3), .second, .val (.int p4), .val (.long v3), .second, .val (.long v6), .second, .val (.ref b7), .val (.ref b14), .unset] [(.long v3), (.long p0)])) t
    refine XS.lcmp X17.here hx rfl (hb hby at_57) rfl ?_
    show Steps p.tables e below (T17.setTop (mkF m 58 #[.val (.long p0), .second, .val (.long p1), .second, .val (.long p2), .second, .val (.long p3), .second, .val (.int p4), .val (.long v3), .second, .val (.long v6), .second, .val (.ref b7), .val (.ref b14), .unset] [(.int (lcmpW p0 v3))])) t
    by_cases hq22 : v3 < p0
    · refine XS.ifNo X17.here hx rfl (hb hby at_58) rfl (Jvm.Free.XT.ll_le_f hq22) ?_
      show Steps p.tables e below (T17.setTop (mkF m 61 #[.val (.long p0), .second, .val (.long p1), .second, .val (.long p2), .second, .val (.long p3), .second, .val (.int p4), .val (.long v3), .second, .val (.long v6), .second, .val (.ref b7), .val (.ref b14), .unset] [])) t
      refine XS.iconst X17.here hx rfl (hb hby at_61) ?_
      show Steps p.tables e below (T17.setTop (mkF m 62 #[.val (.long p0), .second, .val (.long p1), .second, .val (.long p2), .second, .val (.long p3), .second, .val (.int p4), .val (.long v3), .second, .val (.long v6), .second, .val (.ref b7), .val (.ref b14), .unset] [(.int (1 : Int32))])) t
      refine XS.istore X17.here hx rfl (hb hby at_62) rfl (l' := #[.val (.long p0), .second, .val (.long p1), .second, .val (.long p2), .second, .val (.long p3), .second, .val (.int p4), .val (.long v3), .second, .val (.long v6), .second, .val (.ref b7), .val (.ref b14), .val (.int (1 : Int32))]) rfl ?_
      show Steps p.tables e below (T17.setTop (mkF m 64 #[.val (.long p0), .second, .val (.long p1), .second, .val (.long p2), .second, .val (.long p3), .second, .val (.int p4), .val (.long v3), .second, .val (.long v6), .second, .val (.ref b7), .val (.ref b14), .val (.int (1 : Int32))] [])) t
      refine XS.goto X17.here hx rfl (pc0 := 64) (pc' := 94) rfl (hb hby at_64) (by decide) (by decide) ?_
      show Steps p.tables e below (T17.setTop (mkF m 94 #[.val (.long p0), .second, .val (.long p1), .second, .val (.long p2), .second, .val (.long p3), .second, .val (.int p4), .val (.long v3), .second, .val (.long v6), .second, .val (.ref b7), .val (.ref b14), .val (.int (1 : Int32))] [])) t
      simp only [if_pos hq22] at k
      exact k
    · refine XS.ifYes X17.here hx rfl (pc0 := 58) (pc' := 67) rfl (hb hby at_58) rfl (Jvm.Free.XT.ll_le_t hq22) (by decide) (by decide) ?_
      show Steps p.tables e below (T17.setTop (mkF m 67 #[.val (.long p0), .second, .val (.long p1), .second, .val (.long p2), .second, .val (.long p3), .second, .val (.int p4), .val (.long v3), .second, .val (.long v6), .second, .val (.ref b7), .val (.ref b14), .unset] [])) t
      refine XS.lloadN X17.here hx rfl (hb hby at_67) rfl ?_
      show Steps p.tables e below (T17.setTop (mkF m 68 #[.val (.long p0), .second, .val (.long p1), .second, .val (.long p2), .second, .val (.long p3), .second, .val (.int p4), .val (.long v3), .second, .val (.long v6), .second, .val (.ref b7), .val (.ref b14), .unset] [(.long p0)])) t
      refine XS.lload X17.here hx rfl (hb hby at_68) rfl ?_
      show Steps p.tables e below (T17.setTop (mkF m 70 #[.val (.long p0), .second, .val (.long p1), .second, .val (.long p2), .second, .val (.long p3), .second, .val (.int p4), .val (.long v3), .second, .val (.long v6), .second, .val (.ref b7), .val (.ref b14), .unset] [(.long v3), (.long p0)])) t
      refine XS.lcmp X17.here hx rfl (hb hby at_70) rfl ?_
      show Steps p.tables e below (T17.setTop (mkF m 71 #[.val (.long p0), .second, .val (.long p1), .second, .val (.long p2), .second, .val (.long p3), .second, .val (.int p4), .val (.long v3), .second, .val (.long v6), .second, .val (.ref b7), .val (.ref b14), .unset] [(.int (lcmpW p0 v3))])) t
      by_cases hq23 : p0 < v3
      · refine XS.ifNo X17.here hx rfl (hb hby at_71) rfl (Jvm.Free.XT.ll_ge_f hq23) ?_
        show Steps p.tables e below (T17.setTop (mkF m 74 #[.val (.long p0), .second, .val (.long p1), .second, .val (.long p2), .second, .val (.long p3), .second, .val (.int p4), .val (.long v3), .second, .val (.long v6), .second, .val (.ref b7), .val (.ref b14), .unset] [])) t
        refine XS.iconst X17.here hx rfl (hb hby at_74) ?_
        show Steps p.tables e below (T17.setTop (mkF m 75 #[.val (.long p0), .second, .val (.long p1), .second, .val (.long p2), .second, .val (.long p3), .second, .val (.int p4), .val (.long v3), .second, .val (.long v6), .second, .val (.ref b7), .val (.ref b14), .unset] [(.int (0 : Int32))])) t
        refine XS.istore X17.here hx rfl (hb hby at_75) rfl (l' := #[.val (.long p0), .second, .val (.long p1), .second, .val (.long p2), .second, .val (.long p3), .second, .val (.int p4), .val (.long v3), .second, .val (.long v6), .second, .val (.ref b7), .val (.ref b14), .val (.int (0 : Int32))]) rfl ?_
        show Steps p.tables e below (T17.setTop (mkF m 77 #[.val (.long p0), .second, .val (.long p1), .second, .val (.long p2), .second, .val (.long p3), .second, .val (.int p4), .val (.long v3), .second, .val (.long v6), .second, .val (.ref b7), .val (.ref b14), .val (.int (0 : Int32))] [])) t
        refine XS.goto X17.here hx rfl (pc0 := 77) (pc' := 94) rfl (hb hby at_77) (by decide) (by decide) ?_
        show Steps p.tables e below (T17.setTop (mkF m 94 #[.val (.long p0), .second, .val (.long p1), .second, .val (.long p2), .second, .val (.long p3), .second, .val (.int p4), .val (.long v3), .second, .val (.long v6), .second, .val (.ref b7), .val (.ref b14), .val (.int (0 : Int32))] [])) t
        simp only [if_neg hq22, if_pos hq23] at k
        exact k
      · refine XS.ifYes X17.here hx rfl (pc0 := 71) (pc' := 80) rfl (hb hby at_71) rfl (Jvm.Free.XT.ll_ge_t hq23) (by decide) (by decide) ?_
        show Steps p.tables e below (T17.setTop (mkF m 80 #[.val (.long p0), .second, .val (.long p1), .second, .val (.long p2), .second, .val (.long p3), .second, .val (.int p4), .val (.long v3), .second, .val (.long v6), .second, .val (.ref b7), .val (.ref b14), .unset] [])) t
        refine XS.lloadN X17.here hx rfl (hb hby at_80) rfl ?_
        show Steps p.tables e below (T17.setTop (mkF m 81 #[.val (.long p0), .second, .val (.long p1), .second, .val (.long p2), .second, .val (.long p3), .second, .val (.int p4), .val (.long v3), .second, .val (.long v6), .second, .val (.ref b7), .val (.ref b14), .unset] [(.long p1)])) t
        refine XS.lload X17.here hx rfl (hb hby at_81) rfl ?_
        show Steps p.tables e below (T17.setTop (mkF m 83 #[.val (.long p0), .second, .val (.long p1), .second, .val (.long p2), .second, .val (.long p3), .second, .val (.int p4), .val (.long v3), .second, .val (.long v6), .second, .val (.ref b7), .val (.ref b14), .unset] [(.long v6), (.long p1)])) t
        refine XS.lcmp X17.here hx rfl (hb hby at_83) rfl ?_
        show Steps p.tables e below (T17.setTop (mkF m 84 #[.val (.long p0), .second, .val (.long p1), .second, .val (.long p2), .second, .val (.long p3), .second, .val (.int p4), .val (.long v3), .second, .val (.long v6), .second, .val (.ref b7), .val (.ref b14), .unset] [(.int (lcmpW p1 v6))])) t
        by_cases hq24 : v6 < p1
        · refine XS.ifNo X17.here hx rfl (hb hby at_84) rfl (Jvm.Free.XT.ll_le_f hq24) ?_
          show Steps p.tables e below (T17.setTop (mkF m 87 #[.val (.long p0), .second, .val (.long p1), .second, .val (.long p2), .second, .val (.long p3), .second, .val (.int p4), .val (.long v3), .second, .val (.long v6), .second, .val (.ref b7), .val (.ref b14), .unset] [])) t
          refine XS.iconst X17.here hx rfl (hb hby at_87) ?_
          show Steps p.tables e below (T17.setTop (mkF m 88 #[.val (.long p0), .second, .val (.long p1), .second, .val (.long p2), .second, .val (.long p3), .second, .val (.int p4), .val (.long v3), .second, .val (.long v6), .second, .val (.ref b7), .val (.ref b14), .unset] [(.int (1 : Int32))])) t
          refine XS.goto X17.here hx rfl (pc0 := 88) (pc' := 92) rfl (hb hby at_88) (by decide) (by decide) ?_
          show Steps p.tables e below (T17.setTop (mkF m 92 #[.val (.long p0), .second, .val (.long p1), .second, .val (.long p2), .second, .val (.long p3), .second, .val (.int p4), .val (.long v3), .second, .val (.long v6), .second, .val (.ref b7), .val (.ref b14), .unset] [(.int (1 : Int32))])) t
          refine XS.istore X17.here hx rfl (hb hby at_92) rfl (l' := #[.val (.long p0), .second, .val (.long p1), .second, .val (.long p2), .second, .val (.long p3), .second, .val (.int p4), .val (.long v3), .second, .val (.long v6), .second, .val (.ref b7), .val (.ref b14), .val (.int (1 : Int32))]) rfl ?_
          show Steps p.tables e below (T17.setTop (mkF m 94 #[.val (.long p0), .second, .val (.long p1), .second, .val (.long p2), .second, .val (.long p3), .second, .val (.int p4), .val (.long v3), .second, .val (.long v6), .second, .val (.ref b7), .val (.ref b14), .val (.int (1 : Int32))] [])) t
          simp only [if_neg hq22, if_neg hq23, if_pos hq24] at k
          exact k
        · refine XS.ifYes X17.here hx rfl (pc0 := 84) (pc' := 91) rfl (hb hby at_84) rfl (Jvm.Free.XT.ll_le_t hq24) (by decide) (by decide) ?_
          show Steps p.tables e below (T17.setTop (mkF m 91 #[.val (.long p0), .second, .val (.long p1), .second, .val (.long p2), .second, .val (.long p3), .second, .val (.int p4), .val (.long v3), .second, .val (.long v6), .second, .val (.ref b7), .val (.ref b14), .unset] [])) t
          refine XS.iconst X17.here hx rfl (hb hby at_91) ?_
          show Steps p.tables e below (T17.setTop (mkF m 92 #[.val (.long p0), .second, .val (.long p1), .second, .val (.long p2), .second, .val (.long p3), .second, .val (.int p4), .val (.long v3), .second, .val (.long v6), .second, .val (.ref b7), .val (.ref b14), .unset] [(.int (0 : Int32))])) t
          refine XS.istore X17.here hx rfl (hb hby at_92) rfl (l' := #[.val (.long p0), .second, .val (.long p1), .second, .val (.long p2), .second, .val (.long p3), .second, .val (.int p4), .val (.long v3), .second, .val (.long v6), .second, .val (.ref b7), .val (.ref b14), .val (.int (0 : Int32))]) rfl ?_
          show Steps p.tables e below (T17.setTop (mkF m 94 #[.val (.long p0), .second, .val (.long p1), .second, .val (.long p2), .second, .val (.long p3), .second, .val (.int p4), .val (.long v3), .second, .val (.long v6), .second, .val (.ref b7), .val (.ref b14), .val (.int (0 : Int32))] [])) t
          simp only [if_neg hq22, if_neg hq23, if_neg hq24] at k
          exact k
  refine own_via st21 ?_
  show own_Go p e below s _ _ _ (T17.setTop (mkF m 94 #[.val (.long p0), .second, .val (.long p1), .second, .val (.long p2), .second, .val (.long p3), .second, .val (.int p4), .val (.long v3), .second, .val (.long v6), .second, .val (.ref b7), .val (.ref b14), .val (.int (if v3 < p0 then (1 : Int32) else (if p0 < v3 then (0 : Int32) else (if v6 < p1 then (1 : Int32) else (0 : Int32)))))] []))
  generalize hv25 : (if v3 < p0 then (1 : Int32) else (if p0 < v3 then (0 : Int32) else (if v6 < p1 then (1 : Int32) else (0 : Int32)))) = v25
  show own_Go p e below s _ _ _ (T17.setTop (mkF m 94 #[.val (.long p0), .second, .val (.long p1), .second, .val (.long p2), .second, .val (.long p3), .second, .val (.int p4), .val (.long v3), .second, .val (.long v6), .second, .val (.ref b7), .val (.ref b14), .val (.int v25)] []))
  refine own_via (fun _ k => XS.aload X17.here hx rfl (hb hby at_94) rfl rfl k) ?_
  show own_Go p e below s _ _ _ (T17.setTop (mkF m 96 #[.val (.long p0), .second, .val (.long p1), .second, .val (.long p2), .second, .val (.long p3), .second, .val (.int p4), .val (.long v3), .second, .val (.long v6), .second, .val (.ref b7), .val (.ref b14), .val (.int v25)] [(.ref b7)]))
  refine own_via (fun _ k => XS.aload X17.here hx rfl (hb hby at_96) rfl rfl k) ?_
  show own_Go p e below s _ _ _ (T17.setTop (mkF m 98 #[.val (.long p0), .second, .val (.long p1), .second, .val (.long p2), .second, .val (.long p3), .second, .val (.int p4), .val (.long v3), .second, .val (.long v6), .second, .val (.ref b7), .val (.ref b14), .val (.int v25)] [(.ref b14), (.ref b7)]))
  have F27 := ((F12.ext E14).keep Kq17 (ninS ne_b7_b14 nin0))
  have F28 := ((F13.ext E14).keep Kq17 (ninS ne_b7_b14 nin0))
  have F29 := ((F11.ext E14).keep Kq17)
  obtain ⟨cq26, kq26, qa26, qb26, qc26⟩ := isOf hZ e17 F29
  obtain ⟨_, _, ⟨T26, L26, k26, n26⟩, -, X26, ⟨Lc26, hQ26, l26, y26, z26⟩, st26⟩ := X17.virtualBack hx (y := (⟨"com/example/unalike/unalike/engine/PairTally$Change", "isBetterThan", "(Lcom/example/unalike/unalike/engine/PairTally$Change;)Z"⟩ : MethodName)) (z := (⟨"com/example/unalike/unalike/engine/PairTally$Change", "isBetterThan", "(Lcom/example/unalike/unalike/engine/PairTally$Change;)Z"⟩ : MethodName)) hown (mvT hZ (hw _ (List.mem_of_getElem? (i := 13) rfl))) (mvT hZ (hw _ (List.mem_of_getElem? (i := 14) rfl))) (notFace_of_selects (args := #[]) (mvT hZ (hw _ (List.mem_of_getElem? (i := 16) rfl)))) (mvT hZ (hw _ (List.mem_of_getElem? (i := 16) rfl))) (mvT hZ (hw _ (List.mem_of_getElem? (i := 15) rfl))) (by decide) (backOf (W := 0) (rm3 l Z a0 hw [] b7 b14 p0 p1 v3 v6 h17 n0 Z17 F27 F28 F19 F20) hZ (hw _ (List.mem_of_getElem? (i := 17) rfl)) (hw _ (List.mem_of_getElem? (i := 2) rfl)) (by decide) (by decide)) qa26 qc26 (g := (mkF m 98 #[.val (.long p0), .second, .val (.long p1), .second, .val (.long p2), .second, .val (.long p3), .second, .val (.int p4), .val (.long v3), .second, .val (.long v6), .second, .val (.ref b7), .val (.ref b14), .val (.int v25)] [(.ref b14), (.ref b7)])) rfl (by rw [hml]; rfl) (Steps.refl _) (argsL := [(.ref b14)]) (rest := []) (lenOf pd_1 rfl) rfl (by show 2 * 0 + _ ≤ _; exact Nat.le_of_eq rfl) (hb hby at_98) (fun _ _ => ⟨rfl, e17, (by decide : 2 + 0 ≤ _), (by decide : 4 + 0 ≤ _)⟩)
  dsimp only [Pt.U, Pt.locs, Pt.cells, Pt.slots] at X26 l26 y26 z26 st26 hQ26
  subst l26 y26 z26
  obtain ⟨rfl, N26q, e26⟩ := hQ26
  have N26 := Fr.app N17 N26q
  refine own_viaT st26 ?_
  show own_Go p e below s _ _ _ (T26.setTop (mkF m 101 #[.val (.long p0), .second, .val (.long p1), .second, .val (.long p2), .second, .val (.long p3), .second, .val (.int p4), .val (.long v3), .second, .val (.long v6), .second, .val (.ref b7), .val (.ref b14), .val (.int v25)] [(.int (own_f p0 p1 v3 v6))]))
  refine own_via (fun _ k => XS.iload X26.here hx rfl (hb hby at_101) rfl k) ?_
  show own_Go p e below s _ _ _ (T26.setTop (mkF m 103 #[.val (.long p0), .second, .val (.long p1), .second, .val (.long p2), .second, .val (.long p3), .second, .val (.int p4), .val (.long v3), .second, .val (.long v6), .second, .val (.ref b7), .val (.ref b14), .val (.int v25)] [(.int v25), (.int (own_f p0 p1 v3 v6))]))
  have hc30 : (own_f p0 p1 v3 v6) = v25 := by subst_vars; exact own_plain _ _ _ _
  refine own_via (fun _ k => XS.icmpNo X26.here hx rfl (hb hby at_103) rfl (Jvm.Free.XT.ii_ne_f hc30) k) ?_
  show own_Go p e below s _ _ _ (T26.setTop (mkF m 106 #[.val (.long p0), .second, .val (.long p1), .second, .val (.long p2), .second, .val (.long p3), .second, .val (.int p4), .val (.long v3), .second, .val (.long v6), .second, .val (.ref b7), .val (.ref b14), .val (.int v25)] []))
  refine own_via (fun _ k => XS.iconst X26.here hx rfl (hb hby at_106) k) ?_
  show own_Go p e below s _ _ _ (T26.setTop (mkF m 107 #[.val (.long p0), .second, .val (.long p1), .second, .val (.long p2), .second, .val (.long p3), .second, .val (.int p4), .val (.long v3), .second, .val (.long v6), .second, .val (.ref b7), .val (.ref b14), .val (.int v25)] [(.int (1 : Int32))]))
  refine own_via (fun _ k => XS.goto X26.here hx rfl (pc0 := 107) (pc' := 111) rfl (hb hby at_107) (by decide) (by decide) k) ?_
  show own_Go p e below s _ _ _ (T26.setTop (mkF m 111 #[.val (.long p0), .second, .val (.long p1), .second, .val (.long p2), .second, .val (.long p3), .second, .val (.int p4), .val (.long v3), .second, .val (.long v6), .second, .val (.ref b7), .val (.ref b14), .val (.int v25)] [(.int (1 : Int32))]))
  exact own_goN X26 hx (t := .boolean) Bd.returns (by simp) (hb hby at_111) Bd.notSynchronized (by decide) (by decide) (by rw [e26]; exact ⟨rfl, N26⟩)
set_option maxRecDepth 65536 in
set_option maxHeartbeats 40000000 in
theorem comes_1 {Post : Tables → Env → Array Value → State → Outcome → State → Prop} (hpost : ∀ tb e args s v u, (limb_1_1.after args s (.returned v) u = true ∧ limb_1_2.after args s (.returned v) u = true ∧ True) → FrameEnd s (.returned v) u (Jvm.fieldLocs frame_1_writes args s ++ Jvm.arrayLocs frame_1_arrays args s ++ Jvm.staticLocs frame_1_statics s) 16 128 → Post tb e args s (.returned v) u) :
    ArmFor flags0 classFile x code maxLocals ret World_1 tables_1 room_1 Calls_1 rest_1 Pre_1 Post := by
  intro l hfl _ _ p e ha hc hk s m args below hf hA hF happ hP
  obtain ⟨hcalls, hrest, hpre⟩ := hP
  obtain ⟨-, -, -, hnamed, -, -, -, hat⟩ := (Spec.applies_iff hf).mp happ
  obtain ⟨hg, hn⟩ := and_e (Cond.before_iff.mp (show (Jvm.Cond.and given_1 narrow_1).before args s = true from hpre))
  obtain ⟨g1, g2⟩ := and_e hg
  obtain ⟨g3, g4⟩ := and_e g2
  obtain ⟨g5, g6⟩ := and_e g4
  obtain ⟨g7, g8⟩ := and_e g6
  obtain ⟨g9, g10⟩ := and_e g8
  obtain ⟨w0, w1, w2, w3, w4, rfl⟩ : ∃ w0 w1 w2 w3 w4 : Value, args = #[w0, w1, w2, w3, w4] := by
    have hs : args.size = 5 := by simpa [Cond.value, given_1] using g1
    obtain ⟨L⟩ := args
    match L, hs with
    | [w0, w1, w2, w3, w4], _ => exact ⟨w0, w1, w2, w3, w4, rfl⟩
  have hw := fun d (hd : d ∈ tables_1) => atoms_spec (ws := Jvm.Cond.code x code maxLocals ret :: tables_1) hat d (List.mem_cons_of_mem _ hd)
  have hfit : Fit s := fun {y c} hc i hi => by
    obtain ⟨ha, rfl⟩ := Array.getElem?_eq_some_iff.mp hc
    have q := List.all_eq_true.mp ((Array.all_eq_true_iff_forall_mem.mp hF) _ (Array.getElem_mem ha)) i (List.mem_range.mpr hi)
    simpa [Array.getElem?_eq_getElem hi] using q
  obtain ⟨i0, ei0⟩ := isL_v g3
  obtain rfl : w0 = (.long i0) := Option.some.inj ei0
  obtain ⟨i1, ei1⟩ := isL_v g5
  obtain rfl : w1 = (.long i1) := Option.some.inj ei1
  obtain ⟨i2, ei2⟩ := isL_v g7
  obtain rfl : w2 = (.long i2) := Option.some.inj ei2
  obtain ⟨i3, ei3⟩ := isL_v g9
  obtain rfl : w3 = (.long i3) := Option.some.inj ei3
  obtain ⟨i4, ei4⟩ := is_v g10
  obtain rfl : w4 = (.int i4) := Option.some.inj ei4
  obtain ⟨n, o, h1, h2, h3, _, L, rfl, ⟨rfl, N⟩, hq⟩ := rm0 l s _ hw tables_1 i0 i1 i2 i3 i4 s.heap s.heap.size (Nat.le_refl _)  p e ha hc hk s m _ below hf ((Spec.applies_iff_loose hf).mp happ).1 ⟨rfl, State.Warmed39.refl s, rfl⟩ trivial
  refine ⟨n, _, h1, h2, h3, hpost _ _ _ _ _ _ ⟨Cond.after_iff.mpr rfl, Cond.after_iff.mpr (eq_i res_at (Term.int_eval (1)) rfl), trivial⟩ ⟨hq.1, hq.2.1, (hq.2.2.sift fun y hy => Or.inr (N y hy)).mono (by decide) (by decide)⟩⟩
theorem main_1_1 : Claimed_1_1 := comes_1 fun _ _ _ _ _ _ h hF => ⟨h.1, hF⟩
theorem main_1_2 : Claimed_1_2 := comes_1 fun _ _ _ _ _ _ h hF => ⟨h.2.1, hF⟩
end Jvm.Pilot.@@N@@
namespace Jvm.Pilot.@@N@@
open Jvm Jvm.ClassFile Sem Op Lib Jvm.Free Jvm.Stand Jvm.Pilot.@@N@@.Jvm.D
/-! MADE BY PROGRAM (witnessworld.py) out of the Statement's table words and the real class files: 7 classes; the members and pool entries that the words name. The judged class is class 1, her method 1. -/
namespace start1
open Jvm.ClassFile
def u (s : String) : CpInfo := .utf8 (stringToUtf16 s)
/-- a pool by its gaps: so many unusable entries, then the entry; so many at the end -/
def gap : Nat → List CpInfo → List CpInfo
  | 0, r => r
  | n + 1, r => .unusable :: gap n r
def poolList (es : List (Nat × CpInfo)) (last : Nat) : List CpInfo := es.foldr (fun e r => gap e.1 (e.2 :: r)) (gap last [])
def pool (es : List (Nat × CpInfo)) (last : Nat) : Array CpInfo := ⟨poolList es last⟩
def fileOf (pool : Array CpInfo) (this : Nat) (attrs : Array Attribute := #[]) (ms : Array MethodInfo := #[]) (fl : Nat := 33) (sup : Nat := 0) (ifs : Array Nat := #[]) (fds : Array FieldInfo := #[]) : ClassFile where
  minorVersion := 0
  majorVersion := 65
  constantPool := pool
  accessFlags := fl
  thisClass := this
  superClass := sup
  interfaces := ifs
  fields := fds
  methods := ms
  attributes := attrs
def plain (name : String) (sup : Option ClassId) : Class where
  name := name
  kind := .ordinary
  loader := none
  accessFlags := 33
  super := sup
  interfaces := #[]
  cf := none
  fields := #[]
  methods := #[]
  instanceTypes := #[]
  staticTypes := #[]
  resolved := #[]
  callSites := []
  init := .initialized
  statics := none
  mirror := none

def pool0 : Array CpInfo := pool [(5, u "<init>"), (0, u "()V"), (1, .class_ 10), (1, u "java/lang/Object")] 113

def k0c0 : Code := { maxStack := 0, maxLocals := 1, code := object_method_1_code, exceptionTable := #[], attributes := #[] }
def k0m0 : Method := { name := "<init>", desc := "()V", sig := { parameters := [], returnType := none }, accessFlags := 1, code := some k0c0 }
/-- java/lang/Object -/
def k0 : Class := { plain "java/lang/Object" none with
  accessFlags := 33
  interfaces := #[]
  cf := some (fileOf pool0 8 #[] #[{ accessFlags := 1, nameIndex := 5, descriptorIndex := 6, attributes := #[] }] 33 0 #[] #[])
  fields := #[]
  methods := #[k0m0]
  instanceTypes := #[]
  staticTypes := #[]
  resolved := Array.replicate 124 none
  statics := none }

def pool1 : Array CpInfo := pool [(2, .class_ 4), (1, u "java/lang/Object"), (0, u "<init>"), (0, u "()V"), (0, .class_ 8), (0, u "com/example/unalike/unalike/engine/PairTally$Change"), (0, .methodref 7 10), (0, .nameAndType 5 11), (0, u "(JJ)V"), (0, .methodref 7 13), (0, .nameAndType 14 15), (0, u "isBetterThan"), (0, u "(Lcom/example/unalike/unalike/engine/PairTally$Change;)Z"), (0, .class_ 17), (0, u "com/example/unalike/unalike/engine/ChangeIsBetterThanPinLaw"), (2, u "law"), (0, u "(JJJJI)Z")] 7

def k1m0 : Method := { name := "<init>", desc := "()V", sig := { parameters := [], returnType := none }, accessFlags := 1, code := none }
def k1c1 : Code := { maxStack := 6, maxLocals := 16, code := code, exceptionTable := #[], attributes := #[] }
def k1m1 : Method := { name := "law", desc := "(JJJJI)Z", sig := { parameters := [.long, .long, .long, .long, .int], returnType := some .boolean }, accessFlags := 9, code := some k1c1 }
/-- com/example/unalike/unalike/engine/ChangeIsBetterThanPinLaw -/
def k1 : Class := { plain "com/example/unalike/unalike/engine/ChangeIsBetterThanPinLaw" (some 0) with
  accessFlags := 49
  interfaces := #[]
  cf := some (fileOf pool1 16 #[] #[{ accessFlags := 1, nameIndex := 5, descriptorIndex := 6, attributes := #[] }, { accessFlags := 9, nameIndex := 20, descriptorIndex := 21, attributes := #[] }] 49 2 #[] #[])
  fields := #[]
  methods := #[k1m0, k1m1]
  instanceTypes := #[]
  staticTypes := #[]
  resolved := Array.replicate 29 none
  statics := none }

def pool2 : Array CpInfo := pool [(1, .methodref 2 3), (0, .class_ 4), (0, .nameAndType 5 6), (0, u "java/lang/Object"), (0, u "<init>"), (0, u "()V"), (0, .fieldref 8 9), (0, .class_ 10), (0, .nameAndType 11 12), (0, u "com/example/unalike/unalike/engine/PairTally$Change"), (0, u "covered"), (0, u "J"), (0, .fieldref 8 14), (0, .nameAndType 15 12), (0, u "twice"), (14, u "(JJ)V"), (2, u "NONE"), (0, u "Lcom/example/unalike/unalike/engine/PairTally$Change;"), (3, u "isBetterThan"), (0, u "(Lcom/example/unalike/unalike/engine/PairTally$Change;)Z"), (10, .class_ 51), (0, u "com/example/unalike/unalike/engine/PairTally")] 16

def k2c0 : Code := { maxStack := 3, maxLocals := 5, code := prog_15_method_1_code, exceptionTable := #[], attributes := #[] }
def k2m0 : Method := { name := "<init>", desc := "(JJ)V", sig := { parameters := [.long, .long], returnType := none }, accessFlags := 0, code := some k2c0 }
def k2c1 : Code := { maxStack := 4, maxLocals := 2, code := prog_15_method_3_code, exceptionTable := #[], attributes := #[] }
def k2m1 : Method := { name := "isBetterThan", desc := "(Lcom/example/unalike/unalike/engine/PairTally$Change;)Z", sig := { parameters := [(.object "com/example/unalike/unalike/engine/PairTally$Change")], returnType := some .boolean }, accessFlags := 0, code := some k2c1 }
/-- com/example/unalike/unalike/engine/PairTally$Change -/
def k2 : Class := { plain "com/example/unalike/unalike/engine/PairTally$Change" (some 0) with
  accessFlags := 48
  interfaces := #[]
  cf := some (fileOf pool2 8 #[.nestHost 50] #[{ accessFlags := 0, nameIndex := 5, descriptorIndex := 30, attributes := #[] }, { accessFlags := 0, nameIndex := 38, descriptorIndex := 39, attributes := #[] }] 48 2 #[] #[{ accessFlags := 24, nameIndex := 33, descriptorIndex := 34, attributes := #[] }, { accessFlags := 18, nameIndex := 11, descriptorIndex := 12, attributes := #[] }, { accessFlags := 18, nameIndex := 15, descriptorIndex := 12, attributes := #[] }])
  fields := #[{ name := "NONE", type := (.object "com/example/unalike/unalike/engine/PairTally$Change"), accessFlags := 24, slot := 0, constantValue := 0 }, { name := "covered", type := .long, accessFlags := 18, slot := 0, constantValue := 0 }, { name := "twice", type := .long, accessFlags := 18, slot := 1, constantValue := 0 }]
  methods := #[k2m0, k2m1]
  instanceTypes := #[.long, .long]
  staticTypes := #[(.object "com/example/unalike/unalike/engine/PairTally$Change")]
  resolved := Array.replicate 68 none
  statics := none }

def pool3 : Array CpInfo := pool [(1, u "java/lang/Cloneable"), (0, .class_ 1), (0, u "java/lang/Object"), (0, .class_ 3)] 3

/-- java/lang/Cloneable -/
def k3 : Class := { plain "java/lang/Cloneable" (some 0) with
  accessFlags := 1537
  interfaces := #[]
  cf := some (fileOf pool3 2 #[] #[] 1537 4 #[] #[])
  fields := #[]
  methods := #[]
  instanceTypes := #[]
  staticTypes := #[]
  resolved := Array.replicate 8 none
  statics := none }

def pool4 : Array CpInfo := pool [(1, u "java/io/Serializable"), (0, .class_ 1), (0, u "java/lang/Object"), (0, .class_ 3)] 3

/-- java/io/Serializable -/
def k4 : Class := { plain "java/io/Serializable" (some 0) with
  accessFlags := 1537
  interfaces := #[]
  cf := some (fileOf pool4 2 #[] #[] 1537 4 #[] #[])
  fields := #[]
  methods := #[]
  instanceTypes := #[]
  staticTypes := #[]
  resolved := Array.replicate 8 none
  statics := none }

/-- the primitive byte -/
def k5 : Class := { plain "byte" none with kind := .primitive 'B', accessFlags := 0x411 }
/-- [B -/
def k6 : Class := { plain "[B" (some 0) with kind := .array 5 .byte, interfaces := #[3, 4], accessFlags := 1041 }

def heap : Heap := #[]
def classes : Array Class := #[k0, k1, k2, k3, k4, k5, k6]
def interned : List (Array UInt16 × Addr) := []
def slotsUsed : Nat := 0
def theMethod : MethodId := ⟨1, 1⟩
def args0 : Array Value := #[.long 5, .long 6, .long 7, .long 8, .int 3]
def aboutOver (below : List Frame) : State where
  vm := { classes := classes, interned := interned.toArray }
  heap := heap
  slotsUsed := slotsUsed
  threads := #[{ frames := .invoking theMethod args0 :: below }]
def below0 : List Frame := [.native { method := ⟨0, 0⟩, args := #[] }]
def about1 : State := aboutOver below0
def p0 : Program := .bare "" "" ""
def e0 : Env := launch0.env 0 0 0
theorem w_frames : about1.frames = Frame.invoking theMethod args0 :: below0 := rfl
set_option maxRecDepth 65536 in
theorem w_args : argsFit about1.vm theMethod args0 = true := by decide +kernel
set_option maxRecDepth 65536 in
theorem w_heap : heapFits about1 = true := by decide +kernel
set_option maxRecDepth 65536 in
theorem w_runnable : about1.curStatus? = some .runnable := by decide +kernel
set_option maxRecDepth 65536 in
theorem w_alone : about1.alone = true := by decide +kernel
set_option maxRecDepth 65536 in
theorem w_named : about1.methodNamed? x = some theMethod := by decide +kernel
set_option maxRecDepth 65536 in
theorem w_hears : about1.hears theMethod below0 = true := by decide +kernel
set_option maxRecDepth 65536 in
theorem w_ripe : about1.ripe theMethod args0 below0 = true := by decide +kernel
theorem w_running : about1.status = .running := rfl
set_option maxRecDepth 65536 in
theorem w_room : about1.hasRoom e0.platform room_1 = true :=
  launch0.hasRoom_least _ room_1 (by decide +kernel) (by decide +kernel) (by decide +kernel) (by decide +kernel) (by decide +kernel) (by decide +kernel)
theorem allAtoms_all (ts : List Jvm.Cond) (a : Array Jvm.Value) (st : Jvm.State) : (allAtoms ts).before a st = ts.all (fun c => c.before a st) := by
  induction ts with
  | nil => rfl
  | cons c t ih =>
    show (Jvm.Cond.and c (allAtoms t)).before a st = _
    rw [Jvm.Cond.before_and, ih, List.all_cons]
def words1 : List Jvm.Cond := Jvm.Cond.code x code maxLocals ret :: tables_1
/-- a 'code' word, met by the world's own term for the bytes: nothing is compared byte by byte -/
theorem code_word {y : MethodName} {bytes : ByteArray} {mx : Nat} {rt : Option FieldType} {a : Array Value} {s : State} {m : MethodId} {meth : Method} {c : Code} (h1 : s.methodNamed? y = some m) (h2 : s.vm.method? m = some meth) (h3 : meth.code = some c) (h4 : c.code = bytes)
    (h5 : (c.maxLocals == mx && c.exceptionTable.isEmpty && decide (c.maxStack ≤ mostOperands) && decide (meth.sig.returnType = rt) && !meth.locks && decide (parseMethodDescriptor y.desc = some meth.sig)) = true) : (Jvm.Cond.code y bytes mx rt).before a s = true := by
  simp only [Bool.and_eq_true, beq_iff_eq, Bool.not_eq_true', decide_eq_true_eq] at h5
  obtain ⟨⟨⟨⟨⟨g1, g2⟩, g3⟩, g4⟩, g5⟩, g6⟩ := h5
  simp [Cond.before, Cond.holds, Cond.value, h1, h2, h3, h4, g1, g2, g3, g4, g5, g6]
def isCode : Jvm.Cond → Bool
  | .code _ _ _ _ => true
  | _ => false
theorem all_split {L : List Jvm.Cond} {P : Jvm.Cond → Bool} (h1 : L.all (fun c => isCode c || P c) = true) (h2 : ∀ c ∈ L.filter isCode, P c = true) : L.all P = true := by
  refine List.all_eq_true.mpr fun c hc => ?_
  have h := List.all_eq_true.mp h1 c hc
  rcases Bool.eq_false_or_eq_true (isCode c) with hi | hi
  · exact h2 c (List.mem_filter.mpr ⟨hc, hi⟩)
  · simpa [hi] using h
set_option maxRecDepth 65536 in
theorem w_c0 : (Jvm.Cond.code x code maxLocals ret).before args0 about1 = true := code_word (m := ⟨1, 1⟩) (meth := k1m1) (c := k1c1) (by decide +kernel) rfl rfl rfl (by decide +kernel)
set_option maxRecDepth 65536 in
theorem w_c1 : (Jvm.Cond.code ({ cls := "com/example/unalike/unalike/engine/PairTally$Change", name := "<init>", desc := "(JJ)V" } : Jvm.MethodName) prog_15_method_1_code (5 : Nat) (Option.none : Option Jvm.ClassFile.FieldType)).before args0 about1 = true := code_word (m := ⟨2, 0⟩) (meth := k2m0) (c := k2c0) (by decide +kernel) rfl rfl rfl (by decide +kernel)
set_option maxRecDepth 65536 in
theorem w_c2 : (Jvm.Cond.code ({ cls := "java/lang/Object", name := "<init>", desc := "()V" } : Jvm.MethodName) object_method_1_code (1 : Nat) (Option.none : Option Jvm.ClassFile.FieldType)).before args0 about1 = true := code_word (m := ⟨0, 0⟩) (meth := k0m0) (c := k0c0) (by decide +kernel) rfl rfl rfl (by decide +kernel)
set_option maxRecDepth 65536 in
theorem w_c3 : (Jvm.Cond.code ({ cls := "com/example/unalike/unalike/engine/PairTally$Change", name := "isBetterThan", desc := "(Lcom/example/unalike/unalike/engine/PairTally$Change;)Z" } : Jvm.MethodName) prog_15_method_3_code (2 : Nat) (Option.some Jvm.ClassFile.FieldType.boolean)).before args0 about1 = true := code_word (m := ⟨2, 1⟩) (meth := k2m1) (c := k2c1) (by decide +kernel) rfl rfl rfl (by decide +kernel)
def codes1 : List Jvm.Cond := [Jvm.Cond.code x code maxLocals ret, Jvm.Cond.code ({ cls := "com/example/unalike/unalike/engine/PairTally$Change", name := "<init>", desc := "(JJ)V" } : Jvm.MethodName) prog_15_method_1_code (5 : Nat) (Option.none : Option Jvm.ClassFile.FieldType), Jvm.Cond.code ({ cls := "java/lang/Object", name := "<init>", desc := "()V" } : Jvm.MethodName) object_method_1_code (1 : Nat) (Option.none : Option Jvm.ClassFile.FieldType), Jvm.Cond.code ({ cls := "com/example/unalike/unalike/engine/PairTally$Change", name := "isBetterThan", desc := "(Lcom/example/unalike/unalike/engine/PairTally$Change;)Z" } : Jvm.MethodName) prog_15_method_3_code (2 : Nat) (Option.some Jvm.ClassFile.FieldType.boolean)]
set_option maxRecDepth 65536 in
theorem codes_eq : words1.filter isCode = codes1 := rfl
theorem w_codes : ∀ c ∈ words1.filter isCode, c.before args0 about1 = true := by
  rw [codes_eq]
  intro c hc
  simp only [codes1, List.mem_cons, List.not_mem_nil, or_false] at hc
  rcases hc with rfl | rfl | rfl | rfl
  · exact w_c0
  · exact w_c1
  · exact w_c2
  · exact w_c3
set_option maxRecDepth 65536 in
theorem w_t1 : words1.all (fun c => isCode c || c.before args0 about1) = true := by decide +kernel
theorem w_tables : (allAtoms (Jvm.Cond.code x code maxLocals ret :: tables_1)).before args0 about1 = true := by
  rw [allAtoms_all]
  show words1.all (fun c => c.before args0 about1) = true
  refine all_split ?_ w_codes
  rw [w_t1]
set_option maxRecDepth 65536 in
theorem w_case : (Jvm.Cond.and given_1 narrow_1).before args0 about1 = true := by decide +kernel
theorem w_applies : (headSpec (Jvm.Cond.code x code maxLocals ret :: tables_1) room_1).applies x e0.platform about1 = true :=
  (Spec.applies_iff w_frames).mpr ⟨w_running, w_runnable, w_alone, w_named, w_hears, w_ripe, w_room, w_tables⟩
theorem atStart : AtStart classFile x code maxLocals ret World_1 tables_1 room_1 Calls_1 rest_1 Pre_1 launch0 p0 e0 about1 theMethod args0 below0 :=
  ⟨lists_1, trivial, launch0.admits_env _ _ _, launch0.least_env, fairChoices_fair.cas, fairChoices_fair.clock, w_frames, w_args, w_heap, w_applies, trivial, trivial, w_case⟩
end start1
theorem witness_1 : WitnessClaimed_1 := ⟨start1.p0, start1.e0, start1.about1, start1.theMethod, start1.args0, start1.below0, start1.atStart⟩
end Jvm.Pilot.@@N@@
