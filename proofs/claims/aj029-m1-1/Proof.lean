import JvmDerived
import JvmDerived.Pilot.@@N@@Statement
import JvmDerived.Pilot.@@N@@Code
set_option linter.unusedVariables false
set_option linter.unusedSimpArgs false
namespace Jvm.Pilot.@@N@@
open Jvm Jvm.ClassFile Sem Op Lib Jvm.Free Jvm.Stand Jvm.LawKit Jvm.RoadKit Bundle Jvm.Pilot.@@N@@.Jvm.D
section OwnGo
variable {p : Program} {l : Launch} {e : Env} {R : Room} {s : State} {m : MethodId} {args : Array Value} {below : List Frame} {meth : Method} {c : Code} {T : State} {locs : List Loc} {cells slots : Nat}
/-- from S the run ends, returned, with Q -/
def own_Go (p : Program) (e : Env) (below : List Frame) (s : State) (Q : Option Value → Heap → List Loc → Prop) (cs ss : Nat) (S : State) : Prop :=
  ∃ (U : State) (o : Outcome), Steps p.tables e below S U ∧ U.status = .running ∧ Ended U below o ∧ ∃ v L, o = .returned v ∧ Q v U.heap L ∧ FrameEnd s o U L cs ss
variable {Q : Option Value → Heap → List Loc → Prop} {cs ss : Nat} {S S' : State}
theorem own_via (st : ∀ t, Steps p.tables e below S' t → Steps p.tables e below S t) (k : own_Go p e below s Q cs ss S') : own_Go p e below s Q cs ss S := by
  obtain ⟨U, o, h, r⟩ := k; exact ⟨U, o, st U h, r⟩
theorem own_viaT (st : Steps p.tables e below S S') (k : own_Go p e below s Q cs ss S') : own_Go p e below s Q cs ss S := own_via (fun _ h => st.trans h) k
theorem own_goV (X : Stand p l e R s m args below meth c T locs cells slots) (hx : p.tables.exec = Jvm.exec) {pc : Nat} {Ls : Array Slot} (hret : meth.sig.returnType = none) (hd : decode c.code pc = .ok (.return_, 1)) (hk : meth.locks = false) (hc : cells ≤ cs) (hs : slots ≤ ss) (hQ : Q none T.heap locs) :
    own_Go p e below s Q cs ss (T.setTop (mkF m pc Ls [])) := by
  obtain ⟨fs, hr, hrun, hended, hW, hsame⟩ := X.leave (v := none) (fun _ => rfl) hk
  exact ⟨_, _, X.returnOut hx hret hd hr, hrun, hended, _, _, rfl, hQ, ⟨_, rfl⟩, hW, hsame.mono hc hs⟩
theorem own_goN (X : Stand p l e R s m args below meth c T locs cells slots) (hx : p.tables.exec = Jvm.exec) {pc : Nat} {Ls : Array Slot} {z : Int32} {t : FieldType} {rest : List Value} (hret : meth.sig.returnType = some t) (ht : t = .boolean ∨ t = .byte ∨ t = .char ∨ t = .short) (hd : decode c.code pc = .ok (.ireturn, 1)) (hk : meth.locks = false) (hc : cells ≤ cs) (hs : slots ≤ ss) (hQ : Q (some (.int (nar t z))) T.heap locs) :
    own_Go p e below s Q cs ss (T.setTop (mkF m pc Ls (.int z :: rest))) := by
  obtain ⟨fs, hr, hrun, hended, hW, hsame⟩ := X.leave (v := some (.int (nar t z))) (fun h => by rw [hret] at h; cases h) hk
  exact ⟨_, _, retN X hx hret ht hd hr, hrun, hended, _, _, rfl, hQ, ⟨_, rfl⟩, hW, hsame.mono hc hs⟩
theorem own_goI (X : Stand p l e R s m args below meth c T locs cells slots) (hx : p.tables.exec = Jvm.exec) {pc : Nat} {Ls : Array Slot} {z : Int32} (hret : meth.sig.returnType = some .int) (hd : decode c.code pc = .ok (.ireturn, 1)) (hk : meth.locks = false) (hc : cells ≤ cs) (hs : slots ≤ ss) (hQ : Q (some (.int z)) T.heap locs) :
    own_Go p e below s Q cs ss (T.setTop (mkF m pc Ls [.int z])) := by
  obtain ⟨fs, hr, hrun, hended, hW, hsame⟩ := X.leave (v := some (.int z)) (fun h => by rw [hret] at h; cases h) hk
  exact ⟨_, _, X.ireturnOut hx hret rfl (Or.inl rfl) hd hr, hrun, hended, _, _, rfl, hQ, ⟨_, rfl⟩, hW, hsame.mono hc hs⟩
theorem own_goJ (X : Stand p l e R s m args below meth c T locs cells slots) (hx : p.tables.exec = Jvm.exec) {pc : Nat} {Ls : Array Slot} {z : Int64} (hret : meth.sig.returnType = some .long) (hd : decode c.code pc = .ok (.lreturn, 1)) (hk : meth.locks = false) (hc : cells ≤ cs) (hs : slots ≤ ss) (hQ : Q (some (.long z)) T.heap locs) :
    own_Go p e below s Q cs ss (T.setTop (mkF m pc Ls [.long z])) := by
  obtain ⟨fs, hr, hrun, hended, hW, hsame⟩ := X.leave (v := some (.long z)) (fun h => by rw [hret] at h; cases h) hk
  exact ⟨_, _, X.lreturnOut hx hret hd hr, hrun, hended, _, _, rfl, hQ, ⟨_, rfl⟩, hW, hsame.mono hc hs⟩
theorem own_goA (X : Stand p l e R s m args below meth c T locs cells slots) (hx : p.tables.exec = Jvm.exec) {pc : Nat} {Ls : Array Slot} {w : Value} {t : FieldType} (hw : w.isRef = true) (hret : meth.sig.returnType = some t) (ht : t.isReference = true) (hd : decode c.code pc = .ok (.areturn, 1)) (hk : meth.locks = false) (hc : cells ≤ cs) (hs : slots ≤ ss) (hQ : Q (some w) T.heap locs) :
    own_Go p e below s Q cs ss (T.setTop (mkF m pc Ls [w])) := by
  obtain ⟨fs, hr, hrun, hended, hW, hsame⟩ := X.leave (v := some w) (fun h => by rw [hret] at h; cases h) hk
  exact ⟨_, _, X.areturnOut hx hw hret ht hd hr, hrun, hended, _, _, rfl, hQ, ⟨_, rfl⟩, hW, hsame.mono hc hs⟩
theorem own_selP {s : State} {args : Array Value} {y y' : MethodName} (hs : (Cond.selects y'.cls y' y').before args s = true) (hc : y'.cls = y.cls) (hpriv : s.PrivateAt y) (hinst : (Cond.instanceMethod y).before args s = true) (hy : y.cls ≠ "java/lang/invoke/MethodHandle" ∧ y.cls ≠ "java/lang/invoke/VarHandle") : (Cond.selects y.cls y y).before args s = true := by
  obtain ⟨c2, r2, m2, -, -, q3, -, kP, hkP, hkPi⟩ := Cond.selects_spec hs
  exact selects_self_of_private (hc ▸ findClass_of_methodNamed q3) hkP hkPi hpriv hinst hy
end OwnGo
def o_i2l (x : Int32) : Int64 := x.toInt64
def o_l2i (x : Int64) : Int32 := x.toInt32
def o_i2b (x : Int32) : Int32 := x.toInt8.toInt32
def o_i2s (x : Int32) : Int32 := x.toInt16.toInt32
def o_i2c (x : Int32) : Int32 := x.toUInt32.toUInt16.toUInt32.toInt32
def o_ishl (x y : Int32) : Int32 := x <<< (y &&& 31)
def o_ishr (x y : Int32) : Int32 := x >>> (y &&& 31)
def o_iushr (x y : Int32) : Int32 := (x.toUInt32 >>> (y &&& 31).toUInt32).toInt32
def o_lshl (x : Int64) (y : Int32) : Int64 := x <<< (y &&& 0x3f).toInt64
def o_lshr (x : Int64) (y : Int32) : Int64 := x >>> (y &&& 0x3f).toInt64
def o_lushr (x : Int64) (y : Int32) : Int64 := (x.toUInt64 >>> (y &&& 0x3f).toInt64.toUInt64).toInt64
def o_irem (x y : Int32) : Int32 := x - (x / y) * y
def o_lrem (x y : Int64) : Int64 := x - (x / y) * y
def o_d0 : UInt64 := FP.dconst0
def o_d1 : UInt64 := FP.dconst1
theorem d1_0 : decode prog_19_method_1_code 0 = .ok (.aload_n 0, 1) := by decide +kernel
theorem d1_1 : decode prog_19_method_1_code 1 = .ok (.invokespecial 1, 3) := by decide +kernel
theorem d1_4 : decode prog_19_method_1_code 4 = .ok (.aload_n 0, 1) := by decide +kernel
theorem d1_5 : decode prog_19_method_1_code 5 = .ok (.iload_n 1, 1) := by decide +kernel
theorem d1_6 : decode prog_19_method_1_code 6 = .ok (.newarray .byte, 2) := by decide +kernel
theorem d1_8 : decode prog_19_method_1_code 8 = .ok (.putfield 7, 3) := by decide +kernel
theorem d1_11 : decode prog_19_method_1_code 11 = .ok (.return_, 1) := by decide +kernel
theorem pn_0 : plainName "com/example/liboutlay/liboutlay/core/ByteOutput" = true := by first | (simp [plainName, overriddenIn]; done) | decide +kernel
theorem ef_1 (m : MethodId) (x0 : Addr) (x1 : Int32) : entryFrame m #[(.ref x0), (.int x1)] 2 = mkF m 0 #[.val (.ref x0), .val (.int x1)] [] := by first | (simp [entryFrame, mkF, argsToLocals, Value.category]; done) | rfl
def Q1 (Z : State) (a : Addr) (pn_ : Int32) (h0 : Heap) (n0 : Nat) (v : Option Value) (h : Heap) (L : List Loc) : Prop := ∃ b_ : Addr, ∃ k_ : ClassId, v = none ∧ Fr n0 L ∧ Keep h0 h [a] ∧ h0.size ≤ b_ ∧ Exa Z h a "com/example/liboutlay/liboutlay/core/ByteOutput" ∧ Fld Z h a "com/example/liboutlay/liboutlay/core/ByteOutput" "bytes" "[B" (.ref b_) ∧ Fld Z h a "com/example/liboutlay/liboutlay/core/ByteOutput" "length" "I" (.int (0 : Int32)) ∧ Arv Z h b_ k_ .byte pn_ [(.int (0 : Int32)), (.int (0 : Int32)), (.int (0 : Int32)), (.int (0 : Int32))] (.int (0 : Int32))
set_option maxRecDepth 65536 in
set_option maxHeartbeats 40000000 in
theorem rm1 (l : Launch) (Z : State) (a0 : Array Value) (hw : ∀ d ∈ tables_1, d.before a0 Z = true) (ws : List Jvm.Cond) (a : Addr) (pn_ : Int32) (h0 : Heap) (n0 : Nat) (Z0 : n0 ≤ h0.size) (E_a : Exa Z h0 a "com/example/liboutlay/liboutlay/core/ByteOutput") (F_bytes_a : Fld Z h0 a "com/example/liboutlay/liboutlay/core/ByteOutput" "bytes" "[B" .null) (F_length_a : Fld Z h0 a "com/example/liboutlay/liboutlay/core/ByteOutput" "length" "I" (.int (0 : Int32))) (g_a : n0 ≤ a) (hp4 : ¬ pn_ < (0 : Int32)) (hp5 : pn_.toNatClampNeg ≤ 4) :
    MetFree l (⟨"com/example/liboutlay/liboutlay/core/ByteOutput", "<init>", "(I)V"⟩ : MethodName) (head1 (Jvm.Cond.code (⟨"com/example/liboutlay/liboutlay/core/ByteOutput", "<init>", "(I)V"⟩ : MethodName) prog_19_method_1_code 2 none :: ws) ({ frames := 1, cells := 1, slots := 4, locals := 12 } : Room)) (fun q_ U => q_ = #[(.ref a), (.int pn_)] ∧ Z.Warmed39 U.vm ∧ U.heap = h0) (fun _ _ _ _ _ => True) (fun _ U o U' => ∃ v L, o = .returned v ∧ Q1 Z a pn_ h0 n0 v U'.heap L ∧ FrameEnd U o U' L ({ frames := 1, cells := 1, slots := 4, locals := 12 } : Room).cells ({ frames := 1, cells := 1, slots := 4, locals := 12 } : Room).slots) := by
  refine MetFree.of_bodySF (plainFor_of_name pn_0) hisR ?_
  intro p e s m args below meth c s₁ Bd hml0 hP hK
  obtain ⟨rfl, hZ, hh⟩ := hP
  have hx := Bd.exec
  have hby := Bd.bytes
  have hml : c.maxLocals = 2 := hml0
  have hown : s.vm.findClass "com/example/liboutlay/liboutlay/core/ByteOutput" = some m.cls := findClass_of_methodNamed Bd.named
  have hnm := (name_of_methodNamed Bd.named Bd.method).1
  have X0 : Stand p l e ({ frames := 1, cells := 1, slots := 4, locals := 12 } : Room) s m #[(.ref a), (.int pn_)] below meth c s₁ [] 0 0 := Stand.of_body Bd
  have e0 : s₁.heap = h0 := by rw [← hh, Bd.state]; rfl
  have N0 := Fr.nil n0
  show own_Go p e below s (Q1 Z a pn_ h0 n0) ({ frames := 1, cells := 1, slots := 4, locals := 12 } : Room).cells ({ frames := 1, cells := 1, slots := 4, locals := 12 } : Room).slots (s₁.setTop (entryFrame m #[(.ref a), (.int pn_)] 2))
  refine own_via (fun t k => castTop (ef_1 m a pn_) k) ?_
  have K0 : Keep h0 h0 [a] := Keep.refl _ _
  show own_Go p e below s _ _ _ (s₁.setTop (mkF m 0 #[.val (.ref a), .val (.int pn_)] []))
  refine own_via (fun _ k => XS.aloadN X0.here hx rfl (hb hby d1_0) rfl rfl k) ?_
  show own_Go p e below s _ _ _ (s₁.setTop (mkF m 1 #[.val (.ref a), .val (.int pn_)] [(.ref a)]))
  obtain ⟨T1, X1, e1, st1⟩ := initO X0 hx hZ hown (hw _ (List.mem_of_getElem? (i := 6) rfl)) (hw _ (List.mem_of_getElem? (i := 7) rfl)) (hw _ (List.mem_of_getElem? (i := 8) rfl)) e0 (g := (mkF m 1 #[.val (.ref a), .val (.int pn_)] [(.ref a)])) rfl (by rw [hml]; rfl) rfl (hb hby d1_1) (by decide) (W := 0) (by show 2 * 0 + _ ≤ _; exact Nat.le_of_eq rfl) (by decide)
  refine own_via st1 ?_
  show own_Go p e below s _ _ _ (T1.setTop (mkF m 4 #[.val (.ref a), .val (.int pn_)] []))
  refine own_via (fun _ k => XS.aloadN X1.here hx rfl (hb hby d1_4) rfl rfl k) ?_
  show own_Go p e below s _ _ _ (T1.setTop (mkF m 5 #[.val (.ref a), .val (.int pn_)] [(.ref a)]))
  refine own_via (fun _ k => XS.iloadN X1.here hx rfl (hb hby d1_5) rfl k) ?_
  show own_Go p e below s _ _ _ (T1.setTop (mkF m 6 #[.val (.ref a), .val (.int pn_)] [(.int pn_), (.ref a)]))
  obtain ⟨T2, h2, k2, X2, e2, E2, A2, st2⟩ := newP X1 hx hZ (hw _ (List.mem_of_getElem? (i := 9) rfl)) e1 (g := (mkF m 6 #[.val (.ref a), .val (.int pn_)] [(.int pn_), (.ref a)])) rfl (hb hby d1_6) rfl hp4 (cap := 4) hp5 (by decide) (by decide) (by decide)
  obtain ⟨b2, gg2⟩ : ∃ z, z = h0.size := ⟨_, rfl⟩
  rw [← gg2] at A2 st2
  have ne_a_b2 : a ≠ b2 := Nat.ne_of_lt (Nat.lt_of_lt_of_le E_a.lt (Nat.le_of_eq gg2.symm))
  have g_b2 : n0 ≤ b2 := Nat.le_trans Z0 (Nat.le_of_eq gg2.symm)
  have sz_b2 : h0.size ≤ b2 := Nat.le_trans K0.1 (Nat.le_of_eq gg2.symm)
  have Z2 : n0 ≤ h2.size := Nat.le_trans Z0 E2.1
  have K2 : Keep h0 h2 [a] := K0.ext E2
  have V2 : Arv Z h2 b2 k2 .byte pn_ [(.int (0 : Int32)), (.int (0 : Int32)), (.int (0 : Int32)), (.int (0 : Int32))] (.int (0 : Int32)) := (Arv.new A2 hp4).pad (pad_rep [] (.int (0 : Int32)) 4)
  refine own_via st2 ?_
  show own_Go p e below s _ _ _ (T2.setTop (mkF m 8 #[.val (.ref a), .val (.int pn_)] [(.ref b2), (.ref a)]))
  have F3 := (E_a.ext E2)
  have F4 := (F_bytes_a.ext E2)
  obtain ⟨T5, h5, X5, e5, W5, st5⟩ := putF X2 hx hZ hown (host := "") (Or.inl (hw _ (List.mem_of_getElem? (i := 10) rfl))) Via.refl e2 F4 F3 (Or.inl (hw _ (List.mem_of_getElem? (i := 11) rfl))) (hw _ (List.mem_of_getElem? (i := 1) rfl)) (ty := (.array .byte)) (by decide) rfl rfl (g := (mkF m 8 #[.val (.ref a), .val (.int pn_)] [(.ref b2), (.ref a)])) rfl rfl (hb hby d1_8)
  have N5 := Fr.snoc X5 N0 g_a
  have Fw5 := F4.same W5
  have Z5 : n0 ≤ h5.size := Nat.le_trans Z2 (Keep.of_wr W5).1
  have K5 : Keep h0 h5 [a] := K2.wr W5 (Or.inl (List.mem_of_getElem? (i := 0) rfl))
  refine own_via st5 ?_
  show own_Go p e below s _ _ _ (T5.setTop (mkF m 11 #[.val (.ref a), .val (.int pn_)] []))
  have F6 := (F3.wr W5)
  have F7 := ((F_length_a.ext E2).other W5 (Or.inr (slot_ne (Or.inl (hw _ (List.mem_of_getElem? (i := 23) rfl))) (Or.inl (hw _ (List.mem_of_getElem? (i := 11) rfl))) (by decide) (t := .int) (t' := (.array .byte)) (by decide) (by decide))))
  have F8 := (V2.other W5 (Ne.symm ne_a_b2))
  exact own_goV X5 hx Bd.returns (hb hby d1_11) Bd.notSynchronized (by decide) (by decide) (by rw [e5]; exact ⟨b2, k2, rfl, N5, K5, sz_b2, F6, Fw5, F7, F8⟩)
theorem d3_0 : decode prog_19_method_5_code 0 = .ok (.aload_n 0, 1) := by decide +kernel
theorem d3_1 : decode prog_19_method_5_code 1 = .ok (.getfield 7, 3) := by decide +kernel
theorem d3_4 : decode prog_19_method_5_code 4 = .ok (.areturn, 1) := by decide +kernel
theorem ef_3 (m : MethodId) (x0 : Addr) : entryFrame m #[(.ref x0)] 1 = mkF m 0 #[.val (.ref x0)] [] := by first | (simp [entryFrame, mkF, argsToLocals, Value.category]; done) | rfl
def Q3 (Z : State) (a : Addr) (b_ : Addr) (h0 : Heap) (n0 : Nat) (v : Option Value) (h : Heap) (L : List Loc) : Prop := v = some (.ref b_) ∧ Fr n0 L ∧ h = h0
set_option maxRecDepth 65536 in
set_option maxHeartbeats 40000000 in
theorem rm3 (l : Launch) (Z : State) (a0 : Array Value) (hw : ∀ d ∈ tables_1, d.before a0 Z = true) (ws : List Jvm.Cond) (a : Addr) (b_ : Addr) (h0 : Heap) (n0 : Nat) (Z0 : n0 ≤ h0.size) (F_bytes_a : Fld Z h0 a "com/example/liboutlay/liboutlay/core/ByteOutput" "bytes" "[B" (.ref b_)) :
    MetFree l (⟨"com/example/liboutlay/liboutlay/core/ByteOutput", "array", "()[B"⟩ : MethodName) (head1 (Jvm.Cond.code (⟨"com/example/liboutlay/liboutlay/core/ByteOutput", "array", "()[B"⟩ : MethodName) prog_19_method_5_code 1 (some (.array .byte)) :: ws) ({ frames := 0, cells := 0, slots := 0, locals := 0 } : Room)) (fun q_ U => q_ = #[(.ref a)] ∧ Z.Warmed39 U.vm ∧ U.heap = h0) (fun _ _ _ _ _ => True) (fun _ U o U' => ∃ v L, o = .returned v ∧ Q3 Z a b_ h0 n0 v U'.heap L ∧ FrameEnd U o U' L ({ frames := 0, cells := 0, slots := 0, locals := 0 } : Room).cells ({ frames := 0, cells := 0, slots := 0, locals := 0 } : Room).slots) := by
  refine MetFree.of_bodySF (plainFor_of_name pn_0) hisR ?_
  intro p e s m args below meth c s₁ Bd hml0 hP hK
  obtain ⟨rfl, hZ, hh⟩ := hP
  have hx := Bd.exec
  have hby := Bd.bytes
  have hml : c.maxLocals = 1 := hml0
  have hown : s.vm.findClass "com/example/liboutlay/liboutlay/core/ByteOutput" = some m.cls := findClass_of_methodNamed Bd.named
  have hnm := (name_of_methodNamed Bd.named Bd.method).1
  have X0 : Stand p l e ({ frames := 0, cells := 0, slots := 0, locals := 0 } : Room) s m #[(.ref a)] below meth c s₁ [] 0 0 := Stand.of_body Bd
  have e0 : s₁.heap = h0 := by rw [← hh, Bd.state]; rfl
  have N0 := Fr.nil n0
  show own_Go p e below s (Q3 Z a b_ h0 n0) ({ frames := 0, cells := 0, slots := 0, locals := 0 } : Room).cells ({ frames := 0, cells := 0, slots := 0, locals := 0 } : Room).slots (s₁.setTop (entryFrame m #[(.ref a)] 1))
  refine own_via (fun t k => castTop (ef_3 m a) k) ?_
  show own_Go p e below s _ _ _ (s₁.setTop (mkF m 0 #[.val (.ref a)] []))
  refine own_via (fun _ k => XS.aloadN X0.here hx rfl (hb hby d3_0) rfl rfl k) ?_
  show own_Go p e below s _ _ _ (s₁.setTop (mkF m 1 #[.val (.ref a)] [(.ref a)]))
  obtain ⟨T1, X1, e1, st1⟩ := getF X0 hx hZ hown (host := "") (Or.inl (hw _ (List.mem_of_getElem? (i := 10) rfl))) Via.refl e0 F_bytes_a (g := (mkF m 1 #[.val (.ref a)] [(.ref a)])) rfl rfl (hb hby d3_1)
  refine own_via st1 ?_
  show own_Go p e below s _ _ _ (T1.setTop (mkF m 4 #[.val (.ref a)] [(.ref b_)]))
  exact own_goA X1 hx rfl Bd.returns rfl (hb hby d3_4) Bd.notSynchronized (by decide) (by decide) (by rw [e1]; exact ⟨rfl, N0, rfl⟩)
theorem d5_0 : decode prog_19_method_4_code 0 = .ok (.aload_n 0, 1) := by decide +kernel
theorem d5_1 : decode prog_19_method_4_code 1 = .ok (.getfield 34, 3) := by decide +kernel
theorem d5_4 : decode prog_19_method_4_code 4 = .ok (.ireturn, 1) := by decide +kernel
theorem ef_5 (m : MethodId) (x0 : Addr) : entryFrame m #[(.ref x0)] 1 = mkF m 0 #[.val (.ref x0)] [] := by first | (simp [entryFrame, mkF, argsToLocals, Value.category]; done) | rfl
def Q5 (Z : State) (a : Addr) (n_ : Int32) (h0 : Heap) (n0 : Nat) (v : Option Value) (h : Heap) (L : List Loc) : Prop := v = some (.int n_) ∧ Fr n0 L ∧ h = h0
set_option maxRecDepth 65536 in
set_option maxHeartbeats 40000000 in
theorem rm5 (l : Launch) (Z : State) (a0 : Array Value) (hw : ∀ d ∈ tables_1, d.before a0 Z = true) (ws : List Jvm.Cond) (a : Addr) (n_ : Int32) (h0 : Heap) (n0 : Nat) (Z0 : n0 ≤ h0.size) (F_length_a : Fld Z h0 a "com/example/liboutlay/liboutlay/core/ByteOutput" "length" "I" (.int n_)) :
    MetFree l (⟨"com/example/liboutlay/liboutlay/core/ByteOutput", "length", "()I"⟩ : MethodName) (head1 (Jvm.Cond.code (⟨"com/example/liboutlay/liboutlay/core/ByteOutput", "length", "()I"⟩ : MethodName) prog_19_method_4_code 1 (some .int) :: ws) ({ frames := 0, cells := 0, slots := 0, locals := 0 } : Room)) (fun q_ U => q_ = #[(.ref a)] ∧ Z.Warmed39 U.vm ∧ U.heap = h0) (fun _ _ _ _ _ => True) (fun _ U o U' => ∃ v L, o = .returned v ∧ Q5 Z a n_ h0 n0 v U'.heap L ∧ FrameEnd U o U' L ({ frames := 0, cells := 0, slots := 0, locals := 0 } : Room).cells ({ frames := 0, cells := 0, slots := 0, locals := 0 } : Room).slots) := by
  refine MetFree.of_bodySF (plainFor_of_name pn_0) hisR ?_
  intro p e s m args below meth c s₁ Bd hml0 hP hK
  obtain ⟨rfl, hZ, hh⟩ := hP
  have hx := Bd.exec
  have hby := Bd.bytes
  have hml : c.maxLocals = 1 := hml0
  have hown : s.vm.findClass "com/example/liboutlay/liboutlay/core/ByteOutput" = some m.cls := findClass_of_methodNamed Bd.named
  have hnm := (name_of_methodNamed Bd.named Bd.method).1
  have X0 : Stand p l e ({ frames := 0, cells := 0, slots := 0, locals := 0 } : Room) s m #[(.ref a)] below meth c s₁ [] 0 0 := Stand.of_body Bd
  have e0 : s₁.heap = h0 := by rw [← hh, Bd.state]; rfl
  have N0 := Fr.nil n0
  show own_Go p e below s (Q5 Z a n_ h0 n0) ({ frames := 0, cells := 0, slots := 0, locals := 0 } : Room).cells ({ frames := 0, cells := 0, slots := 0, locals := 0 } : Room).slots (s₁.setTop (entryFrame m #[(.ref a)] 1))
  refine own_via (fun t k => castTop (ef_5 m a) k) ?_
  show own_Go p e below s _ _ _ (s₁.setTop (mkF m 0 #[.val (.ref a)] []))
  refine own_via (fun _ k => XS.aloadN X0.here hx rfl (hb hby d5_0) rfl rfl k) ?_
  show own_Go p e below s _ _ _ (s₁.setTop (mkF m 1 #[.val (.ref a)] [(.ref a)]))
  obtain ⟨T1, X1, e1, st1⟩ := getF X0 hx hZ hown (host := "") (Or.inl (hw _ (List.mem_of_getElem? (i := 22) rfl))) Via.refl e0 F_length_a (g := (mkF m 1 #[.val (.ref a)] [(.ref a)])) rfl rfl (hb hby d5_1)
  refine own_via st1 ?_
  show own_Go p e below s _ _ _ (T1.setTop (mkF m 4 #[.val (.ref a)] [(.int n_)]))
  exact own_goI X1 hx Bd.returns (hb hby d5_4) Bd.notSynchronized (by decide) (by decide) (by rw [e1]; exact ⟨rfl, N0, rfl⟩)
theorem d4_0 : decode prog_19_method_10_code 0 = .ok (.aload_n 0, 1) := by decide +kernel
theorem d4_1 : decode prog_19_method_10_code 1 = .ok (.getfield 7, 3) := by decide +kernel
theorem d4_4 : decode prog_19_method_10_code 4 = .ok (.aload_n 0, 1) := by decide +kernel
theorem d4_5 : decode prog_19_method_10_code 5 = .ok (.dup, 1) := by decide +kernel
theorem d4_6 : decode prog_19_method_10_code 6 = .ok (.getfield 34, 3) := by decide +kernel
theorem d4_9 : decode prog_19_method_10_code 9 = .ok (.dup_x1, 1) := by decide +kernel
theorem d4_10 : decode prog_19_method_10_code 10 = .ok (.iconst 1, 1) := by decide +kernel
theorem d4_11 : decode prog_19_method_10_code 11 = .ok (.iadd, 1) := by decide +kernel
theorem d4_12 : decode prog_19_method_10_code 12 = .ok (.putfield 34, 3) := by decide +kernel
theorem d4_15 : decode prog_19_method_10_code 15 = .ok (.iload_n 1, 1) := by decide +kernel
theorem d4_16 : decode prog_19_method_10_code 16 = .ok (.i2b, 1) := by decide +kernel
theorem d4_17 : decode prog_19_method_10_code 17 = .ok (.bastore, 1) := by decide +kernel
theorem d4_18 : decode prog_19_method_10_code 18 = .ok (.return_, 1) := by decide +kernel
theorem ef_4 (m : MethodId) (x0 : Addr) (x1 : Int32) : entryFrame m #[(.ref x0), (.int x1)] 2 = mkF m 0 #[.val (.ref x0), .val (.int x1)] [] := by first | (simp [entryFrame, mkF, argsToLocals, Value.category]; done) | rfl
def Q4 (Z : State) (a : Addr) (pv_ : Int32) (b_ : Addr) (n_ : Int32) (k_ : ClassId) (z_ : Int32) (vs_ : List Value) (d_ : Value) (i_ : Nat) (h0 : Heap) (n0 : Nat) (v : Option Value) (h : Heap) (L : List Loc) : Prop := v = none ∧ Fr n0 L ∧ Keep h0 h [a, b_] ∧ Exa Z h a "com/example/liboutlay/liboutlay/core/ByteOutput" ∧ Fld Z h a "com/example/liboutlay/liboutlay/core/ByteOutput" "bytes" "[B" (.ref b_) ∧ Fld Z h a "com/example/liboutlay/liboutlay/core/ByteOutput" "length" "I" (.int (n_ + (1 : Int32))) ∧ Arv Z h b_ k_ .byte z_ (vs_.set i_ (.int (nar .byte (o_i2b pv_)))) d_
set_option maxRecDepth 65536 in
set_option maxHeartbeats 40000000 in
theorem rm4 (l : Launch) (Z : State) (a0 : Array Value) (hw : ∀ d ∈ tables_1, d.before a0 Z = true) (ws : List Jvm.Cond) (a : Addr) (pv_ : Int32) (b_ : Addr) (n_ : Int32) (k_ : ClassId) (z_ : Int32) (vs_ : List Value) (d_ : Value) (i_ : Nat) (h0 : Heap) (n0 : Nat) (Z0 : n0 ≤ h0.size) (E_a : Exa Z h0 a "com/example/liboutlay/liboutlay/core/ByteOutput") (F_bytes_a : Fld Z h0 a "com/example/liboutlay/liboutlay/core/ByteOutput" "bytes" "[B" (.ref b_)) (F_length_a : Fld Z h0 a "com/example/liboutlay/liboutlay/core/ByteOutput" "length" "I" (.int n_)) (V_b_ : Arv Z h0 b_ k_ .byte z_ vs_ d_) (g_a : n0 ≤ a) (g_b_ : n0 ≤ b_) (ne_a_b_ : a ≠ b_) (hp7 : ¬ n_ < 0 ∧ n_ < z_) (hp8 : n_.toNatClampNeg = i_) (hp9 : i_ < vs_.length) :
    MetFree l (⟨"com/example/liboutlay/liboutlay/core/ByteOutput", "put", "(I)V"⟩ : MethodName) (head1 (Jvm.Cond.code (⟨"com/example/liboutlay/liboutlay/core/ByteOutput", "put", "(I)V"⟩ : MethodName) prog_19_method_10_code 2 none :: ws) ({ frames := 0, cells := 0, slots := 0, locals := 0 } : Room)) (fun q_ U => q_ = #[(.ref a), (.int pv_)] ∧ Z.Warmed39 U.vm ∧ U.heap = h0) (fun _ _ _ _ _ => True) (fun _ U o U' => ∃ v L, o = .returned v ∧ Q4 Z a pv_ b_ n_ k_ z_ vs_ d_ i_ h0 n0 v U'.heap L ∧ FrameEnd U o U' L ({ frames := 0, cells := 0, slots := 0, locals := 0 } : Room).cells ({ frames := 0, cells := 0, slots := 0, locals := 0 } : Room).slots) := by
  refine MetFree.of_bodySF (plainFor_of_name pn_0) hisR ?_
  intro p e s m args below meth c s₁ Bd hml0 hP hK
  obtain ⟨rfl, hZ, hh⟩ := hP
  have hx := Bd.exec
  have hby := Bd.bytes
  have hml : c.maxLocals = 2 := hml0
  have hown : s.vm.findClass "com/example/liboutlay/liboutlay/core/ByteOutput" = some m.cls := findClass_of_methodNamed Bd.named
  have hnm := (name_of_methodNamed Bd.named Bd.method).1
  have X0 : Stand p l e ({ frames := 0, cells := 0, slots := 0, locals := 0 } : Room) s m #[(.ref a), (.int pv_)] below meth c s₁ [] 0 0 := Stand.of_body Bd
  have e0 : s₁.heap = h0 := by rw [← hh, Bd.state]; rfl
  have N0 := Fr.nil n0
  show own_Go p e below s (Q4 Z a pv_ b_ n_ k_ z_ vs_ d_ i_ h0 n0) ({ frames := 0, cells := 0, slots := 0, locals := 0 } : Room).cells ({ frames := 0, cells := 0, slots := 0, locals := 0 } : Room).slots (s₁.setTop (entryFrame m #[(.ref a), (.int pv_)] 2))
  refine own_via (fun t k => castTop (ef_4 m a pv_) k) ?_
  have K0 : Keep h0 h0 [a, b_] := Keep.refl _ _
  show own_Go p e below s _ _ _ (s₁.setTop (mkF m 0 #[.val (.ref a), .val (.int pv_)] []))
  refine own_via (fun _ k => XS.aloadN X0.here hx rfl (hb hby d4_0) rfl rfl k) ?_
  show own_Go p e below s _ _ _ (s₁.setTop (mkF m 1 #[.val (.ref a), .val (.int pv_)] [(.ref a)]))
  obtain ⟨T1, X1, e1, st1⟩ := getF X0 hx hZ hown (host := "") (Or.inl (hw _ (List.mem_of_getElem? (i := 10) rfl))) Via.refl e0 F_bytes_a (g := (mkF m 1 #[.val (.ref a), .val (.int pv_)] [(.ref a)])) rfl rfl (hb hby d4_1)
  refine own_via st1 ?_
  show own_Go p e below s _ _ _ (T1.setTop (mkF m 4 #[.val (.ref a), .val (.int pv_)] [(.ref b_)]))
  refine own_via (fun _ k => XS.aloadN X1.here hx rfl (hb hby d4_4) rfl rfl k) ?_
  show own_Go p e below s _ _ _ (T1.setTop (mkF m 5 #[.val (.ref a), .val (.int pv_)] [(.ref a), (.ref b_)]))
  refine own_via (fun _ k => XS.dup X1.here hx rfl (hb hby d4_5) rfl rfl k) ?_
  show own_Go p e below s _ _ _ (T1.setTop (mkF m 6 #[.val (.ref a), .val (.int pv_)] [(.ref a), (.ref a), (.ref b_)]))
  obtain ⟨T2, X2, e2, st2⟩ := getF X1 hx hZ hown (host := "") (Or.inl (hw _ (List.mem_of_getElem? (i := 22) rfl))) Via.refl e1 F_length_a (g := (mkF m 6 #[.val (.ref a), .val (.int pv_)] [(.ref a), (.ref a), (.ref b_)])) rfl rfl (hb hby d4_6)
  refine own_via st2 ?_
  show own_Go p e below s _ _ _ (T2.setTop (mkF m 9 #[.val (.ref a), .val (.int pv_)] [(.int n_), (.ref a), (.ref b_)]))
  refine own_via (fun _ k => XS.dupX1 X2.here hx rfl (hb hby d4_9) rfl rfl rfl k) ?_
  show own_Go p e below s _ _ _ (T2.setTop (mkF m 10 #[.val (.ref a), .val (.int pv_)] [(.int n_), (.ref a), (.int n_), (.ref b_)]))
  refine own_via (fun _ k => XS.iconst X2.here hx rfl (hb hby d4_10) k) ?_
  show own_Go p e below s _ _ _ (T2.setTop (mkF m 11 #[.val (.ref a), .val (.int pv_)] [(.int (1 : Int32)), (.int n_), (.ref a), (.int n_), (.ref b_)]))
  refine own_via (fun _ k => XS.iadd X2.here hx rfl (hb hby d4_11) rfl k) ?_
  show own_Go p e below s _ _ _ (T2.setTop (mkF m 12 #[.val (.ref a), .val (.int pv_)] [(.int (n_ + (1 : Int32))), (.ref a), (.int n_), (.ref b_)]))
  obtain ⟨T3, h3, X3, e3, W3, st3⟩ := putF X2 hx hZ hown (host := "") (Or.inl (hw _ (List.mem_of_getElem? (i := 22) rfl))) Via.refl e2 F_length_a E_a (Or.inl (hw _ (List.mem_of_getElem? (i := 23) rfl))) (hw _ (List.mem_of_getElem? (i := 1) rfl)) (ty := .int) (by decide) rfl rfl (g := (mkF m 12 #[.val (.ref a), .val (.int pv_)] [(.int (n_ + (1 : Int32))), (.ref a), (.int n_), (.ref b_)])) rfl rfl (hb hby d4_12)
  have N3 := Fr.snoc X3 N0 g_a
  have Fw3 := F_length_a.same W3
  have Z3 : n0 ≤ h3.size := Nat.le_trans Z0 (Keep.of_wr W3).1
  have K3 : Keep h0 h3 [a, b_] := K0.wr W3 (Or.inl (List.mem_of_getElem? (i := 0) rfl))
  refine own_via st3 ?_
  show own_Go p e below s _ _ _ (T3.setTop (mkF m 15 #[.val (.ref a), .val (.int pv_)] [(.int n_), (.ref b_)]))
  refine own_via (fun _ k => XS.iloadN X3.here hx rfl (hb hby d4_15) rfl k) ?_
  show own_Go p e below s _ _ _ (T3.setTop (mkF m 16 #[.val (.ref a), .val (.int pv_)] [(.int pv_), (.int n_), (.ref b_)]))
  refine own_via (fun _ k => XS.i2b X3.here hx rfl (hb hby d4_16) rfl k) ?_
  show own_Go p e below s _ _ _ (T3.setTop (mkF m 17 #[.val (.ref a), .val (.int pv_)] [(.int (o_i2b pv_)), (.int n_), (.ref b_)]))
  have F5 := (V_b_.other W3 (Ne.symm ne_a_b_))
  obtain ⟨cl4, Ar4, q4, S4, M4, H4, G4⟩ := (id F5)
  have hin4 : ¬ (n_ < 0 ∨ cl4.slots.size ≤ (n_).toNatClampNeg) := inb_of S4 hp7
  obtain ⟨T4, h4, X4, e4, W4, st4⟩ := stB X3 hx hZ e3 Ar4 (j := n_) hin4 (g := (mkF m 17 #[.val (.ref a), .val (.int pv_)] [(.int (o_i2b pv_)), (.int n_), (.ref b_)])) rfl rfl (hb hby d4_17)
  have V4 : Arv Z h4 b_ k_ .byte z_ (vs_.set i_ (.int (nar .byte (o_i2b pv_)))) d_ := Arv.set Ar4 q4 S4 M4 H4 G4 (fits_nar_byte _) W4 i_ hp8 hp9
  have N4 := Fr.snoc X4 N3 g_b_
  have Z4 : n0 ≤ h4.size := Nat.le_trans Z3 (Keep.of_wr W4).1
  have K4 : Keep h0 h4 [a, b_] := K3.wr W4 (Or.inl (List.mem_of_getElem? (i := 1) rfl))
  refine own_via st4 ?_
  show own_Go p e below s _ _ _ (T4.setTop (mkF m 18 #[.val (.ref a), .val (.int pv_)] []))
  have F6 := ((E_a.wr W3).wr W4)
  have F7 := ((F_bytes_a.other W3 (Or.inr (slot_ne (Or.inl (hw _ (List.mem_of_getElem? (i := 11) rfl))) (Or.inl (hw _ (List.mem_of_getElem? (i := 23) rfl))) (by decide) (t := (.array .byte)) (t' := .int) (by decide) (by decide)))).other W4 (Or.inl ne_a_b_))
  have F8 := (Fw3.other W4 (Or.inl ne_a_b_))
  exact own_goV X4 hx Bd.returns (hb hby d4_18) Bd.notSynchronized (by decide) (by decide) (by rw [e4]; exact ⟨rfl, N4, K4, F6, F7, F8, V4⟩)
theorem d6_0 : decode prog_19_method_6_code 0 = .ok (.aload_n 0, 1) := by decide +kernel
theorem d6_1 : decode prog_19_method_6_code 1 = .ok (.getfield 7, 3) := by decide +kernel
theorem d6_4 : decode prog_19_method_6_code 4 = .ok (.arraylength, 1) := by decide +kernel
theorem d6_5 : decode prog_19_method_6_code 5 = .ok (.aload_n 0, 1) := by decide +kernel
theorem d6_6 : decode prog_19_method_6_code 6 = .ok (.getfield 34, 3) := by decide +kernel
theorem d6_9 : decode prog_19_method_6_code 9 = .ok (.isub, 1) := by decide +kernel
theorem d6_10 : decode prog_19_method_6_code 10 = .ok (.ireturn, 1) := by decide +kernel
theorem ef_6 (m : MethodId) (x0 : Addr) : entryFrame m #[(.ref x0)] 1 = mkF m 0 #[.val (.ref x0)] [] := by first | (simp [entryFrame, mkF, argsToLocals, Value.category]; done) | rfl
def Q6 (Z : State) (a : Addr) (b_ : Addr) (n_ : Int32) (k_ : ClassId) (z_ : Int32) (vs_ : List Value) (d_ : Value) (h0 : Heap) (n0 : Nat) (v : Option Value) (h : Heap) (L : List Loc) : Prop := v = some (.int (z_ - n_)) ∧ Fr n0 L ∧ h = h0
set_option maxRecDepth 65536 in
set_option maxHeartbeats 40000000 in
theorem rm6 (l : Launch) (Z : State) (a0 : Array Value) (hw : ∀ d ∈ tables_1, d.before a0 Z = true) (ws : List Jvm.Cond) (a : Addr) (b_ : Addr) (n_ : Int32) (k_ : ClassId) (z_ : Int32) (vs_ : List Value) (d_ : Value) (h0 : Heap) (n0 : Nat) (Z0 : n0 ≤ h0.size) (F_bytes_a : Fld Z h0 a "com/example/liboutlay/liboutlay/core/ByteOutput" "bytes" "[B" (.ref b_)) (F_length_a : Fld Z h0 a "com/example/liboutlay/liboutlay/core/ByteOutput" "length" "I" (.int n_)) (V_b_ : Arv Z h0 b_ k_ .byte z_ vs_ d_) :
    MetFree l (⟨"com/example/liboutlay/liboutlay/core/ByteOutput", "room", "()I"⟩ : MethodName) (head1 (Jvm.Cond.code (⟨"com/example/liboutlay/liboutlay/core/ByteOutput", "room", "()I"⟩ : MethodName) prog_19_method_6_code 1 (some .int) :: ws) ({ frames := 0, cells := 0, slots := 0, locals := 0 } : Room)) (fun q_ U => q_ = #[(.ref a)] ∧ Z.Warmed39 U.vm ∧ U.heap = h0) (fun _ _ _ _ _ => True) (fun _ U o U' => ∃ v L, o = .returned v ∧ Q6 Z a b_ n_ k_ z_ vs_ d_ h0 n0 v U'.heap L ∧ FrameEnd U o U' L ({ frames := 0, cells := 0, slots := 0, locals := 0 } : Room).cells ({ frames := 0, cells := 0, slots := 0, locals := 0 } : Room).slots) := by
  refine MetFree.of_bodySF (plainFor_of_name pn_0) hisR ?_
  intro p e s m args below meth c s₁ Bd hml0 hP hK
  obtain ⟨rfl, hZ, hh⟩ := hP
  have hx := Bd.exec
  have hby := Bd.bytes
  have hml : c.maxLocals = 1 := hml0
  have hown : s.vm.findClass "com/example/liboutlay/liboutlay/core/ByteOutput" = some m.cls := findClass_of_methodNamed Bd.named
  have hnm := (name_of_methodNamed Bd.named Bd.method).1
  have X0 : Stand p l e ({ frames := 0, cells := 0, slots := 0, locals := 0 } : Room) s m #[(.ref a)] below meth c s₁ [] 0 0 := Stand.of_body Bd
  have e0 : s₁.heap = h0 := by rw [← hh, Bd.state]; rfl
  have N0 := Fr.nil n0
  show own_Go p e below s (Q6 Z a b_ n_ k_ z_ vs_ d_ h0 n0) ({ frames := 0, cells := 0, slots := 0, locals := 0 } : Room).cells ({ frames := 0, cells := 0, slots := 0, locals := 0 } : Room).slots (s₁.setTop (entryFrame m #[(.ref a)] 1))
  refine own_via (fun t k => castTop (ef_6 m a) k) ?_
  show own_Go p e below s _ _ _ (s₁.setTop (mkF m 0 #[.val (.ref a)] []))
  refine own_via (fun _ k => XS.aloadN X0.here hx rfl (hb hby d6_0) rfl rfl k) ?_
  show own_Go p e below s _ _ _ (s₁.setTop (mkF m 1 #[.val (.ref a)] [(.ref a)]))
  obtain ⟨T1, X1, e1, st1⟩ := getF X0 hx hZ hown (host := "") (Or.inl (hw _ (List.mem_of_getElem? (i := 10) rfl))) Via.refl e0 F_bytes_a (g := (mkF m 1 #[.val (.ref a)] [(.ref a)])) rfl rfl (hb hby d6_1)
  refine own_via st1 ?_
  show own_Go p e below s _ _ _ (T1.setTop (mkF m 4 #[.val (.ref a)] [(.ref b_)]))
  obtain ⟨cl2, Ar2, q2, S2, M2, H2, G2⟩ := (id V_b_)
  refine own_via (fun _ k => X1.arraylength hx (by rw [e1]; exact Ar2.1) (State.isArrayOf_alike hZ.alike Ar2.2.1) (g := (mkF m 4 #[.val (.ref a)] [(.ref b_)])) rfl rfl (hb hby d6_4) _ (by rw [len_of S2 M2]; exact k)) ?_
  show own_Go p e below s _ _ _ (T1.setTop (mkF m 5 #[.val (.ref a)] [(.int z_)]))
  refine own_via (fun _ k => XS.aloadN X1.here hx rfl (hb hby d6_5) rfl rfl k) ?_
  show own_Go p e below s _ _ _ (T1.setTop (mkF m 6 #[.val (.ref a)] [(.ref a), (.int z_)]))
  obtain ⟨T3, X3, e3, st3⟩ := getF X1 hx hZ hown (host := "") (Or.inl (hw _ (List.mem_of_getElem? (i := 22) rfl))) Via.refl e1 F_length_a (g := (mkF m 6 #[.val (.ref a)] [(.ref a), (.int z_)])) rfl rfl (hb hby d6_6)
  refine own_via st3 ?_
  show own_Go p e below s _ _ _ (T3.setTop (mkF m 9 #[.val (.ref a)] [(.int n_), (.int z_)]))
  refine own_via (fun _ k => XS.isub X3.here hx rfl (hb hby d6_9) rfl k) ?_
  show own_Go p e below s _ _ _ (T3.setTop (mkF m 10 #[.val (.ref a)] [(.int (z_ - n_))]))
  exact own_goI X3 hx Bd.returns (hb hby d6_10) Bd.notSynchronized (by decide) (by decide) (by rw [e3]; exact ⟨rfl, N0, rfl⟩)

theorem own_sz (x : Int32) {v : Int32} (h : ((3 : Int32) + (x &&& (1 : Int32))) = v) : v = (3 : Int32) ∨ v = (4 : Int32) := by
  rcases and_one x with q | q <;> rw [q] at h
  · exact Or.inl h.symm
  · exact Or.inr h.symm
theorem own_nb (x : Int32) : nar .byte (o_i2b x) = o_i2b x := by simp [nar, o_i2b]

theorem pd_0 : parseMethodDescriptor "(I)V" = some ⟨[.int], none⟩ := by decide +kernel
theorem pd_1 : parseMethodDescriptor "()[B" = some ⟨[], some (.array .byte)⟩ := by decide +kernel
theorem pd_2 : parseMethodDescriptor "()I" = some ⟨[], some .int⟩ := by decide +kernel
theorem pn_1 : plainName "com/example/liboutlay/liboutlay/core/ByteOutputPutPinLaw" = true := by first | (simp [plainName, overriddenIn]; done) | decide +kernel
theorem ef_0 (m : MethodId) (x0 : Int32) (x1 : Int32) (x2 : Int32) (x3 : Int32) : entryFrame m #[(.int x0), (.int x1), (.int x2), (.int x3)] maxLocals = mkF m 0 #[.val (.int x0), .val (.int x1), .val (.int x2), .val (.int x3), .unset, .unset, .unset, .unset, .unset] [] := by first | (simp [entryFrame, mkF, argsToLocals, Value.category, maxLocals]; done) | rfl
def Q0 (Z : State) (p0 : Int32) (p1 : Int32) (p2 : Int32) (p3 : Int32) (h0 : Heap) (n0 : Nat) (v : Option Value) (h : Heap) (L : List Loc) : Prop := v = some (.int 1) ∧ Fr n0 L
set_option maxRecDepth 65536 in
set_option maxHeartbeats 40000000 in
theorem rm0 (l : Launch) (Z : State) (a0 : Array Value) (hw : ∀ d ∈ tables_1, d.before a0 Z = true) (ws : List Jvm.Cond) (p0 : Int32) (p1 : Int32) (p2 : Int32) (p3 : Int32) (h0 : Heap) (n0 : Nat) (Z0 : n0 ≤ h0.size) :
    MetFree l x (head1 (Jvm.Cond.code x code maxLocals ret :: ws) room_1) (fun q_ U => q_ = #[(.int p0), (.int p1), (.int p2), (.int p3)] ∧ Z.Warmed39 U.vm ∧ U.heap = h0) (fun _ _ _ _ _ => True) (fun _ U o U' => ∃ v L, o = .returned v ∧ Q0 Z p0 p1 p2 p3 h0 n0 v U'.heap L ∧ FrameEnd U o U' L room_1.cells room_1.slots) := by
  refine MetFree.of_bodySF (plainFor_of_name pn_1) hisR ?_
  intro p e s m args below meth c s₁ Bd hml0 hP hK
  obtain ⟨rfl, hZ, hh⟩ := hP
  have hx := Bd.exec
  have hby := Bd.bytes
  have hml : c.maxLocals = 9 := hml0
  have hown : s.vm.findClass "com/example/liboutlay/liboutlay/core/ByteOutputPutPinLaw" = some m.cls := findClass_of_methodNamed Bd.named
  have hnm := (name_of_methodNamed Bd.named Bd.method).1
  have X0 : Stand p l e room_1 s m #[(.int p0), (.int p1), (.int p2), (.int p3)] below meth c s₁ [] 0 0 := Stand.of_body Bd
  have e0 : s₁.heap = h0 := by rw [← hh, Bd.state]; rfl
  have N0 := Fr.nil n0
  show own_Go p e below s (Q0 Z p0 p1 p2 p3 h0 n0) room_1.cells room_1.slots (s₁.setTop (entryFrame m #[(.int p0), (.int p1), (.int p2), (.int p3)] maxLocals))
  refine own_via (fun t k => castTop (ef_0 m p0 p1 p2 p3) k) ?_
  show own_Go p e below s _ _ _ (s₁.setTop (mkF m 0 #[.val (.int p0), .val (.int p1), .val (.int p2), .val (.int p3), .unset, .unset, .unset, .unset, .unset] []))
  refine own_via (fun _ k => XS.iconst X0.here hx rfl (hb hby at_0) k) ?_
  show own_Go p e below s _ _ _ (s₁.setTop (mkF m 1 #[.val (.int p0), .val (.int p1), .val (.int p2), .val (.int p3), .unset, .unset, .unset, .unset, .unset] [(.int (3 : Int32))]))
  refine own_via (fun _ k => XS.iloadN X0.here hx rfl (hb hby at_1) rfl k) ?_
  show own_Go p e below s _ _ _ (s₁.setTop (mkF m 2 #[.val (.int p0), .val (.int p1), .val (.int p2), .val (.int p3), .unset, .unset, .unset, .unset, .unset] [(.int p0), (.int (3 : Int32))]))
  refine own_via (fun _ k => XS.iconst X0.here hx rfl (hb hby at_2) k) ?_
  show own_Go p e below s _ _ _ (s₁.setTop (mkF m 3 #[.val (.int p0), .val (.int p1), .val (.int p2), .val (.int p3), .unset, .unset, .unset, .unset, .unset] [(.int (1 : Int32)), (.int p0), (.int (3 : Int32))]))
  refine own_via (fun _ k => XS.iand X0.here hx rfl (hb hby at_3) rfl k) ?_
  show own_Go p e below s _ _ _ (s₁.setTop (mkF m 4 #[.val (.int p0), .val (.int p1), .val (.int p2), .val (.int p3), .unset, .unset, .unset, .unset, .unset] [(.int (p0 &&& (1 : Int32))), (.int (3 : Int32))]))
  refine own_via (fun _ k => XS.iadd X0.here hx rfl (hb hby at_4) rfl k) ?_
  show own_Go p e below s _ _ _ (s₁.setTop (mkF m 5 #[.val (.int p0), .val (.int p1), .val (.int p2), .val (.int p3), .unset, .unset, .unset, .unset, .unset] [(.int ((3 : Int32) + (p0 &&& (1 : Int32))))]))
  refine own_via (fun _ k => XS.istore X0.here hx rfl (hb hby at_5) rfl (l' := #[.val (.int p0), .val (.int p1), .val (.int p2), .val (.int p3), .val (.int ((3 : Int32) + (p0 &&& (1 : Int32)))), .unset, .unset, .unset, .unset]) rfl k) ?_
  show own_Go p e below s _ _ _ (s₁.setTop (mkF m 7 #[.val (.int p0), .val (.int p1), .val (.int p2), .val (.int p3), .val (.int ((3 : Int32) + (p0 &&& (1 : Int32)))), .unset, .unset, .unset, .unset] []))
  generalize hv1 : ((3 : Int32) + (p0 &&& (1 : Int32))) = v1
  show own_Go p e below s _ _ _ (s₁.setTop (mkF m 7 #[.val (.int p0), .val (.int p1), .val (.int p2), .val (.int p3), .val (.int v1), .unset, .unset, .unset, .unset] []))
  rcases (own_sz p0 hv1) with rfl | rfl
  · show own_Go p e below s _ _ _ (s₁.setTop (mkF m 7 #[.val (.int p0), .val (.int p1), .val (.int p2), .val (.int p3), .val (.int (3 : Int32)), .unset, .unset, .unset, .unset] []))
    obtain ⟨T2, h2, X2, e2, E2, A2, D2, -, st2⟩ := newO X0 hx hZ hown (hw _ (List.mem_of_getElem? (i := 0) rfl)) (hw _ (List.mem_of_getElem? (i := 1) rfl)) (hw _ (List.mem_of_getElem? (i := 2) rfl)) e0 (g := (mkF m 7 #[.val (.int p0), .val (.int p1), .val (.int p2), .val (.int p3), .val (.int (3 : Int32)), .unset, .unset, .unset, .unset] [])) rfl (hb hby at_7) (by decide) (by decide)
    obtain ⟨b2, gg2⟩ : ∃ z, z = h0.size := ⟨_, rfl⟩
    rw [← gg2] at A2 D2 st2
    have g_b2 : n0 ≤ b2 := Nat.le_trans Z0 (Nat.le_of_eq gg2.symm)
    have Z2 : n0 ≤ h2.size := Nat.le_trans Z0 E2.1
    have F3 : Fld Z h2 b2 "com/example/liboutlay/liboutlay/core/ByteOutput" "bytes" "[B" .null := D2 (Or.inl (hw _ (List.mem_of_getElem? (i := 11) rfl))) (ty := (.array .byte)) (by decide)
    have F4 : Fld Z h2 b2 "com/example/liboutlay/liboutlay/core/ByteOutput" "length" "I" (.int (0 : Int32)) := D2 (Or.inl (hw _ (List.mem_of_getElem? (i := 23) rfl))) (ty := .int) (by decide)
    refine own_via st2 ?_
    show own_Go p e below s _ _ _ (T2.setTop (mkF m 10 #[.val (.int p0), .val (.int p1), .val (.int p2), .val (.int p3), .val (.int (3 : Int32)), .unset, .unset, .unset, .unset] [(.ref b2)]))
    refine own_via (fun _ k => XS.dup X2.here hx rfl (hb hby at_10) rfl rfl k) ?_
    show own_Go p e below s _ _ _ (T2.setTop (mkF m 11 #[.val (.int p0), .val (.int p1), .val (.int p2), .val (.int p3), .val (.int (3 : Int32)), .unset, .unset, .unset, .unset] [(.ref b2), (.ref b2)]))
    refine own_via (fun _ k => XS.iload X2.here hx rfl (hb hby at_11) rfl k) ?_
    show own_Go p e below s _ _ _ (T2.setTop (mkF m 13 #[.val (.int p0), .val (.int p1), .val (.int p2), .val (.int p3), .val (.int (3 : Int32)), .unset, .unset, .unset, .unset] [(.int (3 : Int32)), (.ref b2), (.ref b2)]))
    obtain ⟨_, _, ⟨T5, L5, k5, n5⟩, -, X5, ⟨Lc5, hQ5, l5, y5, z5⟩, st5⟩ := X2.specialBack hx (y := (⟨"com/example/liboutlay/liboutlay/core/ByteOutput", "<init>", "(I)V"⟩ : MethodName)) rfl hown (mvT hZ (hw _ (List.mem_of_getElem? (i := 3) rfl))) (mvT hZ (hw _ (List.mem_of_getElem? (i := 4) rfl))) (mvT hZ (hw _ (List.mem_of_getElem? (i := 5) rfl))) (by decide) (backOf (W := 1) (rm1 l Z a0 hw [] b2 (3 : Int32) h2 n0 Z2 A2 F3 F4 g_b2 (by first | decide | (simp; done)) (by first | decide | (simp; done))) hZ (hw _ (List.mem_of_getElem? (i := 5) rfl)) (hw _ (List.mem_of_getElem? (i := 2) rfl)) (by decide) (by decide)) (g := (mkF m 13 #[.val (.int p0), .val (.int p1), .val (.int p2), .val (.int p3), .val (.int (3 : Int32)), .unset, .unset, .unset, .unset] [(.int (3 : Int32)), (.ref b2), (.ref b2)])) rfl (by rw [hml]; rfl) (Steps.refl _) (a := b2) (argsL := [(.int (3 : Int32))]) (rest := [(.ref b2)]) (lenOf pd_0 rfl) rfl (by show 2 * 0 + _ ≤ _; exact Nat.le_of_eq rfl) (hb hby at_13) (fun _ _ => ⟨rfl, e2, (by decide : 1 + 1 ≤ _), (by decide : 2 + 4 ≤ _)⟩)
    dsimp only [Pt.U, Pt.locs, Pt.cells, Pt.slots] at X5 l5 y5 z5 st5 hQ5
    subst l5 y5 z5
    obtain ⟨h5, e5⟩ : ∃ h, T5.heap = h := ⟨_, rfl⟩
    rw [e5] at hQ5
    obtain ⟨b_5, k_5, rfl, N5q, Kq5, F6, F7, F8, F9, F10⟩ := hQ5
    have ne_b2_b_5 : b2 ≠ b_5 := Nat.ne_of_lt (Nat.lt_of_lt_of_le A2.lt F6)
    have g_b_5 : n0 ≤ b_5 := Nat.le_trans Z2 F6
    have Z5 : n0 ≤ h5.size := Nat.le_trans Z2 Kq5.1
    have N5 := Fr.app N0 N5q
    refine own_viaT st5 ?_
    show own_Go p e below s _ _ _ (T5.setTop (mkF m 16 #[.val (.int p0), .val (.int p1), .val (.int p2), .val (.int p3), .val (.int (3 : Int32)), .unset, .unset, .unset, .unset] [(.ref b2)]))
    refine own_via (fun _ k => XS.astore X5.here hx rfl (hb hby at_16) rfl rfl (l' := #[.val (.int p0), .val (.int p1), .val (.int p2), .val (.int p3), .val (.int (3 : Int32)), .val (.ref b2), .unset, .unset, .unset]) rfl k) ?_
    show own_Go p e below s _ _ _ (T5.setTop (mkF m 18 #[.val (.int p0), .val (.int p1), .val (.int p2), .val (.int p3), .val (.int (3 : Int32)), .val (.ref b2), .unset, .unset, .unset] []))
    refine own_via (fun _ k => XS.aload X5.here hx rfl (hb hby at_18) rfl rfl k) ?_
    show own_Go p e below s _ _ _ (T5.setTop (mkF m 20 #[.val (.int p0), .val (.int p1), .val (.int p2), .val (.int p3), .val (.int (3 : Int32)), .val (.ref b2), .unset, .unset, .unset] [(.ref b2)]))
    obtain ⟨cq11, kq11, qa11, qb11, qc11⟩ := isOf hZ e5 F7
    obtain ⟨_, _, ⟨T11, L11, k11, n11⟩, -, X11, ⟨Lc11, hQ11, l11, y11, z11⟩, st11⟩ := X5.virtualBack hx (y := (⟨"com/example/liboutlay/liboutlay/core/ByteOutput", "array", "()[B"⟩ : MethodName)) (z := (⟨"com/example/liboutlay/liboutlay/core/ByteOutput", "array", "()[B"⟩ : MethodName)) hown (mvT hZ (hw _ (List.mem_of_getElem? (i := 12) rfl))) (mvT hZ (hw _ (List.mem_of_getElem? (i := 13) rfl))) (notFace_of_selects (args := #[]) (mvT hZ (hw _ (List.mem_of_getElem? (i := 15) rfl)))) (mvT hZ (hw _ (List.mem_of_getElem? (i := 15) rfl))) (mvT hZ (hw _ (List.mem_of_getElem? (i := 14) rfl))) (by decide) (backOf (W := 0) (rm3 l Z a0 hw [] b2 b_5 h5 n0 Z5 F8) hZ (hw _ (List.mem_of_getElem? (i := 16) rfl)) (hw _ (List.mem_of_getElem? (i := 2) rfl)) (by decide) (by decide)) qa11 qc11 (g := (mkF m 20 #[.val (.int p0), .val (.int p1), .val (.int p2), .val (.int p3), .val (.int (3 : Int32)), .val (.ref b2), .unset, .unset, .unset] [(.ref b2)])) rfl (by rw [hml]; rfl) (Steps.refl _) (argsL := []) (rest := []) (lenOf pd_1 rfl) rfl (by show 2 * 0 + _ ≤ _; exact Nat.le_of_eq rfl) (hb hby at_20) (fun _ _ => ⟨rfl, e5, (by decide : 2 + 0 ≤ _), (by decide : 6 + 0 ≤ _)⟩)
    dsimp only [Pt.U, Pt.locs, Pt.cells, Pt.slots] at X11 l11 y11 z11 st11 hQ11
    subst l11 y11 z11
    obtain ⟨rfl, N11q, e11⟩ := hQ11
    have N11 := Fr.app N5 N11q
    refine own_viaT st11 ?_
    show own_Go p e below s _ _ _ (T11.setTop (mkF m 23 #[.val (.int p0), .val (.int p1), .val (.int p2), .val (.int p3), .val (.int (3 : Int32)), .val (.ref b2), .unset, .unset, .unset] [(.ref b_5)]))
    refine own_via (fun _ k => XS.astore X11.here hx rfl (hb hby at_23) rfl rfl (l' := #[.val (.int p0), .val (.int p1), .val (.int p2), .val (.int p3), .val (.int (3 : Int32)), .val (.ref b2), .val (.ref b_5), .unset, .unset]) rfl k) ?_
    show own_Go p e below s _ _ _ (T11.setTop (mkF m 25 #[.val (.int p0), .val (.int p1), .val (.int p2), .val (.int p3), .val (.int (3 : Int32)), .val (.ref b2), .val (.ref b_5), .unset, .unset] []))
    refine own_via (fun _ k => XS.aload X11.here hx rfl (hb hby at_25) rfl rfl k) ?_
    show own_Go p e below s _ _ _ (T11.setTop (mkF m 27 #[.val (.int p0), .val (.int p1), .val (.int p2), .val (.int p3), .val (.int (3 : Int32)), .val (.ref b2), .val (.ref b_5), .unset, .unset] [(.ref b2)]))
    refine own_via (fun _ k => XS.iloadN X11.here hx rfl (hb hby at_27) rfl k) ?_
    show own_Go p e below s _ _ _ (T11.setTop (mkF m 28 #[.val (.int p0), .val (.int p1), .val (.int p2), .val (.int p3), .val (.int (3 : Int32)), .val (.ref b2), .val (.ref b_5), .unset, .unset] [(.int p1), (.ref b2)]))
    obtain ⟨cq12, kq12, qa12, qb12, qc12⟩ := isOf hZ e11 F7
    obtain ⟨_, _, ⟨T12, L12, k12, n12⟩, -, X12, ⟨Lc12, hQ12, l12, y12, z12⟩, st12⟩ := X11.virtualBack hx (y := (⟨"com/example/liboutlay/liboutlay/core/ByteOutput", "put", "(I)V"⟩ : MethodName)) (z := (⟨"com/example/liboutlay/liboutlay/core/ByteOutput", "put", "(I)V"⟩ : MethodName)) hown (mvT hZ (hw _ (List.mem_of_getElem? (i := 17) rfl))) (mvT hZ (hw _ (List.mem_of_getElem? (i := 18) rfl))) (notFace_of_selects (args := #[]) (mvT hZ (hw _ (List.mem_of_getElem? (i := 20) rfl)))) (mvT hZ (hw _ (List.mem_of_getElem? (i := 20) rfl))) (mvT hZ (hw _ (List.mem_of_getElem? (i := 19) rfl))) (by decide) (backOf (W := 0) (rm4 l Z a0 hw [] b2 p1 b_5 (0 : Int32) k_5 (3 : Int32) [(.int (0 : Int32)), (.int (0 : Int32)), (.int (0 : Int32)), (.int (0 : Int32))] (.int (0 : Int32)) 0 h5 n0 Z5 F7 F8 F9 F10 g_b2 g_b_5 ne_b2_b_5 (by first | decide | (simp; done)) (by first | decide | (simp; done)) (by first | decide | (simp; done))) hZ (hw _ (List.mem_of_getElem? (i := 21) rfl)) (hw _ (List.mem_of_getElem? (i := 2) rfl)) (by decide) (by decide)) qa12 qc12 (g := (mkF m 28 #[.val (.int p0), .val (.int p1), .val (.int p2), .val (.int p3), .val (.int (3 : Int32)), .val (.ref b2), .val (.ref b_5), .unset, .unset] [(.int p1), (.ref b2)])) rfl (by rw [hml]; rfl) (Steps.refl _) (argsL := [(.int p1)]) (rest := []) (lenOf pd_0 rfl) rfl (by show 2 * 0 + _ ≤ _; exact Nat.le_of_eq rfl) (hb hby at_28) (fun _ _ => ⟨rfl, e11, (by decide : 2 + 0 ≤ _), (by decide : 6 + 0 ≤ _)⟩)
    dsimp only [Pt.U, Pt.locs, Pt.cells, Pt.slots] at X12 l12 y12 z12 st12 hQ12
    subst l12 y12 z12
    obtain ⟨h12, e12⟩ : ∃ h, T12.heap = h := ⟨_, rfl⟩
    rw [e12] at hQ12
    obtain ⟨rfl, N12q, Kq12, F13, F14, F15, F16⟩ := hQ12
    have Z12 : n0 ≤ h12.size := Nat.le_trans Z5 Kq12.1
    have F17 : Fld Z h12 b2 "com/example/liboutlay/liboutlay/core/ByteOutput" "length" "I" (.int (1 : Int32)) := F15
    have F18 : Arv Z h12 b_5 k_5 .byte (3 : Int32) [(.int (nar .byte (o_i2b p1))), (.int (0 : Int32)), (.int (0 : Int32)), (.int (0 : Int32))] (.int (0 : Int32)) := F16
    have N12 := Fr.app N11 N12q
    refine own_viaT st12 ?_
    show own_Go p e below s _ _ _ (T12.setTop (mkF m 31 #[.val (.int p0), .val (.int p1), .val (.int p2), .val (.int p3), .val (.int (3 : Int32)), .val (.ref b2), .val (.ref b_5), .unset, .unset] []))
    refine own_via (fun _ k => XS.aload X12.here hx rfl (hb hby at_31) rfl rfl k) ?_
    show own_Go p e below s _ _ _ (T12.setTop (mkF m 33 #[.val (.int p0), .val (.int p1), .val (.int p2), .val (.int p3), .val (.int (3 : Int32)), .val (.ref b2), .val (.ref b_5), .unset, .unset] [(.ref b2)]))
    obtain ⟨cq19, kq19, qa19, qb19, qc19⟩ := isOf hZ e12 F13
    obtain ⟨_, _, ⟨T19, L19, k19, n19⟩, -, X19, ⟨Lc19, hQ19, l19, y19, z19⟩, st19⟩ := X12.virtualBack hx (y := (⟨"com/example/liboutlay/liboutlay/core/ByteOutput", "length", "()I"⟩ : MethodName)) (z := (⟨"com/example/liboutlay/liboutlay/core/ByteOutput", "length", "()I"⟩ : MethodName)) hown (mvT hZ (hw _ (List.mem_of_getElem? (i := 24) rfl))) (mvT hZ (hw _ (List.mem_of_getElem? (i := 25) rfl))) (notFace_of_selects (args := #[]) (mvT hZ (hw _ (List.mem_of_getElem? (i := 27) rfl)))) (mvT hZ (hw _ (List.mem_of_getElem? (i := 27) rfl))) (mvT hZ (hw _ (List.mem_of_getElem? (i := 26) rfl))) (by decide) (backOf (W := 0) (rm5 l Z a0 hw [] b2 (1 : Int32) h12 n0 Z12 F17) hZ (hw _ (List.mem_of_getElem? (i := 28) rfl)) (hw _ (List.mem_of_getElem? (i := 2) rfl)) (by decide) (by decide)) qa19 qc19 (g := (mkF m 33 #[.val (.int p0), .val (.int p1), .val (.int p2), .val (.int p3), .val (.int (3 : Int32)), .val (.ref b2), .val (.ref b_5), .unset, .unset] [(.ref b2)])) rfl (by rw [hml]; rfl) (Steps.refl _) (argsL := []) (rest := []) (lenOf pd_2 rfl) rfl (by show 2 * 0 + _ ≤ _; exact Nat.le_of_eq rfl) (hb hby at_33) (fun _ _ => ⟨rfl, e12, (by decide : 2 + 0 ≤ _), (by decide : 6 + 0 ≤ _)⟩)
    dsimp only [Pt.U, Pt.locs, Pt.cells, Pt.slots] at X19 l19 y19 z19 st19 hQ19
    subst l19 y19 z19
    obtain ⟨rfl, N19q, e19⟩ := hQ19
    have N19 := Fr.app N12 N19q
    refine own_viaT st19 ?_
    show own_Go p e below s _ _ _ (T19.setTop (mkF m 36 #[.val (.int p0), .val (.int p1), .val (.int p2), .val (.int p3), .val (.int (3 : Int32)), .val (.ref b2), .val (.ref b_5), .unset, .unset] [(.int (1 : Int32))]))
    refine own_via (fun _ k => XS.iconst X19.here hx rfl (hb hby at_36) k) ?_
    show own_Go p e below s _ _ _ (T19.setTop (mkF m 37 #[.val (.int p0), .val (.int p1), .val (.int p2), .val (.int p3), .val (.int (3 : Int32)), .val (.ref b2), .val (.ref b_5), .unset, .unset] [(.int (1 : Int32)), (.int (1 : Int32))]))
    refine own_via (fun _ k => XS.icmpNo X19.here hx rfl (hb hby at_37) rfl (Jvm.Free.XT.ii_ne_f (by decide)) k) ?_
    show own_Go p e below s _ _ _ (T19.setTop (mkF m 40 #[.val (.int p0), .val (.int p1), .val (.int p2), .val (.int p3), .val (.int (3 : Int32)), .val (.ref b2), .val (.ref b_5), .unset, .unset] []))
    refine own_via (fun _ k => XS.iconst X19.here hx rfl (hb hby at_40) k) ?_
    show own_Go p e below s _ _ _ (T19.setTop (mkF m 41 #[.val (.int p0), .val (.int p1), .val (.int p2), .val (.int p3), .val (.int (3 : Int32)), .val (.ref b2), .val (.ref b_5), .unset, .unset] [(.int (1 : Int32))]))
    refine own_via (fun _ k => XS.goto X19.here hx rfl (pc0 := 41) (pc' := 45) rfl (hb hby at_41) (by decide) (by decide) k) ?_
    show own_Go p e below s _ _ _ (T19.setTop (mkF m 45 #[.val (.int p0), .val (.int p1), .val (.int p2), .val (.int p3), .val (.int (3 : Int32)), .val (.ref b2), .val (.ref b_5), .unset, .unset] [(.int (1 : Int32))]))
    refine own_via (fun _ k => XS.istore X19.here hx rfl (hb hby at_45) rfl (l' := #[.val (.int p0), .val (.int p1), .val (.int p2), .val (.int p3), .val (.int (3 : Int32)), .val (.ref b2), .val (.ref b_5), .val (.int (1 : Int32)), .unset]) rfl k) ?_
    show own_Go p e below s _ _ _ (T19.setTop (mkF m 47 #[.val (.int p0), .val (.int p1), .val (.int p2), .val (.int p3), .val (.int (3 : Int32)), .val (.ref b2), .val (.ref b_5), .val (.int (1 : Int32)), .unset] []))
    refine own_via (fun _ k => XS.aload X19.here hx rfl (hb hby at_47) rfl rfl k) ?_
    show own_Go p e below s _ _ _ (T19.setTop (mkF m 49 #[.val (.int p0), .val (.int p1), .val (.int p2), .val (.int p3), .val (.int (3 : Int32)), .val (.ref b2), .val (.ref b_5), .val (.int (1 : Int32)), .unset] [(.ref b2)]))
    refine own_via (fun _ k => XS.iloadN X19.here hx rfl (hb hby at_49) rfl k) ?_
    show own_Go p e below s _ _ _ (T19.setTop (mkF m 50 #[.val (.int p0), .val (.int p1), .val (.int p2), .val (.int p3), .val (.int (3 : Int32)), .val (.ref b2), .val (.ref b_5), .val (.int (1 : Int32)), .unset] [(.int p2), (.ref b2)]))
    obtain ⟨cq20, kq20, qa20, qb20, qc20⟩ := isOf hZ e19 F13
    obtain ⟨_, _, ⟨T20, L20, k20, n20⟩, -, X20, ⟨Lc20, hQ20, l20, y20, z20⟩, st20⟩ := X19.virtualBack hx (y := (⟨"com/example/liboutlay/liboutlay/core/ByteOutput", "put", "(I)V"⟩ : MethodName)) (z := (⟨"com/example/liboutlay/liboutlay/core/ByteOutput", "put", "(I)V"⟩ : MethodName)) hown (mvT hZ (hw _ (List.mem_of_getElem? (i := 17) rfl))) (mvT hZ (hw _ (List.mem_of_getElem? (i := 18) rfl))) (notFace_of_selects (args := #[]) (mvT hZ (hw _ (List.mem_of_getElem? (i := 20) rfl)))) (mvT hZ (hw _ (List.mem_of_getElem? (i := 20) rfl))) (mvT hZ (hw _ (List.mem_of_getElem? (i := 19) rfl))) (by decide) (backOf (W := 0) (rm4 l Z a0 hw [] b2 p2 b_5 (1 : Int32) k_5 (3 : Int32) [(.int (nar .byte (o_i2b p1))), (.int (0 : Int32)), (.int (0 : Int32)), (.int (0 : Int32))] (.int (0 : Int32)) 1 h12 n0 Z12 F13 F14 F17 F18 g_b2 g_b_5 ne_b2_b_5 (by first | decide | (simp; done)) (by first | decide | (simp; done)) (by first | decide | (simp; done))) hZ (hw _ (List.mem_of_getElem? (i := 21) rfl)) (hw _ (List.mem_of_getElem? (i := 2) rfl)) (by decide) (by decide)) qa20 qc20 (g := (mkF m 50 #[.val (.int p0), .val (.int p1), .val (.int p2), .val (.int p3), .val (.int (3 : Int32)), .val (.ref b2), .val (.ref b_5), .val (.int (1 : Int32)), .unset] [(.int p2), (.ref b2)])) rfl (by rw [hml]; rfl) (Steps.refl _) (argsL := [(.int p2)]) (rest := []) (lenOf pd_0 rfl) rfl (by show 2 * 0 + _ ≤ _; exact Nat.le_of_eq rfl) (hb hby at_50) (fun _ _ => ⟨rfl, e19, (by decide : 2 + 0 ≤ _), (by decide : 6 + 0 ≤ _)⟩)
    dsimp only [Pt.U, Pt.locs, Pt.cells, Pt.slots] at X20 l20 y20 z20 st20 hQ20
    subst l20 y20 z20
    obtain ⟨h20, e20⟩ : ∃ h, T20.heap = h := ⟨_, rfl⟩
    rw [e20] at hQ20
    obtain ⟨rfl, N20q, Kq20, F21, F22, F23, F24⟩ := hQ20
    have Z20 : n0 ≤ h20.size := Nat.le_trans Z12 Kq20.1
    have F25 : Fld Z h20 b2 "com/example/liboutlay/liboutlay/core/ByteOutput" "length" "I" (.int (2 : Int32)) := F23
    have F26 : Arv Z h20 b_5 k_5 .byte (3 : Int32) [(.int (nar .byte (o_i2b p1))), (.int (nar .byte (o_i2b p2))), (.int (0 : Int32)), (.int (0 : Int32))] (.int (0 : Int32)) := F24
    have N20 := Fr.app N19 N20q
    refine own_viaT st20 ?_
    show own_Go p e below s _ _ _ (T20.setTop (mkF m 53 #[.val (.int p0), .val (.int p1), .val (.int p2), .val (.int p3), .val (.int (3 : Int32)), .val (.ref b2), .val (.ref b_5), .val (.int (1 : Int32)), .unset] []))
    refine own_via (fun _ k => XS.iload X20.here hx rfl (hb hby at_53) rfl k) ?_
    show own_Go p e below s _ _ _ (T20.setTop (mkF m 55 #[.val (.int p0), .val (.int p1), .val (.int p2), .val (.int p3), .val (.int (3 : Int32)), .val (.ref b2), .val (.ref b_5), .val (.int (1 : Int32)), .unset] [(.int (1 : Int32))]))
    refine own_via (fun _ k => XS.ifNo X20.here hx rfl (hb hby at_55) rfl (Jvm.Free.XT.i0_eq_f (by decide)) k) ?_
    show own_Go p e below s _ _ _ (T20.setTop (mkF m 58 #[.val (.int p0), .val (.int p1), .val (.int p2), .val (.int p3), .val (.int (3 : Int32)), .val (.ref b2), .val (.ref b_5), .val (.int (1 : Int32)), .unset] []))
    refine own_via (fun _ k => XS.aload X20.here hx rfl (hb hby at_58) rfl rfl k) ?_
    show own_Go p e below s _ _ _ (T20.setTop (mkF m 60 #[.val (.int p0), .val (.int p1), .val (.int p2), .val (.int p3), .val (.int (3 : Int32)), .val (.ref b2), .val (.ref b_5), .val (.int (1 : Int32)), .unset] [(.ref b2)]))
    obtain ⟨cq27, kq27, qa27, qb27, qc27⟩ := isOf hZ e20 F21
    obtain ⟨_, _, ⟨T27, L27, k27, n27⟩, -, X27, ⟨Lc27, hQ27, l27, y27, z27⟩, st27⟩ := X20.virtualBack hx (y := (⟨"com/example/liboutlay/liboutlay/core/ByteOutput", "length", "()I"⟩ : MethodName)) (z := (⟨"com/example/liboutlay/liboutlay/core/ByteOutput", "length", "()I"⟩ : MethodName)) hown (mvT hZ (hw _ (List.mem_of_getElem? (i := 24) rfl))) (mvT hZ (hw _ (List.mem_of_getElem? (i := 25) rfl))) (notFace_of_selects (args := #[]) (mvT hZ (hw _ (List.mem_of_getElem? (i := 27) rfl)))) (mvT hZ (hw _ (List.mem_of_getElem? (i := 27) rfl))) (mvT hZ (hw _ (List.mem_of_getElem? (i := 26) rfl))) (by decide) (backOf (W := 0) (rm5 l Z a0 hw [] b2 (2 : Int32) h20 n0 Z20 F25) hZ (hw _ (List.mem_of_getElem? (i := 28) rfl)) (hw _ (List.mem_of_getElem? (i := 2) rfl)) (by decide) (by decide)) qa27 qc27 (g := (mkF m 60 #[.val (.int p0), .val (.int p1), .val (.int p2), .val (.int p3), .val (.int (3 : Int32)), .val (.ref b2), .val (.ref b_5), .val (.int (1 : Int32)), .unset] [(.ref b2)])) rfl (by rw [hml]; rfl) (Steps.refl _) (argsL := []) (rest := []) (lenOf pd_2 rfl) rfl (by show 2 * 0 + _ ≤ _; exact Nat.le_of_eq rfl) (hb hby at_60) (fun _ _ => ⟨rfl, e20, (by decide : 2 + 0 ≤ _), (by decide : 6 + 0 ≤ _)⟩)
    dsimp only [Pt.U, Pt.locs, Pt.cells, Pt.slots] at X27 l27 y27 z27 st27 hQ27
    subst l27 y27 z27
    obtain ⟨rfl, N27q, e27⟩ := hQ27
    have N27 := Fr.app N20 N27q
    refine own_viaT st27 ?_
    show own_Go p e below s _ _ _ (T27.setTop (mkF m 63 #[.val (.int p0), .val (.int p1), .val (.int p2), .val (.int p3), .val (.int (3 : Int32)), .val (.ref b2), .val (.ref b_5), .val (.int (1 : Int32)), .unset] [(.int (2 : Int32))]))
    refine own_via (fun _ k => XS.iconst X27.here hx rfl (hb hby at_63) k) ?_
    show own_Go p e below s _ _ _ (T27.setTop (mkF m 64 #[.val (.int p0), .val (.int p1), .val (.int p2), .val (.int p3), .val (.int (3 : Int32)), .val (.ref b2), .val (.ref b_5), .val (.int (1 : Int32)), .unset] [(.int (2 : Int32)), (.int (2 : Int32))]))
    refine own_via (fun _ k => XS.icmpNo X27.here hx rfl (hb hby at_64) rfl (Jvm.Free.XT.ii_ne_f (by decide)) k) ?_
    show own_Go p e below s _ _ _ (T27.setTop (mkF m 67 #[.val (.int p0), .val (.int p1), .val (.int p2), .val (.int p3), .val (.int (3 : Int32)), .val (.ref b2), .val (.ref b_5), .val (.int (1 : Int32)), .unset] []))
    refine own_via (fun _ k => XS.iconst X27.here hx rfl (hb hby at_67) k) ?_
    show own_Go p e below s _ _ _ (T27.setTop (mkF m 68 #[.val (.int p0), .val (.int p1), .val (.int p2), .val (.int p3), .val (.int (3 : Int32)), .val (.ref b2), .val (.ref b_5), .val (.int (1 : Int32)), .unset] [(.int (1 : Int32))]))
    refine own_via (fun _ k => XS.goto X27.here hx rfl (pc0 := 68) (pc' := 72) rfl (hb hby at_68) (by decide) (by decide) k) ?_
    show own_Go p e below s _ _ _ (T27.setTop (mkF m 72 #[.val (.int p0), .val (.int p1), .val (.int p2), .val (.int p3), .val (.int (3 : Int32)), .val (.ref b2), .val (.ref b_5), .val (.int (1 : Int32)), .unset] [(.int (1 : Int32))]))
    refine own_via (fun _ k => XS.istore X27.here hx rfl (hb hby at_72) rfl (l' := #[.val (.int p0), .val (.int p1), .val (.int p2), .val (.int p3), .val (.int (3 : Int32)), .val (.ref b2), .val (.ref b_5), .val (.int (1 : Int32)), .unset]) rfl k) ?_
    show own_Go p e below s _ _ _ (T27.setTop (mkF m 74 #[.val (.int p0), .val (.int p1), .val (.int p2), .val (.int p3), .val (.int (3 : Int32)), .val (.ref b2), .val (.ref b_5), .val (.int (1 : Int32)), .unset] []))
    refine own_via (fun _ k => XS.aload X27.here hx rfl (hb hby at_74) rfl rfl k) ?_
    show own_Go p e below s _ _ _ (T27.setTop (mkF m 76 #[.val (.int p0), .val (.int p1), .val (.int p2), .val (.int p3), .val (.int (3 : Int32)), .val (.ref b2), .val (.ref b_5), .val (.int (1 : Int32)), .unset] [(.ref b2)]))
    refine own_via (fun _ k => XS.iloadN X27.here hx rfl (hb hby at_76) rfl k) ?_
    show own_Go p e below s _ _ _ (T27.setTop (mkF m 77 #[.val (.int p0), .val (.int p1), .val (.int p2), .val (.int p3), .val (.int (3 : Int32)), .val (.ref b2), .val (.ref b_5), .val (.int (1 : Int32)), .unset] [(.int p3), (.ref b2)]))
    obtain ⟨cq28, kq28, qa28, qb28, qc28⟩ := isOf hZ e27 F21
    obtain ⟨_, _, ⟨T28, L28, k28, n28⟩, -, X28, ⟨Lc28, hQ28, l28, y28, z28⟩, st28⟩ := X27.virtualBack hx (y := (⟨"com/example/liboutlay/liboutlay/core/ByteOutput", "put", "(I)V"⟩ : MethodName)) (z := (⟨"com/example/liboutlay/liboutlay/core/ByteOutput", "put", "(I)V"⟩ : MethodName)) hown (mvT hZ (hw _ (List.mem_of_getElem? (i := 17) rfl))) (mvT hZ (hw _ (List.mem_of_getElem? (i := 18) rfl))) (notFace_of_selects (args := #[]) (mvT hZ (hw _ (List.mem_of_getElem? (i := 20) rfl)))) (mvT hZ (hw _ (List.mem_of_getElem? (i := 20) rfl))) (mvT hZ (hw _ (List.mem_of_getElem? (i := 19) rfl))) (by decide) (backOf (W := 0) (rm4 l Z a0 hw [] b2 p3 b_5 (2 : Int32) k_5 (3 : Int32) [(.int (nar .byte (o_i2b p1))), (.int (nar .byte (o_i2b p2))), (.int (0 : Int32)), (.int (0 : Int32))] (.int (0 : Int32)) 2 h20 n0 Z20 F21 F22 F25 F26 g_b2 g_b_5 ne_b2_b_5 (by first | decide | (simp; done)) (by first | decide | (simp; done)) (by first | decide | (simp; done))) hZ (hw _ (List.mem_of_getElem? (i := 21) rfl)) (hw _ (List.mem_of_getElem? (i := 2) rfl)) (by decide) (by decide)) qa28 qc28 (g := (mkF m 77 #[.val (.int p0), .val (.int p1), .val (.int p2), .val (.int p3), .val (.int (3 : Int32)), .val (.ref b2), .val (.ref b_5), .val (.int (1 : Int32)), .unset] [(.int p3), (.ref b2)])) rfl (by rw [hml]; rfl) (Steps.refl _) (argsL := [(.int p3)]) (rest := []) (lenOf pd_0 rfl) rfl (by show 2 * 0 + _ ≤ _; exact Nat.le_of_eq rfl) (hb hby at_77) (fun _ _ => ⟨rfl, e27, (by decide : 2 + 0 ≤ _), (by decide : 6 + 0 ≤ _)⟩)
    dsimp only [Pt.U, Pt.locs, Pt.cells, Pt.slots] at X28 l28 y28 z28 st28 hQ28
    subst l28 y28 z28
    obtain ⟨h28, e28⟩ : ∃ h, T28.heap = h := ⟨_, rfl⟩
    rw [e28] at hQ28
    obtain ⟨rfl, N28q, Kq28, F29, F30, F31, F32⟩ := hQ28
    have Z28 : n0 ≤ h28.size := Nat.le_trans Z20 Kq28.1
    have F33 : Fld Z h28 b2 "com/example/liboutlay/liboutlay/core/ByteOutput" "length" "I" (.int (3 : Int32)) := F31
    have F34 : Arv Z h28 b_5 k_5 .byte (3 : Int32) [(.int (nar .byte (o_i2b p1))), (.int (nar .byte (o_i2b p2))), (.int (nar .byte (o_i2b p3))), (.int (0 : Int32))] (.int (0 : Int32)) := F32
    have N28 := Fr.app N27 N28q
    refine own_viaT st28 ?_
    show own_Go p e below s _ _ _ (T28.setTop (mkF m 80 #[.val (.int p0), .val (.int p1), .val (.int p2), .val (.int p3), .val (.int (3 : Int32)), .val (.ref b2), .val (.ref b_5), .val (.int (1 : Int32)), .unset] []))
    refine own_via (fun _ k => XS.aload X28.here hx rfl (hb hby at_80) rfl rfl k) ?_
    show own_Go p e below s _ _ _ (T28.setTop (mkF m 82 #[.val (.int p0), .val (.int p1), .val (.int p2), .val (.int p3), .val (.int (3 : Int32)), .val (.ref b2), .val (.ref b_5), .val (.int (1 : Int32)), .unset] [(.ref b2)]))
    obtain ⟨cq35, kq35, qa35, qb35, qc35⟩ := isOf hZ e28 F29
    obtain ⟨_, _, ⟨T35, L35, k35, n35⟩, -, X35, ⟨Lc35, hQ35, l35, y35, z35⟩, st35⟩ := X28.virtualBack hx (y := (⟨"com/example/liboutlay/liboutlay/core/ByteOutput", "array", "()[B"⟩ : MethodName)) (z := (⟨"com/example/liboutlay/liboutlay/core/ByteOutput", "array", "()[B"⟩ : MethodName)) hown (mvT hZ (hw _ (List.mem_of_getElem? (i := 12) rfl))) (mvT hZ (hw _ (List.mem_of_getElem? (i := 13) rfl))) (notFace_of_selects (args := #[]) (mvT hZ (hw _ (List.mem_of_getElem? (i := 15) rfl)))) (mvT hZ (hw _ (List.mem_of_getElem? (i := 15) rfl))) (mvT hZ (hw _ (List.mem_of_getElem? (i := 14) rfl))) (by decide) (backOf (W := 0) (rm3 l Z a0 hw [] b2 b_5 h28 n0 Z28 F30) hZ (hw _ (List.mem_of_getElem? (i := 16) rfl)) (hw _ (List.mem_of_getElem? (i := 2) rfl)) (by decide) (by decide)) qa35 qc35 (g := (mkF m 82 #[.val (.int p0), .val (.int p1), .val (.int p2), .val (.int p3), .val (.int (3 : Int32)), .val (.ref b2), .val (.ref b_5), .val (.int (1 : Int32)), .unset] [(.ref b2)])) rfl (by rw [hml]; rfl) (Steps.refl _) (argsL := []) (rest := []) (lenOf pd_1 rfl) rfl (by show 2 * 0 + _ ≤ _; exact Nat.le_of_eq rfl) (hb hby at_82) (fun _ _ => ⟨rfl, e28, (by decide : 2 + 0 ≤ _), (by decide : 6 + 0 ≤ _)⟩)
    dsimp only [Pt.U, Pt.locs, Pt.cells, Pt.slots] at X35 l35 y35 z35 st35 hQ35
    subst l35 y35 z35
    obtain ⟨rfl, N35q, e35⟩ := hQ35
    have N35 := Fr.app N28 N35q
    refine own_viaT st35 ?_
    show own_Go p e below s _ _ _ (T35.setTop (mkF m 85 #[.val (.int p0), .val (.int p1), .val (.int p2), .val (.int p3), .val (.int (3 : Int32)), .val (.ref b2), .val (.ref b_5), .val (.int (1 : Int32)), .unset] [(.ref b_5)]))
    refine own_via (fun _ k => XS.astore X35.here hx rfl (hb hby at_85) rfl rfl (l' := #[.val (.int p0), .val (.int p1), .val (.int p2), .val (.int p3), .val (.int (3 : Int32)), .val (.ref b2), .val (.ref b_5), .val (.int (1 : Int32)), .val (.ref b_5)]) rfl k) ?_
    show own_Go p e below s _ _ _ (T35.setTop (mkF m 87 #[.val (.int p0), .val (.int p1), .val (.int p2), .val (.int p3), .val (.int (3 : Int32)), .val (.ref b2), .val (.ref b_5), .val (.int (1 : Int32)), .val (.ref b_5)] []))
    refine own_via (fun _ k => XS.iload X35.here hx rfl (hb hby at_87) rfl k) ?_
    show own_Go p e below s _ _ _ (T35.setTop (mkF m 89 #[.val (.int p0), .val (.int p1), .val (.int p2), .val (.int p3), .val (.int (3 : Int32)), .val (.ref b2), .val (.ref b_5), .val (.int (1 : Int32)), .val (.ref b_5)] [(.int (1 : Int32))]))
    refine own_via (fun _ k => XS.ifNo X35.here hx rfl (hb hby at_89) rfl (Jvm.Free.XT.i0_eq_f (by decide)) k) ?_
    show own_Go p e below s _ _ _ (T35.setTop (mkF m 92 #[.val (.int p0), .val (.int p1), .val (.int p2), .val (.int p3), .val (.int (3 : Int32)), .val (.ref b2), .val (.ref b_5), .val (.int (1 : Int32)), .val (.ref b_5)] []))
    refine own_via (fun _ k => XS.aload X35.here hx rfl (hb hby at_92) rfl rfl k) ?_
    show own_Go p e below s _ _ _ (T35.setTop (mkF m 94 #[.val (.int p0), .val (.int p1), .val (.int p2), .val (.int p3), .val (.int (3 : Int32)), .val (.ref b2), .val (.ref b_5), .val (.int (1 : Int32)), .val (.ref b_5)] [(.ref b2)]))
    obtain ⟨cq36, kq36, qa36, qb36, qc36⟩ := isOf hZ e35 F29
    obtain ⟨_, _, ⟨T36, L36, k36, n36⟩, -, X36, ⟨Lc36, hQ36, l36, y36, z36⟩, st36⟩ := X35.virtualBack hx (y := (⟨"com/example/liboutlay/liboutlay/core/ByteOutput", "length", "()I"⟩ : MethodName)) (z := (⟨"com/example/liboutlay/liboutlay/core/ByteOutput", "length", "()I"⟩ : MethodName)) hown (mvT hZ (hw _ (List.mem_of_getElem? (i := 24) rfl))) (mvT hZ (hw _ (List.mem_of_getElem? (i := 25) rfl))) (notFace_of_selects (args := #[]) (mvT hZ (hw _ (List.mem_of_getElem? (i := 27) rfl)))) (mvT hZ (hw _ (List.mem_of_getElem? (i := 27) rfl))) (mvT hZ (hw _ (List.mem_of_getElem? (i := 26) rfl))) (by decide) (backOf (W := 0) (rm5 l Z a0 hw [] b2 (3 : Int32) h28 n0 Z28 F33) hZ (hw _ (List.mem_of_getElem? (i := 28) rfl)) (hw _ (List.mem_of_getElem? (i := 2) rfl)) (by decide) (by decide)) qa36 qc36 (g := (mkF m 94 #[.val (.int p0), .val (.int p1), .val (.int p2), .val (.int p3), .val (.int (3 : Int32)), .val (.ref b2), .val (.ref b_5), .val (.int (1 : Int32)), .val (.ref b_5)] [(.ref b2)])) rfl (by rw [hml]; rfl) (Steps.refl _) (argsL := []) (rest := []) (lenOf pd_2 rfl) rfl (by show 2 * 0 + _ ≤ _; exact Nat.le_of_eq rfl) (hb hby at_94) (fun _ _ => ⟨rfl, e35, (by decide : 2 + 0 ≤ _), (by decide : 6 + 0 ≤ _)⟩)
    dsimp only [Pt.U, Pt.locs, Pt.cells, Pt.slots] at X36 l36 y36 z36 st36 hQ36
    subst l36 y36 z36
    obtain ⟨rfl, N36q, e36⟩ := hQ36
    have N36 := Fr.app N35 N36q
    refine own_viaT st36 ?_
    show own_Go p e below s _ _ _ (T36.setTop (mkF m 97 #[.val (.int p0), .val (.int p1), .val (.int p2), .val (.int p3), .val (.int (3 : Int32)), .val (.ref b2), .val (.ref b_5), .val (.int (1 : Int32)), .val (.ref b_5)] [(.int (3 : Int32))]))
    refine own_via (fun _ k => XS.iconst X36.here hx rfl (hb hby at_97) k) ?_
    show own_Go p e below s _ _ _ (T36.setTop (mkF m 98 #[.val (.int p0), .val (.int p1), .val (.int p2), .val (.int p3), .val (.int (3 : Int32)), .val (.ref b2), .val (.ref b_5), .val (.int (1 : Int32)), .val (.ref b_5)] [(.int (3 : Int32)), (.int (3 : Int32))]))
    refine own_via (fun _ k => XS.icmpNo X36.here hx rfl (hb hby at_98) rfl (Jvm.Free.XT.ii_ne_f (by decide)) k) ?_
    show own_Go p e below s _ _ _ (T36.setTop (mkF m 101 #[.val (.int p0), .val (.int p1), .val (.int p2), .val (.int p3), .val (.int (3 : Int32)), .val (.ref b2), .val (.ref b_5), .val (.int (1 : Int32)), .val (.ref b_5)] []))
    refine own_via (fun _ k => XS.iconst X36.here hx rfl (hb hby at_101) k) ?_
    show own_Go p e below s _ _ _ (T36.setTop (mkF m 102 #[.val (.int p0), .val (.int p1), .val (.int p2), .val (.int p3), .val (.int (3 : Int32)), .val (.ref b2), .val (.ref b_5), .val (.int (1 : Int32)), .val (.ref b_5)] [(.int (1 : Int32))]))
    refine own_via (fun _ k => XS.goto X36.here hx rfl (pc0 := 102) (pc' := 106) rfl (hb hby at_102) (by decide) (by decide) k) ?_
    show own_Go p e below s _ _ _ (T36.setTop (mkF m 106 #[.val (.int p0), .val (.int p1), .val (.int p2), .val (.int p3), .val (.int (3 : Int32)), .val (.ref b2), .val (.ref b_5), .val (.int (1 : Int32)), .val (.ref b_5)] [(.int (1 : Int32))]))
    refine own_via (fun _ k => XS.istore X36.here hx rfl (hb hby at_106) rfl (l' := #[.val (.int p0), .val (.int p1), .val (.int p2), .val (.int p3), .val (.int (3 : Int32)), .val (.ref b2), .val (.ref b_5), .val (.int (1 : Int32)), .val (.ref b_5)]) rfl k) ?_
    show own_Go p e below s _ _ _ (T36.setTop (mkF m 108 #[.val (.int p0), .val (.int p1), .val (.int p2), .val (.int p3), .val (.int (3 : Int32)), .val (.ref b2), .val (.ref b_5), .val (.int (1 : Int32)), .val (.ref b_5)] []))
    refine own_via (fun _ k => XS.iload X36.here hx rfl (hb hby at_108) rfl k) ?_
    show own_Go p e below s _ _ _ (T36.setTop (mkF m 110 #[.val (.int p0), .val (.int p1), .val (.int p2), .val (.int p3), .val (.int (3 : Int32)), .val (.ref b2), .val (.ref b_5), .val (.int (1 : Int32)), .val (.ref b_5)] [(.int (1 : Int32))]))
    refine own_via (fun _ k => XS.ifNo X36.here hx rfl (hb hby at_110) rfl (Jvm.Free.XT.i0_eq_f (by decide)) k) ?_
    show own_Go p e below s _ _ _ (T36.setTop (mkF m 113 #[.val (.int p0), .val (.int p1), .val (.int p2), .val (.int p3), .val (.int (3 : Int32)), .val (.ref b2), .val (.ref b_5), .val (.int (1 : Int32)), .val (.ref b_5)] []))
    refine own_via (fun _ k => XS.aload X36.here hx rfl (hb hby at_113) rfl rfl k) ?_
    show own_Go p e below s _ _ _ (T36.setTop (mkF m 115 #[.val (.int p0), .val (.int p1), .val (.int p2), .val (.int p3), .val (.int (3 : Int32)), .val (.ref b2), .val (.ref b_5), .val (.int (1 : Int32)), .val (.ref b_5)] [(.ref b2)]))
    obtain ⟨cq37, kq37, qa37, qb37, qc37⟩ := isOf hZ e36 F29
    obtain ⟨_, _, ⟨T37, L37, k37, n37⟩, -, X37, ⟨Lc37, hQ37, l37, y37, z37⟩, st37⟩ := X36.virtualBack hx (y := (⟨"com/example/liboutlay/liboutlay/core/ByteOutput", "room", "()I"⟩ : MethodName)) (z := (⟨"com/example/liboutlay/liboutlay/core/ByteOutput", "room", "()I"⟩ : MethodName)) hown (mvT hZ (hw _ (List.mem_of_getElem? (i := 29) rfl))) (mvT hZ (hw _ (List.mem_of_getElem? (i := 30) rfl))) (notFace_of_selects (args := #[]) (mvT hZ (hw _ (List.mem_of_getElem? (i := 32) rfl)))) (mvT hZ (hw _ (List.mem_of_getElem? (i := 32) rfl))) (mvT hZ (hw _ (List.mem_of_getElem? (i := 31) rfl))) (by decide) (backOf (W := 0) (rm6 l Z a0 hw [] b2 b_5 (3 : Int32) k_5 (3 : Int32) [(.int (nar .byte (o_i2b p1))), (.int (nar .byte (o_i2b p2))), (.int (nar .byte (o_i2b p3))), (.int (0 : Int32))] (.int (0 : Int32)) h28 n0 Z28 F30 F33 F34) hZ (hw _ (List.mem_of_getElem? (i := 33) rfl)) (hw _ (List.mem_of_getElem? (i := 2) rfl)) (by decide) (by decide)) qa37 qc37 (g := (mkF m 115 #[.val (.int p0), .val (.int p1), .val (.int p2), .val (.int p3), .val (.int (3 : Int32)), .val (.ref b2), .val (.ref b_5), .val (.int (1 : Int32)), .val (.ref b_5)] [(.ref b2)])) rfl (by rw [hml]; rfl) (Steps.refl _) (argsL := []) (rest := []) (lenOf pd_2 rfl) rfl (by show 2 * 0 + _ ≤ _; exact Nat.le_of_eq rfl) (hb hby at_115) (fun _ _ => ⟨rfl, e36, (by decide : 2 + 0 ≤ _), (by decide : 6 + 0 ≤ _)⟩)
    dsimp only [Pt.U, Pt.locs, Pt.cells, Pt.slots] at X37 l37 y37 z37 st37 hQ37
    subst l37 y37 z37
    obtain ⟨rfl, N37q, e37⟩ := hQ37
    have N37 := Fr.app N36 N37q
    refine own_viaT st37 ?_
    show own_Go p e below s _ _ _ (T37.setTop (mkF m 118 #[.val (.int p0), .val (.int p1), .val (.int p2), .val (.int p3), .val (.int (3 : Int32)), .val (.ref b2), .val (.ref b_5), .val (.int (1 : Int32)), .val (.ref b_5)] [(.int (0 : Int32))]))
    refine own_via (fun _ k => XS.iload X37.here hx rfl (hb hby at_118) rfl k) ?_
    show own_Go p e below s _ _ _ (T37.setTop (mkF m 120 #[.val (.int p0), .val (.int p1), .val (.int p2), .val (.int p3), .val (.int (3 : Int32)), .val (.ref b2), .val (.ref b_5), .val (.int (1 : Int32)), .val (.ref b_5)] [(.int (3 : Int32)), (.int (0 : Int32))]))
    refine own_via (fun _ k => XS.iconst X37.here hx rfl (hb hby at_120) k) ?_
    show own_Go p e below s _ _ _ (T37.setTop (mkF m 121 #[.val (.int p0), .val (.int p1), .val (.int p2), .val (.int p3), .val (.int (3 : Int32)), .val (.ref b2), .val (.ref b_5), .val (.int (1 : Int32)), .val (.ref b_5)] [(.int (3 : Int32)), (.int (3 : Int32)), (.int (0 : Int32))]))
    refine own_via (fun _ k => XS.isub X37.here hx rfl (hb hby at_121) rfl k) ?_
    show own_Go p e below s _ _ _ (T37.setTop (mkF m 122 #[.val (.int p0), .val (.int p1), .val (.int p2), .val (.int p3), .val (.int (3 : Int32)), .val (.ref b2), .val (.ref b_5), .val (.int (1 : Int32)), .val (.ref b_5)] [(.int (0 : Int32)), (.int (0 : Int32))]))
    refine own_via (fun _ k => XS.icmpNo X37.here hx rfl (hb hby at_122) rfl (Jvm.Free.XT.ii_ne_f (by decide)) k) ?_
    show own_Go p e below s _ _ _ (T37.setTop (mkF m 125 #[.val (.int p0), .val (.int p1), .val (.int p2), .val (.int p3), .val (.int (3 : Int32)), .val (.ref b2), .val (.ref b_5), .val (.int (1 : Int32)), .val (.ref b_5)] []))
    refine own_via (fun _ k => XS.iconst X37.here hx rfl (hb hby at_125) k) ?_
    show own_Go p e below s _ _ _ (T37.setTop (mkF m 126 #[.val (.int p0), .val (.int p1), .val (.int p2), .val (.int p3), .val (.int (3 : Int32)), .val (.ref b2), .val (.ref b_5), .val (.int (1 : Int32)), .val (.ref b_5)] [(.int (1 : Int32))]))
    refine own_via (fun _ k => XS.goto X37.here hx rfl (pc0 := 126) (pc' := 130) rfl (hb hby at_126) (by decide) (by decide) k) ?_
    show own_Go p e below s _ _ _ (T37.setTop (mkF m 130 #[.val (.int p0), .val (.int p1), .val (.int p2), .val (.int p3), .val (.int (3 : Int32)), .val (.ref b2), .val (.ref b_5), .val (.int (1 : Int32)), .val (.ref b_5)] [(.int (1 : Int32))]))
    refine own_via (fun _ k => XS.istore X37.here hx rfl (hb hby at_130) rfl (l' := #[.val (.int p0), .val (.int p1), .val (.int p2), .val (.int p3), .val (.int (3 : Int32)), .val (.ref b2), .val (.ref b_5), .val (.int (1 : Int32)), .val (.ref b_5)]) rfl k) ?_
    show own_Go p e below s _ _ _ (T37.setTop (mkF m 132 #[.val (.int p0), .val (.int p1), .val (.int p2), .val (.int p3), .val (.int (3 : Int32)), .val (.ref b2), .val (.ref b_5), .val (.int (1 : Int32)), .val (.ref b_5)] []))
    refine own_via (fun _ k => XS.iload X37.here hx rfl (hb hby at_132) rfl k) ?_
    show own_Go p e below s _ _ _ (T37.setTop (mkF m 134 #[.val (.int p0), .val (.int p1), .val (.int p2), .val (.int p3), .val (.int (3 : Int32)), .val (.ref b2), .val (.ref b_5), .val (.int (1 : Int32)), .val (.ref b_5)] [(.int (1 : Int32))]))
    refine own_via (fun _ k => XS.ifNo X37.here hx rfl (hb hby at_134) rfl (Jvm.Free.XT.i0_eq_f (by decide)) k) ?_
    show own_Go p e below s _ _ _ (T37.setTop (mkF m 137 #[.val (.int p0), .val (.int p1), .val (.int p2), .val (.int p3), .val (.int (3 : Int32)), .val (.ref b2), .val (.ref b_5), .val (.int (1 : Int32)), .val (.ref b_5)] []))
    refine own_via (fun _ k => XS.aload X37.here hx rfl (hb hby at_137) rfl rfl k) ?_
    show own_Go p e below s _ _ _ (T37.setTop (mkF m 139 #[.val (.int p0), .val (.int p1), .val (.int p2), .val (.int p3), .val (.int (3 : Int32)), .val (.ref b2), .val (.ref b_5), .val (.int (1 : Int32)), .val (.ref b_5)] [(.ref b_5)]))
    refine own_via (fun _ k => XS.aload X37.here hx rfl (hb hby at_139) rfl rfl k) ?_
    show own_Go p e below s _ _ _ (T37.setTop (mkF m 141 #[.val (.int p0), .val (.int p1), .val (.int p2), .val (.int p3), .val (.int (3 : Int32)), .val (.ref b2), .val (.ref b_5), .val (.int (1 : Int32)), .val (.ref b_5)] [(.ref b_5), (.ref b_5)]))
    refine own_via (fun _ k => Jvm.RoadKit.acmp (g := (mkF m 141 #[.val (.int p0), .val (.int p1), .val (.int p2), .val (.int p3), .val (.int (3 : Int32)), .val (.ref b2), .val (.ref b_5), .val (.int (1 : Int32)), .val (.ref b_5)] [(.ref b_5), (.ref b_5)])) X37 hx rfl rfl rfl (pc0 := 141) (pc' := 144) (same := true) rfl (hb hby at_141) rfl (decide_eq_true rfl) (by decide) (by decide) k) ?_
    show own_Go p e below s _ _ _ (T37.setTop (mkF m 144 #[.val (.int p0), .val (.int p1), .val (.int p2), .val (.int p3), .val (.int (3 : Int32)), .val (.ref b2), .val (.ref b_5), .val (.int (1 : Int32)), .val (.ref b_5)] []))
    refine own_via (fun _ k => XS.iconst X37.here hx rfl (hb hby at_144) k) ?_
    show own_Go p e below s _ _ _ (T37.setTop (mkF m 145 #[.val (.int p0), .val (.int p1), .val (.int p2), .val (.int p3), .val (.int (3 : Int32)), .val (.ref b2), .val (.ref b_5), .val (.int (1 : Int32)), .val (.ref b_5)] [(.int (1 : Int32))]))
    refine own_via (fun _ k => XS.goto X37.here hx rfl (pc0 := 145) (pc' := 149) rfl (hb hby at_145) (by decide) (by decide) k) ?_
    show own_Go p e below s _ _ _ (T37.setTop (mkF m 149 #[.val (.int p0), .val (.int p1), .val (.int p2), .val (.int p3), .val (.int (3 : Int32)), .val (.ref b2), .val (.ref b_5), .val (.int (1 : Int32)), .val (.ref b_5)] [(.int (1 : Int32))]))
    refine own_via (fun _ k => XS.istore X37.here hx rfl (hb hby at_149) rfl (l' := #[.val (.int p0), .val (.int p1), .val (.int p2), .val (.int p3), .val (.int (3 : Int32)), .val (.ref b2), .val (.ref b_5), .val (.int (1 : Int32)), .val (.ref b_5)]) rfl k) ?_
    show own_Go p e below s _ _ _ (T37.setTop (mkF m 151 #[.val (.int p0), .val (.int p1), .val (.int p2), .val (.int p3), .val (.int (3 : Int32)), .val (.ref b2), .val (.ref b_5), .val (.int (1 : Int32)), .val (.ref b_5)] []))
    refine own_via (fun _ k => XS.iload X37.here hx rfl (hb hby at_151) rfl k) ?_
    show own_Go p e below s _ _ _ (T37.setTop (mkF m 153 #[.val (.int p0), .val (.int p1), .val (.int p2), .val (.int p3), .val (.int (3 : Int32)), .val (.ref b2), .val (.ref b_5), .val (.int (1 : Int32)), .val (.ref b_5)] [(.int (1 : Int32))]))
    refine own_via (fun _ k => XS.ifNo X37.here hx rfl (hb hby at_153) rfl (Jvm.Free.XT.i0_eq_f (by decide)) k) ?_
    show own_Go p e below s _ _ _ (T37.setTop (mkF m 156 #[.val (.int p0), .val (.int p1), .val (.int p2), .val (.int p3), .val (.int (3 : Int32)), .val (.ref b2), .val (.ref b_5), .val (.int (1 : Int32)), .val (.ref b_5)] []))
    refine own_via (fun _ k => XS.aload X37.here hx rfl (hb hby at_156) rfl rfl k) ?_
    show own_Go p e below s _ _ _ (T37.setTop (mkF m 158 #[.val (.int p0), .val (.int p1), .val (.int p2), .val (.int p3), .val (.int (3 : Int32)), .val (.ref b2), .val (.ref b_5), .val (.int (1 : Int32)), .val (.ref b_5)] [(.ref b_5)]))
    obtain ⟨cl38, Ar38, q38, S38, M38, H38, G38⟩ := (id F34)
    refine own_via (fun _ k => X37.arraylength hx (by rw [e37]; exact Ar38.1) (State.isArrayOf_alike hZ.alike Ar38.2.1) (g := (mkF m 158 #[.val (.int p0), .val (.int p1), .val (.int p2), .val (.int p3), .val (.int (3 : Int32)), .val (.ref b2), .val (.ref b_5), .val (.int (1 : Int32)), .val (.ref b_5)] [(.ref b_5)])) rfl rfl (hb hby at_158) _ (by rw [len_of S38 M38]; exact k)) ?_
    show own_Go p e below s _ _ _ (T37.setTop (mkF m 159 #[.val (.int p0), .val (.int p1), .val (.int p2), .val (.int p3), .val (.int (3 : Int32)), .val (.ref b2), .val (.ref b_5), .val (.int (1 : Int32)), .val (.ref b_5)] [(.int (3 : Int32))]))
    refine own_via (fun _ k => XS.iload X37.here hx rfl (hb hby at_159) rfl k) ?_
    show own_Go p e below s _ _ _ (T37.setTop (mkF m 161 #[.val (.int p0), .val (.int p1), .val (.int p2), .val (.int p3), .val (.int (3 : Int32)), .val (.ref b2), .val (.ref b_5), .val (.int (1 : Int32)), .val (.ref b_5)] [(.int (3 : Int32)), (.int (3 : Int32))]))
    refine own_via (fun _ k => XS.icmpNo X37.here hx rfl (hb hby at_161) rfl (Jvm.Free.XT.ii_ne_f (by decide)) k) ?_
    show own_Go p e below s _ _ _ (T37.setTop (mkF m 164 #[.val (.int p0), .val (.int p1), .val (.int p2), .val (.int p3), .val (.int (3 : Int32)), .val (.ref b2), .val (.ref b_5), .val (.int (1 : Int32)), .val (.ref b_5)] []))
    refine own_via (fun _ k => XS.iconst X37.here hx rfl (hb hby at_164) k) ?_
    show own_Go p e below s _ _ _ (T37.setTop (mkF m 165 #[.val (.int p0), .val (.int p1), .val (.int p2), .val (.int p3), .val (.int (3 : Int32)), .val (.ref b2), .val (.ref b_5), .val (.int (1 : Int32)), .val (.ref b_5)] [(.int (1 : Int32))]))
    refine own_via (fun _ k => XS.goto X37.here hx rfl (pc0 := 165) (pc' := 169) rfl (hb hby at_165) (by decide) (by decide) k) ?_
    show own_Go p e below s _ _ _ (T37.setTop (mkF m 169 #[.val (.int p0), .val (.int p1), .val (.int p2), .val (.int p3), .val (.int (3 : Int32)), .val (.ref b2), .val (.ref b_5), .val (.int (1 : Int32)), .val (.ref b_5)] [(.int (1 : Int32))]))
    refine own_via (fun _ k => XS.istore X37.here hx rfl (hb hby at_169) rfl (l' := #[.val (.int p0), .val (.int p1), .val (.int p2), .val (.int p3), .val (.int (3 : Int32)), .val (.ref b2), .val (.ref b_5), .val (.int (1 : Int32)), .val (.ref b_5)]) rfl k) ?_
    show own_Go p e below s _ _ _ (T37.setTop (mkF m 171 #[.val (.int p0), .val (.int p1), .val (.int p2), .val (.int p3), .val (.int (3 : Int32)), .val (.ref b2), .val (.ref b_5), .val (.int (1 : Int32)), .val (.ref b_5)] []))
    refine own_via (fun _ k => XS.iload X37.here hx rfl (hb hby at_171) rfl k) ?_
    show own_Go p e below s _ _ _ (T37.setTop (mkF m 173 #[.val (.int p0), .val (.int p1), .val (.int p2), .val (.int p3), .val (.int (3 : Int32)), .val (.ref b2), .val (.ref b_5), .val (.int (1 : Int32)), .val (.ref b_5)] [(.int (1 : Int32))]))
    refine own_via (fun _ k => XS.ifNo X37.here hx rfl (hb hby at_173) rfl (Jvm.Free.XT.i0_eq_f (by decide)) k) ?_
    show own_Go p e below s _ _ _ (T37.setTop (mkF m 176 #[.val (.int p0), .val (.int p1), .val (.int p2), .val (.int p3), .val (.int (3 : Int32)), .val (.ref b2), .val (.ref b_5), .val (.int (1 : Int32)), .val (.ref b_5)] []))
    refine own_via (fun _ k => XS.aload X37.here hx rfl (hb hby at_176) rfl rfl k) ?_
    show own_Go p e below s _ _ _ (T37.setTop (mkF m 178 #[.val (.int p0), .val (.int p1), .val (.int p2), .val (.int p3), .val (.int (3 : Int32)), .val (.ref b2), .val (.ref b_5), .val (.int (1 : Int32)), .val (.ref b_5)] [(.ref b_5)]))
    refine own_via (fun _ k => XS.iconst X37.here hx rfl (hb hby at_178) k) ?_
    show own_Go p e below s _ _ _ (T37.setTop (mkF m 179 #[.val (.int p0), .val (.int p1), .val (.int p2), .val (.int p3), .val (.int (3 : Int32)), .val (.ref b2), .val (.ref b_5), .val (.int (1 : Int32)), .val (.ref b_5)] [(.int (0 : Int32)), (.ref b_5)]))
    obtain ⟨cl39, Ar39, q39, S39, M39, H39, G39⟩ := (id F34)
    have hin39 : ¬ ((0 : Int32) < 0 ∨ cl39.slots.size ≤ ((0 : Int32)).toNatClampNeg) := inb_of S39 ⟨by decide, by decide⟩
    have hat39 : cl39.slots[((0 : Int32)).toNatClampNeg]? = some (.int (nar .byte (o_i2b p1))) := Has.at H39 hin39 rfl
    refine own_via (fun _ k => X37.baloadBytes hx (j := (0 : Int32)) (v := (.int (nar .byte (o_i2b p1)))) (by rw [e37]; exact Ar39.1) (State.isArrayOf_alike hZ.alike Ar39.2.1) Ar39.2.2 hin39 hat39 (g := (mkF m 179 #[.val (.int p0), .val (.int p1), .val (.int p2), .val (.int p3), .val (.int (3 : Int32)), .val (.ref b2), .val (.ref b_5), .val (.int (1 : Int32)), .val (.ref b_5)] [(.int (0 : Int32)), (.ref b_5)])) rfl rfl (hb hby at_179) _ k) ?_
    show own_Go p e below s _ _ _ (T37.setTop (mkF m 180 #[.val (.int p0), .val (.int p1), .val (.int p2), .val (.int p3), .val (.int (3 : Int32)), .val (.ref b2), .val (.ref b_5), .val (.int (1 : Int32)), .val (.ref b_5)] [(.int (nar .byte (o_i2b p1)))]))
    refine own_via (fun _ k => XS.iloadN X37.here hx rfl (hb hby at_180) rfl k) ?_
    show own_Go p e below s _ _ _ (T37.setTop (mkF m 181 #[.val (.int p0), .val (.int p1), .val (.int p2), .val (.int p3), .val (.int (3 : Int32)), .val (.ref b2), .val (.ref b_5), .val (.int (1 : Int32)), .val (.ref b_5)] [(.int p1), (.int (nar .byte (o_i2b p1)))]))
    refine own_via (fun _ k => XS.i2b X37.here hx rfl (hb hby at_181) rfl k) ?_
    show own_Go p e below s _ _ _ (T37.setTop (mkF m 182 #[.val (.int p0), .val (.int p1), .val (.int p2), .val (.int p3), .val (.int (3 : Int32)), .val (.ref b2), .val (.ref b_5), .val (.int (1 : Int32)), .val (.ref b_5)] [(.int (o_i2b p1)), (.int (nar .byte (o_i2b p1)))]))
    have hc40 : (nar .byte (o_i2b p1)) = (o_i2b p1) := own_nb _
    refine own_via (fun _ k => XS.icmpNo X37.here hx rfl (hb hby at_182) rfl (Jvm.Free.XT.ii_ne_f hc40) k) ?_
    show own_Go p e below s _ _ _ (T37.setTop (mkF m 185 #[.val (.int p0), .val (.int p1), .val (.int p2), .val (.int p3), .val (.int (3 : Int32)), .val (.ref b2), .val (.ref b_5), .val (.int (1 : Int32)), .val (.ref b_5)] []))
    refine own_via (fun _ k => XS.iconst X37.here hx rfl (hb hby at_185) k) ?_
    show own_Go p e below s _ _ _ (T37.setTop (mkF m 186 #[.val (.int p0), .val (.int p1), .val (.int p2), .val (.int p3), .val (.int (3 : Int32)), .val (.ref b2), .val (.ref b_5), .val (.int (1 : Int32)), .val (.ref b_5)] [(.int (1 : Int32))]))
    refine own_via (fun _ k => XS.goto X37.here hx rfl (pc0 := 186) (pc' := 190) rfl (hb hby at_186) (by decide) (by decide) k) ?_
    show own_Go p e below s _ _ _ (T37.setTop (mkF m 190 #[.val (.int p0), .val (.int p1), .val (.int p2), .val (.int p3), .val (.int (3 : Int32)), .val (.ref b2), .val (.ref b_5), .val (.int (1 : Int32)), .val (.ref b_5)] [(.int (1 : Int32))]))
    refine own_via (fun _ k => XS.istore X37.here hx rfl (hb hby at_190) rfl (l' := #[.val (.int p0), .val (.int p1), .val (.int p2), .val (.int p3), .val (.int (3 : Int32)), .val (.ref b2), .val (.ref b_5), .val (.int (1 : Int32)), .val (.ref b_5)]) rfl k) ?_
    show own_Go p e below s _ _ _ (T37.setTop (mkF m 192 #[.val (.int p0), .val (.int p1), .val (.int p2), .val (.int p3), .val (.int (3 : Int32)), .val (.ref b2), .val (.ref b_5), .val (.int (1 : Int32)), .val (.ref b_5)] []))
    refine own_via (fun _ k => XS.iload X37.here hx rfl (hb hby at_192) rfl k) ?_
    show own_Go p e below s _ _ _ (T37.setTop (mkF m 194 #[.val (.int p0), .val (.int p1), .val (.int p2), .val (.int p3), .val (.int (3 : Int32)), .val (.ref b2), .val (.ref b_5), .val (.int (1 : Int32)), .val (.ref b_5)] [(.int (1 : Int32))]))
    refine own_via (fun _ k => XS.ifNo X37.here hx rfl (hb hby at_194) rfl (Jvm.Free.XT.i0_eq_f (by decide)) k) ?_
    show own_Go p e below s _ _ _ (T37.setTop (mkF m 197 #[.val (.int p0), .val (.int p1), .val (.int p2), .val (.int p3), .val (.int (3 : Int32)), .val (.ref b2), .val (.ref b_5), .val (.int (1 : Int32)), .val (.ref b_5)] []))
    refine own_via (fun _ k => XS.aload X37.here hx rfl (hb hby at_197) rfl rfl k) ?_
    show own_Go p e below s _ _ _ (T37.setTop (mkF m 199 #[.val (.int p0), .val (.int p1), .val (.int p2), .val (.int p3), .val (.int (3 : Int32)), .val (.ref b2), .val (.ref b_5), .val (.int (1 : Int32)), .val (.ref b_5)] [(.ref b_5)]))
    refine own_via (fun _ k => XS.iconst X37.here hx rfl (hb hby at_199) k) ?_
    show own_Go p e below s _ _ _ (T37.setTop (mkF m 200 #[.val (.int p0), .val (.int p1), .val (.int p2), .val (.int p3), .val (.int (3 : Int32)), .val (.ref b2), .val (.ref b_5), .val (.int (1 : Int32)), .val (.ref b_5)] [(.int (1 : Int32)), (.ref b_5)]))
    obtain ⟨cl41, Ar41, q41, S41, M41, H41, G41⟩ := (id F34)
    have hin41 : ¬ ((1 : Int32) < 0 ∨ cl41.slots.size ≤ ((1 : Int32)).toNatClampNeg) := inb_of S41 ⟨by decide, by decide⟩
    have hat41 : cl41.slots[((1 : Int32)).toNatClampNeg]? = some (.int (nar .byte (o_i2b p2))) := Has.at H41 hin41 rfl
    refine own_via (fun _ k => X37.baloadBytes hx (j := (1 : Int32)) (v := (.int (nar .byte (o_i2b p2)))) (by rw [e37]; exact Ar41.1) (State.isArrayOf_alike hZ.alike Ar41.2.1) Ar41.2.2 hin41 hat41 (g := (mkF m 200 #[.val (.int p0), .val (.int p1), .val (.int p2), .val (.int p3), .val (.int (3 : Int32)), .val (.ref b2), .val (.ref b_5), .val (.int (1 : Int32)), .val (.ref b_5)] [(.int (1 : Int32)), (.ref b_5)])) rfl rfl (hb hby at_200) _ k) ?_
    show own_Go p e below s _ _ _ (T37.setTop (mkF m 201 #[.val (.int p0), .val (.int p1), .val (.int p2), .val (.int p3), .val (.int (3 : Int32)), .val (.ref b2), .val (.ref b_5), .val (.int (1 : Int32)), .val (.ref b_5)] [(.int (nar .byte (o_i2b p2)))]))
    refine own_via (fun _ k => XS.iloadN X37.here hx rfl (hb hby at_201) rfl k) ?_
    show own_Go p e below s _ _ _ (T37.setTop (mkF m 202 #[.val (.int p0), .val (.int p1), .val (.int p2), .val (.int p3), .val (.int (3 : Int32)), .val (.ref b2), .val (.ref b_5), .val (.int (1 : Int32)), .val (.ref b_5)] [(.int p2), (.int (nar .byte (o_i2b p2)))]))
    refine own_via (fun _ k => XS.i2b X37.here hx rfl (hb hby at_202) rfl k) ?_
    show own_Go p e below s _ _ _ (T37.setTop (mkF m 203 #[.val (.int p0), .val (.int p1), .val (.int p2), .val (.int p3), .val (.int (3 : Int32)), .val (.ref b2), .val (.ref b_5), .val (.int (1 : Int32)), .val (.ref b_5)] [(.int (o_i2b p2)), (.int (nar .byte (o_i2b p2)))]))
    have hc42 : (nar .byte (o_i2b p2)) = (o_i2b p2) := own_nb _
    refine own_via (fun _ k => XS.icmpNo X37.here hx rfl (hb hby at_203) rfl (Jvm.Free.XT.ii_ne_f hc42) k) ?_
    show own_Go p e below s _ _ _ (T37.setTop (mkF m 206 #[.val (.int p0), .val (.int p1), .val (.int p2), .val (.int p3), .val (.int (3 : Int32)), .val (.ref b2), .val (.ref b_5), .val (.int (1 : Int32)), .val (.ref b_5)] []))
    refine own_via (fun _ k => XS.iconst X37.here hx rfl (hb hby at_206) k) ?_
    show own_Go p e below s _ _ _ (T37.setTop (mkF m 207 #[.val (.int p0), .val (.int p1), .val (.int p2), .val (.int p3), .val (.int (3 : Int32)), .val (.ref b2), .val (.ref b_5), .val (.int (1 : Int32)), .val (.ref b_5)] [(.int (1 : Int32))]))
    refine own_via (fun _ k => XS.goto X37.here hx rfl (pc0 := 207) (pc' := 211) rfl (hb hby at_207) (by decide) (by decide) k) ?_
    show own_Go p e below s _ _ _ (T37.setTop (mkF m 211 #[.val (.int p0), .val (.int p1), .val (.int p2), .val (.int p3), .val (.int (3 : Int32)), .val (.ref b2), .val (.ref b_5), .val (.int (1 : Int32)), .val (.ref b_5)] [(.int (1 : Int32))]))
    refine own_via (fun _ k => XS.istore X37.here hx rfl (hb hby at_211) rfl (l' := #[.val (.int p0), .val (.int p1), .val (.int p2), .val (.int p3), .val (.int (3 : Int32)), .val (.ref b2), .val (.ref b_5), .val (.int (1 : Int32)), .val (.ref b_5)]) rfl k) ?_
    show own_Go p e below s _ _ _ (T37.setTop (mkF m 213 #[.val (.int p0), .val (.int p1), .val (.int p2), .val (.int p3), .val (.int (3 : Int32)), .val (.ref b2), .val (.ref b_5), .val (.int (1 : Int32)), .val (.ref b_5)] []))
    refine own_via (fun _ k => XS.iload X37.here hx rfl (hb hby at_213) rfl k) ?_
    show own_Go p e below s _ _ _ (T37.setTop (mkF m 215 #[.val (.int p0), .val (.int p1), .val (.int p2), .val (.int p3), .val (.int (3 : Int32)), .val (.ref b2), .val (.ref b_5), .val (.int (1 : Int32)), .val (.ref b_5)] [(.int (1 : Int32))]))
    refine own_via (fun _ k => XS.ifNo X37.here hx rfl (hb hby at_215) rfl (Jvm.Free.XT.i0_eq_f (by decide)) k) ?_
    show own_Go p e below s _ _ _ (T37.setTop (mkF m 218 #[.val (.int p0), .val (.int p1), .val (.int p2), .val (.int p3), .val (.int (3 : Int32)), .val (.ref b2), .val (.ref b_5), .val (.int (1 : Int32)), .val (.ref b_5)] []))
    refine own_via (fun _ k => XS.aload X37.here hx rfl (hb hby at_218) rfl rfl k) ?_
    show own_Go p e below s _ _ _ (T37.setTop (mkF m 220 #[.val (.int p0), .val (.int p1), .val (.int p2), .val (.int p3), .val (.int (3 : Int32)), .val (.ref b2), .val (.ref b_5), .val (.int (1 : Int32)), .val (.ref b_5)] [(.ref b_5)]))
    refine own_via (fun _ k => XS.iconst X37.here hx rfl (hb hby at_220) k) ?_
    show own_Go p e below s _ _ _ (T37.setTop (mkF m 221 #[.val (.int p0), .val (.int p1), .val (.int p2), .val (.int p3), .val (.int (3 : Int32)), .val (.ref b2), .val (.ref b_5), .val (.int (1 : Int32)), .val (.ref b_5)] [(.int (2 : Int32)), (.ref b_5)]))
    obtain ⟨cl43, Ar43, q43, S43, M43, H43, G43⟩ := (id F34)
    have hin43 : ¬ ((2 : Int32) < 0 ∨ cl43.slots.size ≤ ((2 : Int32)).toNatClampNeg) := inb_of S43 ⟨by decide, by decide⟩
    have hat43 : cl43.slots[((2 : Int32)).toNatClampNeg]? = some (.int (nar .byte (o_i2b p3))) := Has.at H43 hin43 rfl
    refine own_via (fun _ k => X37.baloadBytes hx (j := (2 : Int32)) (v := (.int (nar .byte (o_i2b p3)))) (by rw [e37]; exact Ar43.1) (State.isArrayOf_alike hZ.alike Ar43.2.1) Ar43.2.2 hin43 hat43 (g := (mkF m 221 #[.val (.int p0), .val (.int p1), .val (.int p2), .val (.int p3), .val (.int (3 : Int32)), .val (.ref b2), .val (.ref b_5), .val (.int (1 : Int32)), .val (.ref b_5)] [(.int (2 : Int32)), (.ref b_5)])) rfl rfl (hb hby at_221) _ k) ?_
    show own_Go p e below s _ _ _ (T37.setTop (mkF m 222 #[.val (.int p0), .val (.int p1), .val (.int p2), .val (.int p3), .val (.int (3 : Int32)), .val (.ref b2), .val (.ref b_5), .val (.int (1 : Int32)), .val (.ref b_5)] [(.int (nar .byte (o_i2b p3)))]))
    refine own_via (fun _ k => XS.iloadN X37.here hx rfl (hb hby at_222) rfl k) ?_
    show own_Go p e below s _ _ _ (T37.setTop (mkF m 223 #[.val (.int p0), .val (.int p1), .val (.int p2), .val (.int p3), .val (.int (3 : Int32)), .val (.ref b2), .val (.ref b_5), .val (.int (1 : Int32)), .val (.ref b_5)] [(.int p3), (.int (nar .byte (o_i2b p3)))]))
    refine own_via (fun _ k => XS.i2b X37.here hx rfl (hb hby at_223) rfl k) ?_
    show own_Go p e below s _ _ _ (T37.setTop (mkF m 224 #[.val (.int p0), .val (.int p1), .val (.int p2), .val (.int p3), .val (.int (3 : Int32)), .val (.ref b2), .val (.ref b_5), .val (.int (1 : Int32)), .val (.ref b_5)] [(.int (o_i2b p3)), (.int (nar .byte (o_i2b p3)))]))
    have hc44 : (nar .byte (o_i2b p3)) = (o_i2b p3) := own_nb _
    refine own_via (fun _ k => XS.icmpNo X37.here hx rfl (hb hby at_224) rfl (Jvm.Free.XT.ii_ne_f hc44) k) ?_
    show own_Go p e below s _ _ _ (T37.setTop (mkF m 227 #[.val (.int p0), .val (.int p1), .val (.int p2), .val (.int p3), .val (.int (3 : Int32)), .val (.ref b2), .val (.ref b_5), .val (.int (1 : Int32)), .val (.ref b_5)] []))
    refine own_via (fun _ k => XS.iconst X37.here hx rfl (hb hby at_227) k) ?_
    show own_Go p e below s _ _ _ (T37.setTop (mkF m 228 #[.val (.int p0), .val (.int p1), .val (.int p2), .val (.int p3), .val (.int (3 : Int32)), .val (.ref b2), .val (.ref b_5), .val (.int (1 : Int32)), .val (.ref b_5)] [(.int (1 : Int32))]))
    refine own_via (fun _ k => XS.goto X37.here hx rfl (pc0 := 228) (pc' := 232) rfl (hb hby at_228) (by decide) (by decide) k) ?_
    show own_Go p e below s _ _ _ (T37.setTop (mkF m 232 #[.val (.int p0), .val (.int p1), .val (.int p2), .val (.int p3), .val (.int (3 : Int32)), .val (.ref b2), .val (.ref b_5), .val (.int (1 : Int32)), .val (.ref b_5)] [(.int (1 : Int32))]))
    refine own_via (fun _ k => XS.istore X37.here hx rfl (hb hby at_232) rfl (l' := #[.val (.int p0), .val (.int p1), .val (.int p2), .val (.int p3), .val (.int (3 : Int32)), .val (.ref b2), .val (.ref b_5), .val (.int (1 : Int32)), .val (.ref b_5)]) rfl k) ?_
    show own_Go p e below s _ _ _ (T37.setTop (mkF m 234 #[.val (.int p0), .val (.int p1), .val (.int p2), .val (.int p3), .val (.int (3 : Int32)), .val (.ref b2), .val (.ref b_5), .val (.int (1 : Int32)), .val (.ref b_5)] []))
    refine own_via (fun _ k => XS.iload X37.here hx rfl (hb hby at_234) rfl k) ?_
    show own_Go p e below s _ _ _ (T37.setTop (mkF m 236 #[.val (.int p0), .val (.int p1), .val (.int p2), .val (.int p3), .val (.int (3 : Int32)), .val (.ref b2), .val (.ref b_5), .val (.int (1 : Int32)), .val (.ref b_5)] [(.int (1 : Int32))]))
    refine own_via (fun _ k => XS.ifNo X37.here hx rfl (hb hby at_236) rfl (Jvm.Free.XT.i0_eq_f (by decide)) k) ?_
    show own_Go p e below s _ _ _ (T37.setTop (mkF m 239 #[.val (.int p0), .val (.int p1), .val (.int p2), .val (.int p3), .val (.int (3 : Int32)), .val (.ref b2), .val (.ref b_5), .val (.int (1 : Int32)), .val (.ref b_5)] []))
    refine own_via (fun _ k => XS.iload X37.here hx rfl (hb hby at_239) rfl k) ?_
    show own_Go p e below s _ _ _ (T37.setTop (mkF m 241 #[.val (.int p0), .val (.int p1), .val (.int p2), .val (.int p3), .val (.int (3 : Int32)), .val (.ref b2), .val (.ref b_5), .val (.int (1 : Int32)), .val (.ref b_5)] [(.int (3 : Int32))]))
    refine own_via (fun _ k => XS.iconst X37.here hx rfl (hb hby at_241) k) ?_
    show own_Go p e below s _ _ _ (T37.setTop (mkF m 242 #[.val (.int p0), .val (.int p1), .val (.int p2), .val (.int p3), .val (.int (3 : Int32)), .val (.ref b2), .val (.ref b_5), .val (.int (1 : Int32)), .val (.ref b_5)] [(.int (3 : Int32)), (.int (3 : Int32))]))
    refine own_via (fun _ k => XS.icmpYes X37.here hx rfl (pc0 := 242) (pc' := 252) rfl (hb hby at_242) rfl (Jvm.Free.XT.ii_eq_t (by decide)) (by decide) (by decide) k) ?_
    show own_Go p e below s _ _ _ (T37.setTop (mkF m 252 #[.val (.int p0), .val (.int p1), .val (.int p2), .val (.int p3), .val (.int (3 : Int32)), .val (.ref b2), .val (.ref b_5), .val (.int (1 : Int32)), .val (.ref b_5)] []))
    refine own_via (fun _ k => XS.iconst X37.here hx rfl (hb hby at_252) k) ?_
    show own_Go p e below s _ _ _ (T37.setTop (mkF m 253 #[.val (.int p0), .val (.int p1), .val (.int p2), .val (.int p3), .val (.int (3 : Int32)), .val (.ref b2), .val (.ref b_5), .val (.int (1 : Int32)), .val (.ref b_5)] [(.int (1 : Int32))]))
    refine own_via (fun _ k => XS.goto X37.here hx rfl (pc0 := 253) (pc' := 257) rfl (hb hby at_253) (by decide) (by decide) k) ?_
    show own_Go p e below s _ _ _ (T37.setTop (mkF m 257 #[.val (.int p0), .val (.int p1), .val (.int p2), .val (.int p3), .val (.int (3 : Int32)), .val (.ref b2), .val (.ref b_5), .val (.int (1 : Int32)), .val (.ref b_5)] [(.int (1 : Int32))]))
    refine own_via (fun _ k => XS.istore X37.here hx rfl (hb hby at_257) rfl (l' := #[.val (.int p0), .val (.int p1), .val (.int p2), .val (.int p3), .val (.int (3 : Int32)), .val (.ref b2), .val (.ref b_5), .val (.int (1 : Int32)), .val (.ref b_5)]) rfl k) ?_
    show own_Go p e below s _ _ _ (T37.setTop (mkF m 259 #[.val (.int p0), .val (.int p1), .val (.int p2), .val (.int p3), .val (.int (3 : Int32)), .val (.ref b2), .val (.ref b_5), .val (.int (1 : Int32)), .val (.ref b_5)] []))
    refine own_via (fun _ k => XS.iload X37.here hx rfl (hb hby at_259) rfl k) ?_
    show own_Go p e below s _ _ _ (T37.setTop (mkF m 261 #[.val (.int p0), .val (.int p1), .val (.int p2), .val (.int p3), .val (.int (3 : Int32)), .val (.ref b2), .val (.ref b_5), .val (.int (1 : Int32)), .val (.ref b_5)] [(.int (1 : Int32))]))
    exact own_goN X37 hx (t := .boolean) Bd.returns (by simp) (hb hby at_261) Bd.notSynchronized (by decide) (by decide) (by rw [e37]; exact ⟨rfl, N37⟩)
  · show own_Go p e below s _ _ _ (s₁.setTop (mkF m 7 #[.val (.int p0), .val (.int p1), .val (.int p2), .val (.int p3), .val (.int (4 : Int32)), .unset, .unset, .unset, .unset] []))
    obtain ⟨T45, h45, X45, e45, E45, A45, D45, -, st45⟩ := newO X0 hx hZ hown (hw _ (List.mem_of_getElem? (i := 0) rfl)) (hw _ (List.mem_of_getElem? (i := 1) rfl)) (hw _ (List.mem_of_getElem? (i := 2) rfl)) e0 (g := (mkF m 7 #[.val (.int p0), .val (.int p1), .val (.int p2), .val (.int p3), .val (.int (4 : Int32)), .unset, .unset, .unset, .unset] [])) rfl (hb hby at_7) (by decide) (by decide)
    obtain ⟨b45, gg45⟩ : ∃ z, z = h0.size := ⟨_, rfl⟩
    rw [← gg45] at A45 D45 st45
    have g_b45 : n0 ≤ b45 := Nat.le_trans Z0 (Nat.le_of_eq gg45.symm)
    have Z45 : n0 ≤ h45.size := Nat.le_trans Z0 E45.1
    have F46 : Fld Z h45 b45 "com/example/liboutlay/liboutlay/core/ByteOutput" "bytes" "[B" .null := D45 (Or.inl (hw _ (List.mem_of_getElem? (i := 11) rfl))) (ty := (.array .byte)) (by decide)
    have F47 : Fld Z h45 b45 "com/example/liboutlay/liboutlay/core/ByteOutput" "length" "I" (.int (0 : Int32)) := D45 (Or.inl (hw _ (List.mem_of_getElem? (i := 23) rfl))) (ty := .int) (by decide)
    refine own_via st45 ?_
    show own_Go p e below s _ _ _ (T45.setTop (mkF m 10 #[.val (.int p0), .val (.int p1), .val (.int p2), .val (.int p3), .val (.int (4 : Int32)), .unset, .unset, .unset, .unset] [(.ref b45)]))
    refine own_via (fun _ k => XS.dup X45.here hx rfl (hb hby at_10) rfl rfl k) ?_
    show own_Go p e below s _ _ _ (T45.setTop (mkF m 11 #[.val (.int p0), .val (.int p1), .val (.int p2), .val (.int p3), .val (.int (4 : Int32)), .unset, .unset, .unset, .unset] [(.ref b45), (.ref b45)]))
    refine own_via (fun _ k => XS.iload X45.here hx rfl (hb hby at_11) rfl k) ?_
    show own_Go p e below s _ _ _ (T45.setTop (mkF m 13 #[.val (.int p0), .val (.int p1), .val (.int p2), .val (.int p3), .val (.int (4 : Int32)), .unset, .unset, .unset, .unset] [(.int (4 : Int32)), (.ref b45), (.ref b45)]))
    obtain ⟨_, _, ⟨T48, L48, k48, n48⟩, -, X48, ⟨Lc48, hQ48, l48, y48, z48⟩, st48⟩ := X45.specialBack hx (y := (⟨"com/example/liboutlay/liboutlay/core/ByteOutput", "<init>", "(I)V"⟩ : MethodName)) rfl hown (mvT hZ (hw _ (List.mem_of_getElem? (i := 3) rfl))) (mvT hZ (hw _ (List.mem_of_getElem? (i := 4) rfl))) (mvT hZ (hw _ (List.mem_of_getElem? (i := 5) rfl))) (by decide) (backOf (W := 1) (rm1 l Z a0 hw [] b45 (4 : Int32) h45 n0 Z45 A45 F46 F47 g_b45 (by first | decide | (simp; done)) (by first | decide | (simp; done))) hZ (hw _ (List.mem_of_getElem? (i := 5) rfl)) (hw _ (List.mem_of_getElem? (i := 2) rfl)) (by decide) (by decide)) (g := (mkF m 13 #[.val (.int p0), .val (.int p1), .val (.int p2), .val (.int p3), .val (.int (4 : Int32)), .unset, .unset, .unset, .unset] [(.int (4 : Int32)), (.ref b45), (.ref b45)])) rfl (by rw [hml]; rfl) (Steps.refl _) (a := b45) (argsL := [(.int (4 : Int32))]) (rest := [(.ref b45)]) (lenOf pd_0 rfl) rfl (by show 2 * 0 + _ ≤ _; exact Nat.le_of_eq rfl) (hb hby at_13) (fun _ _ => ⟨rfl, e45, (by decide : 1 + 1 ≤ _), (by decide : 2 + 4 ≤ _)⟩)
    dsimp only [Pt.U, Pt.locs, Pt.cells, Pt.slots] at X48 l48 y48 z48 st48 hQ48
    subst l48 y48 z48
    obtain ⟨h48, e48⟩ : ∃ h, T48.heap = h := ⟨_, rfl⟩
    rw [e48] at hQ48
    obtain ⟨b_48, k_48, rfl, N48q, Kq48, F49, F50, F51, F52, F53⟩ := hQ48
    have ne_b45_b_48 : b45 ≠ b_48 := Nat.ne_of_lt (Nat.lt_of_lt_of_le A45.lt F49)
    have g_b_48 : n0 ≤ b_48 := Nat.le_trans Z45 F49
    have Z48 : n0 ≤ h48.size := Nat.le_trans Z45 Kq48.1
    have N48 := Fr.app N0 N48q
    refine own_viaT st48 ?_
    show own_Go p e below s _ _ _ (T48.setTop (mkF m 16 #[.val (.int p0), .val (.int p1), .val (.int p2), .val (.int p3), .val (.int (4 : Int32)), .unset, .unset, .unset, .unset] [(.ref b45)]))
    refine own_via (fun _ k => XS.astore X48.here hx rfl (hb hby at_16) rfl rfl (l' := #[.val (.int p0), .val (.int p1), .val (.int p2), .val (.int p3), .val (.int (4 : Int32)), .val (.ref b45), .unset, .unset, .unset]) rfl k) ?_
    show own_Go p e below s _ _ _ (T48.setTop (mkF m 18 #[.val (.int p0), .val (.int p1), .val (.int p2), .val (.int p3), .val (.int (4 : Int32)), .val (.ref b45), .unset, .unset, .unset] []))
    refine own_via (fun _ k => XS.aload X48.here hx rfl (hb hby at_18) rfl rfl k) ?_
    show own_Go p e below s _ _ _ (T48.setTop (mkF m 20 #[.val (.int p0), .val (.int p1), .val (.int p2), .val (.int p3), .val (.int (4 : Int32)), .val (.ref b45), .unset, .unset, .unset] [(.ref b45)]))
    obtain ⟨cq54, kq54, qa54, qb54, qc54⟩ := isOf hZ e48 F50
    obtain ⟨_, _, ⟨T54, L54, k54, n54⟩, -, X54, ⟨Lc54, hQ54, l54, y54, z54⟩, st54⟩ := X48.virtualBack hx (y := (⟨"com/example/liboutlay/liboutlay/core/ByteOutput", "array", "()[B"⟩ : MethodName)) (z := (⟨"com/example/liboutlay/liboutlay/core/ByteOutput", "array", "()[B"⟩ : MethodName)) hown (mvT hZ (hw _ (List.mem_of_getElem? (i := 12) rfl))) (mvT hZ (hw _ (List.mem_of_getElem? (i := 13) rfl))) (notFace_of_selects (args := #[]) (mvT hZ (hw _ (List.mem_of_getElem? (i := 15) rfl)))) (mvT hZ (hw _ (List.mem_of_getElem? (i := 15) rfl))) (mvT hZ (hw _ (List.mem_of_getElem? (i := 14) rfl))) (by decide) (backOf (W := 0) (rm3 l Z a0 hw [] b45 b_48 h48 n0 Z48 F51) hZ (hw _ (List.mem_of_getElem? (i := 16) rfl)) (hw _ (List.mem_of_getElem? (i := 2) rfl)) (by decide) (by decide)) qa54 qc54 (g := (mkF m 20 #[.val (.int p0), .val (.int p1), .val (.int p2), .val (.int p3), .val (.int (4 : Int32)), .val (.ref b45), .unset, .unset, .unset] [(.ref b45)])) rfl (by rw [hml]; rfl) (Steps.refl _) (argsL := []) (rest := []) (lenOf pd_1 rfl) rfl (by show 2 * 0 + _ ≤ _; exact Nat.le_of_eq rfl) (hb hby at_20) (fun _ _ => ⟨rfl, e48, (by decide : 2 + 0 ≤ _), (by decide : 6 + 0 ≤ _)⟩)
    dsimp only [Pt.U, Pt.locs, Pt.cells, Pt.slots] at X54 l54 y54 z54 st54 hQ54
    subst l54 y54 z54
    obtain ⟨rfl, N54q, e54⟩ := hQ54
    have N54 := Fr.app N48 N54q
    refine own_viaT st54 ?_
    show own_Go p e below s _ _ _ (T54.setTop (mkF m 23 #[.val (.int p0), .val (.int p1), .val (.int p2), .val (.int p3), .val (.int (4 : Int32)), .val (.ref b45), .unset, .unset, .unset] [(.ref b_48)]))
    refine own_via (fun _ k => XS.astore X54.here hx rfl (hb hby at_23) rfl rfl (l' := #[.val (.int p0), .val (.int p1), .val (.int p2), .val (.int p3), .val (.int (4 : Int32)), .val (.ref b45), .val (.ref b_48), .unset, .unset]) rfl k) ?_
    show own_Go p e below s _ _ _ (T54.setTop (mkF m 25 #[.val (.int p0), .val (.int p1), .val (.int p2), .val (.int p3), .val (.int (4 : Int32)), .val (.ref b45), .val (.ref b_48), .unset, .unset] []))
    refine own_via (fun _ k => XS.aload X54.here hx rfl (hb hby at_25) rfl rfl k) ?_
    show own_Go p e below s _ _ _ (T54.setTop (mkF m 27 #[.val (.int p0), .val (.int p1), .val (.int p2), .val (.int p3), .val (.int (4 : Int32)), .val (.ref b45), .val (.ref b_48), .unset, .unset] [(.ref b45)]))
    refine own_via (fun _ k => XS.iloadN X54.here hx rfl (hb hby at_27) rfl k) ?_
    show own_Go p e below s _ _ _ (T54.setTop (mkF m 28 #[.val (.int p0), .val (.int p1), .val (.int p2), .val (.int p3), .val (.int (4 : Int32)), .val (.ref b45), .val (.ref b_48), .unset, .unset] [(.int p1), (.ref b45)]))
    obtain ⟨cq55, kq55, qa55, qb55, qc55⟩ := isOf hZ e54 F50
    obtain ⟨_, _, ⟨T55, L55, k55, n55⟩, -, X55, ⟨Lc55, hQ55, l55, y55, z55⟩, st55⟩ := X54.virtualBack hx (y := (⟨"com/example/liboutlay/liboutlay/core/ByteOutput", "put", "(I)V"⟩ : MethodName)) (z := (⟨"com/example/liboutlay/liboutlay/core/ByteOutput", "put", "(I)V"⟩ : MethodName)) hown (mvT hZ (hw _ (List.mem_of_getElem? (i := 17) rfl))) (mvT hZ (hw _ (List.mem_of_getElem? (i := 18) rfl))) (notFace_of_selects (args := #[]) (mvT hZ (hw _ (List.mem_of_getElem? (i := 20) rfl)))) (mvT hZ (hw _ (List.mem_of_getElem? (i := 20) rfl))) (mvT hZ (hw _ (List.mem_of_getElem? (i := 19) rfl))) (by decide) (backOf (W := 0) (rm4 l Z a0 hw [] b45 p1 b_48 (0 : Int32) k_48 (4 : Int32) [(.int (0 : Int32)), (.int (0 : Int32)), (.int (0 : Int32)), (.int (0 : Int32))] (.int (0 : Int32)) 0 h48 n0 Z48 F50 F51 F52 F53 g_b45 g_b_48 ne_b45_b_48 (by first | decide | (simp; done)) (by first | decide | (simp; done)) (by first | decide | (simp; done))) hZ (hw _ (List.mem_of_getElem? (i := 21) rfl)) (hw _ (List.mem_of_getElem? (i := 2) rfl)) (by decide) (by decide)) qa55 qc55 (g := (mkF m 28 #[.val (.int p0), .val (.int p1), .val (.int p2), .val (.int p3), .val (.int (4 : Int32)), .val (.ref b45), .val (.ref b_48), .unset, .unset] [(.int p1), (.ref b45)])) rfl (by rw [hml]; rfl) (Steps.refl _) (argsL := [(.int p1)]) (rest := []) (lenOf pd_0 rfl) rfl (by show 2 * 0 + _ ≤ _; exact Nat.le_of_eq rfl) (hb hby at_28) (fun _ _ => ⟨rfl, e54, (by decide : 2 + 0 ≤ _), (by decide : 6 + 0 ≤ _)⟩)
    dsimp only [Pt.U, Pt.locs, Pt.cells, Pt.slots] at X55 l55 y55 z55 st55 hQ55
    subst l55 y55 z55
    obtain ⟨h55, e55⟩ : ∃ h, T55.heap = h := ⟨_, rfl⟩
    rw [e55] at hQ55
    obtain ⟨rfl, N55q, Kq55, F56, F57, F58, F59⟩ := hQ55
    have Z55 : n0 ≤ h55.size := Nat.le_trans Z48 Kq55.1
    have F60 : Fld Z h55 b45 "com/example/liboutlay/liboutlay/core/ByteOutput" "length" "I" (.int (1 : Int32)) := F58
    have F61 : Arv Z h55 b_48 k_48 .byte (4 : Int32) [(.int (nar .byte (o_i2b p1))), (.int (0 : Int32)), (.int (0 : Int32)), (.int (0 : Int32))] (.int (0 : Int32)) := F59
    have N55 := Fr.app N54 N55q
    refine own_viaT st55 ?_
    show own_Go p e below s _ _ _ (T55.setTop (mkF m 31 #[.val (.int p0), .val (.int p1), .val (.int p2), .val (.int p3), .val (.int (4 : Int32)), .val (.ref b45), .val (.ref b_48), .unset, .unset] []))
    refine own_via (fun _ k => XS.aload X55.here hx rfl (hb hby at_31) rfl rfl k) ?_
    show own_Go p e below s _ _ _ (T55.setTop (mkF m 33 #[.val (.int p0), .val (.int p1), .val (.int p2), .val (.int p3), .val (.int (4 : Int32)), .val (.ref b45), .val (.ref b_48), .unset, .unset] [(.ref b45)]))
    obtain ⟨cq62, kq62, qa62, qb62, qc62⟩ := isOf hZ e55 F56
    obtain ⟨_, _, ⟨T62, L62, k62, n62⟩, -, X62, ⟨Lc62, hQ62, l62, y62, z62⟩, st62⟩ := X55.virtualBack hx (y := (⟨"com/example/liboutlay/liboutlay/core/ByteOutput", "length", "()I"⟩ : MethodName)) (z := (⟨"com/example/liboutlay/liboutlay/core/ByteOutput", "length", "()I"⟩ : MethodName)) hown (mvT hZ (hw _ (List.mem_of_getElem? (i := 24) rfl))) (mvT hZ (hw _ (List.mem_of_getElem? (i := 25) rfl))) (notFace_of_selects (args := #[]) (mvT hZ (hw _ (List.mem_of_getElem? (i := 27) rfl)))) (mvT hZ (hw _ (List.mem_of_getElem? (i := 27) rfl))) (mvT hZ (hw _ (List.mem_of_getElem? (i := 26) rfl))) (by decide) (backOf (W := 0) (rm5 l Z a0 hw [] b45 (1 : Int32) h55 n0 Z55 F60) hZ (hw _ (List.mem_of_getElem? (i := 28) rfl)) (hw _ (List.mem_of_getElem? (i := 2) rfl)) (by decide) (by decide)) qa62 qc62 (g := (mkF m 33 #[.val (.int p0), .val (.int p1), .val (.int p2), .val (.int p3), .val (.int (4 : Int32)), .val (.ref b45), .val (.ref b_48), .unset, .unset] [(.ref b45)])) rfl (by rw [hml]; rfl) (Steps.refl _) (argsL := []) (rest := []) (lenOf pd_2 rfl) rfl (by show 2 * 0 + _ ≤ _; exact Nat.le_of_eq rfl) (hb hby at_33) (fun _ _ => ⟨rfl, e55, (by decide : 2 + 0 ≤ _), (by decide : 6 + 0 ≤ _)⟩)
    dsimp only [Pt.U, Pt.locs, Pt.cells, Pt.slots] at X62 l62 y62 z62 st62 hQ62
    subst l62 y62 z62
    obtain ⟨rfl, N62q, e62⟩ := hQ62
    have N62 := Fr.app N55 N62q
    refine own_viaT st62 ?_
    show own_Go p e below s _ _ _ (T62.setTop (mkF m 36 #[.val (.int p0), .val (.int p1), .val (.int p2), .val (.int p3), .val (.int (4 : Int32)), .val (.ref b45), .val (.ref b_48), .unset, .unset] [(.int (1 : Int32))]))
    refine own_via (fun _ k => XS.iconst X62.here hx rfl (hb hby at_36) k) ?_
    show own_Go p e below s _ _ _ (T62.setTop (mkF m 37 #[.val (.int p0), .val (.int p1), .val (.int p2), .val (.int p3), .val (.int (4 : Int32)), .val (.ref b45), .val (.ref b_48), .unset, .unset] [(.int (1 : Int32)), (.int (1 : Int32))]))
    refine own_via (fun _ k => XS.icmpNo X62.here hx rfl (hb hby at_37) rfl (Jvm.Free.XT.ii_ne_f (by decide)) k) ?_
    show own_Go p e below s _ _ _ (T62.setTop (mkF m 40 #[.val (.int p0), .val (.int p1), .val (.int p2), .val (.int p3), .val (.int (4 : Int32)), .val (.ref b45), .val (.ref b_48), .unset, .unset] []))
    refine own_via (fun _ k => XS.iconst X62.here hx rfl (hb hby at_40) k) ?_
    show own_Go p e below s _ _ _ (T62.setTop (mkF m 41 #[.val (.int p0), .val (.int p1), .val (.int p2), .val (.int p3), .val (.int (4 : Int32)), .val (.ref b45), .val (.ref b_48), .unset, .unset] [(.int (1 : Int32))]))
    refine own_via (fun _ k => XS.goto X62.here hx rfl (pc0 := 41) (pc' := 45) rfl (hb hby at_41) (by decide) (by decide) k) ?_
    show own_Go p e below s _ _ _ (T62.setTop (mkF m 45 #[.val (.int p0), .val (.int p1), .val (.int p2), .val (.int p3), .val (.int (4 : Int32)), .val (.ref b45), .val (.ref b_48), .unset, .unset] [(.int (1 : Int32))]))
    refine own_via (fun _ k => XS.istore X62.here hx rfl (hb hby at_45) rfl (l' := #[.val (.int p0), .val (.int p1), .val (.int p2), .val (.int p3), .val (.int (4 : Int32)), .val (.ref b45), .val (.ref b_48), .val (.int (1 : Int32)), .unset]) rfl k) ?_
    show own_Go p e below s _ _ _ (T62.setTop (mkF m 47 #[.val (.int p0), .val (.int p1), .val (.int p2), .val (.int p3), .val (.int (4 : Int32)), .val (.ref b45), .val (.ref b_48), .val (.int (1 : Int32)), .unset] []))
    refine own_via (fun _ k => XS.aload X62.here hx rfl (hb hby at_47) rfl rfl k) ?_
    show own_Go p e below s _ _ _ (T62.setTop (mkF m 49 #[.val (.int p0), .val (.int p1), .val (.int p2), .val (.int p3), .val (.int (4 : Int32)), .val (.ref b45), .val (.ref b_48), .val (.int (1 : Int32)), .unset] [(.ref b45)]))
    refine own_via (fun _ k => XS.iloadN X62.here hx rfl (hb hby at_49) rfl k) ?_
    show own_Go p e below s _ _ _ (T62.setTop (mkF m 50 #[.val (.int p0), .val (.int p1), .val (.int p2), .val (.int p3), .val (.int (4 : Int32)), .val (.ref b45), .val (.ref b_48), .val (.int (1 : Int32)), .unset] [(.int p2), (.ref b45)]))
    obtain ⟨cq63, kq63, qa63, qb63, qc63⟩ := isOf hZ e62 F56
    obtain ⟨_, _, ⟨T63, L63, k63, n63⟩, -, X63, ⟨Lc63, hQ63, l63, y63, z63⟩, st63⟩ := X62.virtualBack hx (y := (⟨"com/example/liboutlay/liboutlay/core/ByteOutput", "put", "(I)V"⟩ : MethodName)) (z := (⟨"com/example/liboutlay/liboutlay/core/ByteOutput", "put", "(I)V"⟩ : MethodName)) hown (mvT hZ (hw _ (List.mem_of_getElem? (i := 17) rfl))) (mvT hZ (hw _ (List.mem_of_getElem? (i := 18) rfl))) (notFace_of_selects (args := #[]) (mvT hZ (hw _ (List.mem_of_getElem? (i := 20) rfl)))) (mvT hZ (hw _ (List.mem_of_getElem? (i := 20) rfl))) (mvT hZ (hw _ (List.mem_of_getElem? (i := 19) rfl))) (by decide) (backOf (W := 0) (rm4 l Z a0 hw [] b45 p2 b_48 (1 : Int32) k_48 (4 : Int32) [(.int (nar .byte (o_i2b p1))), (.int (0 : Int32)), (.int (0 : Int32)), (.int (0 : Int32))] (.int (0 : Int32)) 1 h55 n0 Z55 F56 F57 F60 F61 g_b45 g_b_48 ne_b45_b_48 (by first | decide | (simp; done)) (by first | decide | (simp; done)) (by first | decide | (simp; done))) hZ (hw _ (List.mem_of_getElem? (i := 21) rfl)) (hw _ (List.mem_of_getElem? (i := 2) rfl)) (by decide) (by decide)) qa63 qc63 (g := (mkF m 50 #[.val (.int p0), .val (.int p1), .val (.int p2), .val (.int p3), .val (.int (4 : Int32)), .val (.ref b45), .val (.ref b_48), .val (.int (1 : Int32)), .unset] [(.int p2), (.ref b45)])) rfl (by rw [hml]; rfl) (Steps.refl _) (argsL := [(.int p2)]) (rest := []) (lenOf pd_0 rfl) rfl (by show 2 * 0 + _ ≤ _; exact Nat.le_of_eq rfl) (hb hby at_50) (fun _ _ => ⟨rfl, e62, (by decide : 2 + 0 ≤ _), (by decide : 6 + 0 ≤ _)⟩)
    dsimp only [Pt.U, Pt.locs, Pt.cells, Pt.slots] at X63 l63 y63 z63 st63 hQ63
    subst l63 y63 z63
    obtain ⟨h63, e63⟩ : ∃ h, T63.heap = h := ⟨_, rfl⟩
    rw [e63] at hQ63
    obtain ⟨rfl, N63q, Kq63, F64, F65, F66, F67⟩ := hQ63
    have Z63 : n0 ≤ h63.size := Nat.le_trans Z55 Kq63.1
    have F68 : Fld Z h63 b45 "com/example/liboutlay/liboutlay/core/ByteOutput" "length" "I" (.int (2 : Int32)) := F66
    have F69 : Arv Z h63 b_48 k_48 .byte (4 : Int32) [(.int (nar .byte (o_i2b p1))), (.int (nar .byte (o_i2b p2))), (.int (0 : Int32)), (.int (0 : Int32))] (.int (0 : Int32)) := F67
    have N63 := Fr.app N62 N63q
    refine own_viaT st63 ?_
    show own_Go p e below s _ _ _ (T63.setTop (mkF m 53 #[.val (.int p0), .val (.int p1), .val (.int p2), .val (.int p3), .val (.int (4 : Int32)), .val (.ref b45), .val (.ref b_48), .val (.int (1 : Int32)), .unset] []))
    refine own_via (fun _ k => XS.iload X63.here hx rfl (hb hby at_53) rfl k) ?_
    show own_Go p e below s _ _ _ (T63.setTop (mkF m 55 #[.val (.int p0), .val (.int p1), .val (.int p2), .val (.int p3), .val (.int (4 : Int32)), .val (.ref b45), .val (.ref b_48), .val (.int (1 : Int32)), .unset] [(.int (1 : Int32))]))
    refine own_via (fun _ k => XS.ifNo X63.here hx rfl (hb hby at_55) rfl (Jvm.Free.XT.i0_eq_f (by decide)) k) ?_
    show own_Go p e below s _ _ _ (T63.setTop (mkF m 58 #[.val (.int p0), .val (.int p1), .val (.int p2), .val (.int p3), .val (.int (4 : Int32)), .val (.ref b45), .val (.ref b_48), .val (.int (1 : Int32)), .unset] []))
    refine own_via (fun _ k => XS.aload X63.here hx rfl (hb hby at_58) rfl rfl k) ?_
    show own_Go p e below s _ _ _ (T63.setTop (mkF m 60 #[.val (.int p0), .val (.int p1), .val (.int p2), .val (.int p3), .val (.int (4 : Int32)), .val (.ref b45), .val (.ref b_48), .val (.int (1 : Int32)), .unset] [(.ref b45)]))
    obtain ⟨cq70, kq70, qa70, qb70, qc70⟩ := isOf hZ e63 F64
    obtain ⟨_, _, ⟨T70, L70, k70, n70⟩, -, X70, ⟨Lc70, hQ70, l70, y70, z70⟩, st70⟩ := X63.virtualBack hx (y := (⟨"com/example/liboutlay/liboutlay/core/ByteOutput", "length", "()I"⟩ : MethodName)) (z := (⟨"com/example/liboutlay/liboutlay/core/ByteOutput", "length", "()I"⟩ : MethodName)) hown (mvT hZ (hw _ (List.mem_of_getElem? (i := 24) rfl))) (mvT hZ (hw _ (List.mem_of_getElem? (i := 25) rfl))) (notFace_of_selects (args := #[]) (mvT hZ (hw _ (List.mem_of_getElem? (i := 27) rfl)))) (mvT hZ (hw _ (List.mem_of_getElem? (i := 27) rfl))) (mvT hZ (hw _ (List.mem_of_getElem? (i := 26) rfl))) (by decide) (backOf (W := 0) (rm5 l Z a0 hw [] b45 (2 : Int32) h63 n0 Z63 F68) hZ (hw _ (List.mem_of_getElem? (i := 28) rfl)) (hw _ (List.mem_of_getElem? (i := 2) rfl)) (by decide) (by decide)) qa70 qc70 (g := (mkF m 60 #[.val (.int p0), .val (.int p1), .val (.int p2), .val (.int p3), .val (.int (4 : Int32)), .val (.ref b45), .val (.ref b_48), .val (.int (1 : Int32)), .unset] [(.ref b45)])) rfl (by rw [hml]; rfl) (Steps.refl _) (argsL := []) (rest := []) (lenOf pd_2 rfl) rfl (by show 2 * 0 + _ ≤ _; exact Nat.le_of_eq rfl) (hb hby at_60) (fun _ _ => ⟨rfl, e63, (by decide : 2 + 0 ≤ _), (by decide : 6 + 0 ≤ _)⟩)
    dsimp only [Pt.U, Pt.locs, Pt.cells, Pt.slots] at X70 l70 y70 z70 st70 hQ70
    subst l70 y70 z70
    obtain ⟨rfl, N70q, e70⟩ := hQ70
    have N70 := Fr.app N63 N70q
    refine own_viaT st70 ?_
    show own_Go p e below s _ _ _ (T70.setTop (mkF m 63 #[.val (.int p0), .val (.int p1), .val (.int p2), .val (.int p3), .val (.int (4 : Int32)), .val (.ref b45), .val (.ref b_48), .val (.int (1 : Int32)), .unset] [(.int (2 : Int32))]))
    refine own_via (fun _ k => XS.iconst X70.here hx rfl (hb hby at_63) k) ?_
    show own_Go p e below s _ _ _ (T70.setTop (mkF m 64 #[.val (.int p0), .val (.int p1), .val (.int p2), .val (.int p3), .val (.int (4 : Int32)), .val (.ref b45), .val (.ref b_48), .val (.int (1 : Int32)), .unset] [(.int (2 : Int32)), (.int (2 : Int32))]))
    refine own_via (fun _ k => XS.icmpNo X70.here hx rfl (hb hby at_64) rfl (Jvm.Free.XT.ii_ne_f (by decide)) k) ?_
    show own_Go p e below s _ _ _ (T70.setTop (mkF m 67 #[.val (.int p0), .val (.int p1), .val (.int p2), .val (.int p3), .val (.int (4 : Int32)), .val (.ref b45), .val (.ref b_48), .val (.int (1 : Int32)), .unset] []))
    refine own_via (fun _ k => XS.iconst X70.here hx rfl (hb hby at_67) k) ?_
    show own_Go p e below s _ _ _ (T70.setTop (mkF m 68 #[.val (.int p0), .val (.int p1), .val (.int p2), .val (.int p3), .val (.int (4 : Int32)), .val (.ref b45), .val (.ref b_48), .val (.int (1 : Int32)), .unset] [(.int (1 : Int32))]))
    refine own_via (fun _ k => XS.goto X70.here hx rfl (pc0 := 68) (pc' := 72) rfl (hb hby at_68) (by decide) (by decide) k) ?_
    show own_Go p e below s _ _ _ (T70.setTop (mkF m 72 #[.val (.int p0), .val (.int p1), .val (.int p2), .val (.int p3), .val (.int (4 : Int32)), .val (.ref b45), .val (.ref b_48), .val (.int (1 : Int32)), .unset] [(.int (1 : Int32))]))
    refine own_via (fun _ k => XS.istore X70.here hx rfl (hb hby at_72) rfl (l' := #[.val (.int p0), .val (.int p1), .val (.int p2), .val (.int p3), .val (.int (4 : Int32)), .val (.ref b45), .val (.ref b_48), .val (.int (1 : Int32)), .unset]) rfl k) ?_
    show own_Go p e below s _ _ _ (T70.setTop (mkF m 74 #[.val (.int p0), .val (.int p1), .val (.int p2), .val (.int p3), .val (.int (4 : Int32)), .val (.ref b45), .val (.ref b_48), .val (.int (1 : Int32)), .unset] []))
    refine own_via (fun _ k => XS.aload X70.here hx rfl (hb hby at_74) rfl rfl k) ?_
    show own_Go p e below s _ _ _ (T70.setTop (mkF m 76 #[.val (.int p0), .val (.int p1), .val (.int p2), .val (.int p3), .val (.int (4 : Int32)), .val (.ref b45), .val (.ref b_48), .val (.int (1 : Int32)), .unset] [(.ref b45)]))
    refine own_via (fun _ k => XS.iloadN X70.here hx rfl (hb hby at_76) rfl k) ?_
    show own_Go p e below s _ _ _ (T70.setTop (mkF m 77 #[.val (.int p0), .val (.int p1), .val (.int p2), .val (.int p3), .val (.int (4 : Int32)), .val (.ref b45), .val (.ref b_48), .val (.int (1 : Int32)), .unset] [(.int p3), (.ref b45)]))
    obtain ⟨cq71, kq71, qa71, qb71, qc71⟩ := isOf hZ e70 F64
    obtain ⟨_, _, ⟨T71, L71, k71, n71⟩, -, X71, ⟨Lc71, hQ71, l71, y71, z71⟩, st71⟩ := X70.virtualBack hx (y := (⟨"com/example/liboutlay/liboutlay/core/ByteOutput", "put", "(I)V"⟩ : MethodName)) (z := (⟨"com/example/liboutlay/liboutlay/core/ByteOutput", "put", "(I)V"⟩ : MethodName)) hown (mvT hZ (hw _ (List.mem_of_getElem? (i := 17) rfl))) (mvT hZ (hw _ (List.mem_of_getElem? (i := 18) rfl))) (notFace_of_selects (args := #[]) (mvT hZ (hw _ (List.mem_of_getElem? (i := 20) rfl)))) (mvT hZ (hw _ (List.mem_of_getElem? (i := 20) rfl))) (mvT hZ (hw _ (List.mem_of_getElem? (i := 19) rfl))) (by decide) (backOf (W := 0) (rm4 l Z a0 hw [] b45 p3 b_48 (2 : Int32) k_48 (4 : Int32) [(.int (nar .byte (o_i2b p1))), (.int (nar .byte (o_i2b p2))), (.int (0 : Int32)), (.int (0 : Int32))] (.int (0 : Int32)) 2 h63 n0 Z63 F64 F65 F68 F69 g_b45 g_b_48 ne_b45_b_48 (by first | decide | (simp; done)) (by first | decide | (simp; done)) (by first | decide | (simp; done))) hZ (hw _ (List.mem_of_getElem? (i := 21) rfl)) (hw _ (List.mem_of_getElem? (i := 2) rfl)) (by decide) (by decide)) qa71 qc71 (g := (mkF m 77 #[.val (.int p0), .val (.int p1), .val (.int p2), .val (.int p3), .val (.int (4 : Int32)), .val (.ref b45), .val (.ref b_48), .val (.int (1 : Int32)), .unset] [(.int p3), (.ref b45)])) rfl (by rw [hml]; rfl) (Steps.refl _) (argsL := [(.int p3)]) (rest := []) (lenOf pd_0 rfl) rfl (by show 2 * 0 + _ ≤ _; exact Nat.le_of_eq rfl) (hb hby at_77) (fun _ _ => ⟨rfl, e70, (by decide : 2 + 0 ≤ _), (by decide : 6 + 0 ≤ _)⟩)
    dsimp only [Pt.U, Pt.locs, Pt.cells, Pt.slots] at X71 l71 y71 z71 st71 hQ71
    subst l71 y71 z71
    obtain ⟨h71, e71⟩ : ∃ h, T71.heap = h := ⟨_, rfl⟩
    rw [e71] at hQ71
    obtain ⟨rfl, N71q, Kq71, F72, F73, F74, F75⟩ := hQ71
    have Z71 : n0 ≤ h71.size := Nat.le_trans Z63 Kq71.1
    have F76 : Fld Z h71 b45 "com/example/liboutlay/liboutlay/core/ByteOutput" "length" "I" (.int (3 : Int32)) := F74
    have F77 : Arv Z h71 b_48 k_48 .byte (4 : Int32) [(.int (nar .byte (o_i2b p1))), (.int (nar .byte (o_i2b p2))), (.int (nar .byte (o_i2b p3))), (.int (0 : Int32))] (.int (0 : Int32)) := F75
    have N71 := Fr.app N70 N71q
    refine own_viaT st71 ?_
    show own_Go p e below s _ _ _ (T71.setTop (mkF m 80 #[.val (.int p0), .val (.int p1), .val (.int p2), .val (.int p3), .val (.int (4 : Int32)), .val (.ref b45), .val (.ref b_48), .val (.int (1 : Int32)), .unset] []))
    refine own_via (fun _ k => XS.aload X71.here hx rfl (hb hby at_80) rfl rfl k) ?_
    show own_Go p e below s _ _ _ (T71.setTop (mkF m 82 #[.val (.int p0), .val (.int p1), .val (.int p2), .val (.int p3), .val (.int (4 : Int32)), .val (.ref b45), .val (.ref b_48), .val (.int (1 : Int32)), .unset] [(.ref b45)]))
    obtain ⟨cq78, kq78, qa78, qb78, qc78⟩ := isOf hZ e71 F72
    obtain ⟨_, _, ⟨T78, L78, k78, n78⟩, -, X78, ⟨Lc78, hQ78, l78, y78, z78⟩, st78⟩ := X71.virtualBack hx (y := (⟨"com/example/liboutlay/liboutlay/core/ByteOutput", "array", "()[B"⟩ : MethodName)) (z := (⟨"com/example/liboutlay/liboutlay/core/ByteOutput", "array", "()[B"⟩ : MethodName)) hown (mvT hZ (hw _ (List.mem_of_getElem? (i := 12) rfl))) (mvT hZ (hw _ (List.mem_of_getElem? (i := 13) rfl))) (notFace_of_selects (args := #[]) (mvT hZ (hw _ (List.mem_of_getElem? (i := 15) rfl)))) (mvT hZ (hw _ (List.mem_of_getElem? (i := 15) rfl))) (mvT hZ (hw _ (List.mem_of_getElem? (i := 14) rfl))) (by decide) (backOf (W := 0) (rm3 l Z a0 hw [] b45 b_48 h71 n0 Z71 F73) hZ (hw _ (List.mem_of_getElem? (i := 16) rfl)) (hw _ (List.mem_of_getElem? (i := 2) rfl)) (by decide) (by decide)) qa78 qc78 (g := (mkF m 82 #[.val (.int p0), .val (.int p1), .val (.int p2), .val (.int p3), .val (.int (4 : Int32)), .val (.ref b45), .val (.ref b_48), .val (.int (1 : Int32)), .unset] [(.ref b45)])) rfl (by rw [hml]; rfl) (Steps.refl _) (argsL := []) (rest := []) (lenOf pd_1 rfl) rfl (by show 2 * 0 + _ ≤ _; exact Nat.le_of_eq rfl) (hb hby at_82) (fun _ _ => ⟨rfl, e71, (by decide : 2 + 0 ≤ _), (by decide : 6 + 0 ≤ _)⟩)
    dsimp only [Pt.U, Pt.locs, Pt.cells, Pt.slots] at X78 l78 y78 z78 st78 hQ78
    subst l78 y78 z78
    obtain ⟨rfl, N78q, e78⟩ := hQ78
    have N78 := Fr.app N71 N78q
    refine own_viaT st78 ?_
    show own_Go p e below s _ _ _ (T78.setTop (mkF m 85 #[.val (.int p0), .val (.int p1), .val (.int p2), .val (.int p3), .val (.int (4 : Int32)), .val (.ref b45), .val (.ref b_48), .val (.int (1 : Int32)), .unset] [(.ref b_48)]))
    refine own_via (fun _ k => XS.astore X78.here hx rfl (hb hby at_85) rfl rfl (l' := #[.val (.int p0), .val (.int p1), .val (.int p2), .val (.int p3), .val (.int (4 : Int32)), .val (.ref b45), .val (.ref b_48), .val (.int (1 : Int32)), .val (.ref b_48)]) rfl k) ?_
    show own_Go p e below s _ _ _ (T78.setTop (mkF m 87 #[.val (.int p0), .val (.int p1), .val (.int p2), .val (.int p3), .val (.int (4 : Int32)), .val (.ref b45), .val (.ref b_48), .val (.int (1 : Int32)), .val (.ref b_48)] []))
    refine own_via (fun _ k => XS.iload X78.here hx rfl (hb hby at_87) rfl k) ?_
    show own_Go p e below s _ _ _ (T78.setTop (mkF m 89 #[.val (.int p0), .val (.int p1), .val (.int p2), .val (.int p3), .val (.int (4 : Int32)), .val (.ref b45), .val (.ref b_48), .val (.int (1 : Int32)), .val (.ref b_48)] [(.int (1 : Int32))]))
    refine own_via (fun _ k => XS.ifNo X78.here hx rfl (hb hby at_89) rfl (Jvm.Free.XT.i0_eq_f (by decide)) k) ?_
    show own_Go p e below s _ _ _ (T78.setTop (mkF m 92 #[.val (.int p0), .val (.int p1), .val (.int p2), .val (.int p3), .val (.int (4 : Int32)), .val (.ref b45), .val (.ref b_48), .val (.int (1 : Int32)), .val (.ref b_48)] []))
    refine own_via (fun _ k => XS.aload X78.here hx rfl (hb hby at_92) rfl rfl k) ?_
    show own_Go p e below s _ _ _ (T78.setTop (mkF m 94 #[.val (.int p0), .val (.int p1), .val (.int p2), .val (.int p3), .val (.int (4 : Int32)), .val (.ref b45), .val (.ref b_48), .val (.int (1 : Int32)), .val (.ref b_48)] [(.ref b45)]))
    obtain ⟨cq79, kq79, qa79, qb79, qc79⟩ := isOf hZ e78 F72
    obtain ⟨_, _, ⟨T79, L79, k79, n79⟩, -, X79, ⟨Lc79, hQ79, l79, y79, z79⟩, st79⟩ := X78.virtualBack hx (y := (⟨"com/example/liboutlay/liboutlay/core/ByteOutput", "length", "()I"⟩ : MethodName)) (z := (⟨"com/example/liboutlay/liboutlay/core/ByteOutput", "length", "()I"⟩ : MethodName)) hown (mvT hZ (hw _ (List.mem_of_getElem? (i := 24) rfl))) (mvT hZ (hw _ (List.mem_of_getElem? (i := 25) rfl))) (notFace_of_selects (args := #[]) (mvT hZ (hw _ (List.mem_of_getElem? (i := 27) rfl)))) (mvT hZ (hw _ (List.mem_of_getElem? (i := 27) rfl))) (mvT hZ (hw _ (List.mem_of_getElem? (i := 26) rfl))) (by decide) (backOf (W := 0) (rm5 l Z a0 hw [] b45 (3 : Int32) h71 n0 Z71 F76) hZ (hw _ (List.mem_of_getElem? (i := 28) rfl)) (hw _ (List.mem_of_getElem? (i := 2) rfl)) (by decide) (by decide)) qa79 qc79 (g := (mkF m 94 #[.val (.int p0), .val (.int p1), .val (.int p2), .val (.int p3), .val (.int (4 : Int32)), .val (.ref b45), .val (.ref b_48), .val (.int (1 : Int32)), .val (.ref b_48)] [(.ref b45)])) rfl (by rw [hml]; rfl) (Steps.refl _) (argsL := []) (rest := []) (lenOf pd_2 rfl) rfl (by show 2 * 0 + _ ≤ _; exact Nat.le_of_eq rfl) (hb hby at_94) (fun _ _ => ⟨rfl, e78, (by decide : 2 + 0 ≤ _), (by decide : 6 + 0 ≤ _)⟩)
    dsimp only [Pt.U, Pt.locs, Pt.cells, Pt.slots] at X79 l79 y79 z79 st79 hQ79
    subst l79 y79 z79
    obtain ⟨rfl, N79q, e79⟩ := hQ79
    have N79 := Fr.app N78 N79q
    refine own_viaT st79 ?_
    show own_Go p e below s _ _ _ (T79.setTop (mkF m 97 #[.val (.int p0), .val (.int p1), .val (.int p2), .val (.int p3), .val (.int (4 : Int32)), .val (.ref b45), .val (.ref b_48), .val (.int (1 : Int32)), .val (.ref b_48)] [(.int (3 : Int32))]))
    refine own_via (fun _ k => XS.iconst X79.here hx rfl (hb hby at_97) k) ?_
    show own_Go p e below s _ _ _ (T79.setTop (mkF m 98 #[.val (.int p0), .val (.int p1), .val (.int p2), .val (.int p3), .val (.int (4 : Int32)), .val (.ref b45), .val (.ref b_48), .val (.int (1 : Int32)), .val (.ref b_48)] [(.int (3 : Int32)), (.int (3 : Int32))]))
    refine own_via (fun _ k => XS.icmpNo X79.here hx rfl (hb hby at_98) rfl (Jvm.Free.XT.ii_ne_f (by decide)) k) ?_
    show own_Go p e below s _ _ _ (T79.setTop (mkF m 101 #[.val (.int p0), .val (.int p1), .val (.int p2), .val (.int p3), .val (.int (4 : Int32)), .val (.ref b45), .val (.ref b_48), .val (.int (1 : Int32)), .val (.ref b_48)] []))
    refine own_via (fun _ k => XS.iconst X79.here hx rfl (hb hby at_101) k) ?_
    show own_Go p e below s _ _ _ (T79.setTop (mkF m 102 #[.val (.int p0), .val (.int p1), .val (.int p2), .val (.int p3), .val (.int (4 : Int32)), .val (.ref b45), .val (.ref b_48), .val (.int (1 : Int32)), .val (.ref b_48)] [(.int (1 : Int32))]))
    refine own_via (fun _ k => XS.goto X79.here hx rfl (pc0 := 102) (pc' := 106) rfl (hb hby at_102) (by decide) (by decide) k) ?_
    show own_Go p e below s _ _ _ (T79.setTop (mkF m 106 #[.val (.int p0), .val (.int p1), .val (.int p2), .val (.int p3), .val (.int (4 : Int32)), .val (.ref b45), .val (.ref b_48), .val (.int (1 : Int32)), .val (.ref b_48)] [(.int (1 : Int32))]))
    refine own_via (fun _ k => XS.istore X79.here hx rfl (hb hby at_106) rfl (l' := #[.val (.int p0), .val (.int p1), .val (.int p2), .val (.int p3), .val (.int (4 : Int32)), .val (.ref b45), .val (.ref b_48), .val (.int (1 : Int32)), .val (.ref b_48)]) rfl k) ?_
    show own_Go p e below s _ _ _ (T79.setTop (mkF m 108 #[.val (.int p0), .val (.int p1), .val (.int p2), .val (.int p3), .val (.int (4 : Int32)), .val (.ref b45), .val (.ref b_48), .val (.int (1 : Int32)), .val (.ref b_48)] []))
    refine own_via (fun _ k => XS.iload X79.here hx rfl (hb hby at_108) rfl k) ?_
    show own_Go p e below s _ _ _ (T79.setTop (mkF m 110 #[.val (.int p0), .val (.int p1), .val (.int p2), .val (.int p3), .val (.int (4 : Int32)), .val (.ref b45), .val (.ref b_48), .val (.int (1 : Int32)), .val (.ref b_48)] [(.int (1 : Int32))]))
    refine own_via (fun _ k => XS.ifNo X79.here hx rfl (hb hby at_110) rfl (Jvm.Free.XT.i0_eq_f (by decide)) k) ?_
    show own_Go p e below s _ _ _ (T79.setTop (mkF m 113 #[.val (.int p0), .val (.int p1), .val (.int p2), .val (.int p3), .val (.int (4 : Int32)), .val (.ref b45), .val (.ref b_48), .val (.int (1 : Int32)), .val (.ref b_48)] []))
    refine own_via (fun _ k => XS.aload X79.here hx rfl (hb hby at_113) rfl rfl k) ?_
    show own_Go p e below s _ _ _ (T79.setTop (mkF m 115 #[.val (.int p0), .val (.int p1), .val (.int p2), .val (.int p3), .val (.int (4 : Int32)), .val (.ref b45), .val (.ref b_48), .val (.int (1 : Int32)), .val (.ref b_48)] [(.ref b45)]))
    obtain ⟨cq80, kq80, qa80, qb80, qc80⟩ := isOf hZ e79 F72
    obtain ⟨_, _, ⟨T80, L80, k80, n80⟩, -, X80, ⟨Lc80, hQ80, l80, y80, z80⟩, st80⟩ := X79.virtualBack hx (y := (⟨"com/example/liboutlay/liboutlay/core/ByteOutput", "room", "()I"⟩ : MethodName)) (z := (⟨"com/example/liboutlay/liboutlay/core/ByteOutput", "room", "()I"⟩ : MethodName)) hown (mvT hZ (hw _ (List.mem_of_getElem? (i := 29) rfl))) (mvT hZ (hw _ (List.mem_of_getElem? (i := 30) rfl))) (notFace_of_selects (args := #[]) (mvT hZ (hw _ (List.mem_of_getElem? (i := 32) rfl)))) (mvT hZ (hw _ (List.mem_of_getElem? (i := 32) rfl))) (mvT hZ (hw _ (List.mem_of_getElem? (i := 31) rfl))) (by decide) (backOf (W := 0) (rm6 l Z a0 hw [] b45 b_48 (3 : Int32) k_48 (4 : Int32) [(.int (nar .byte (o_i2b p1))), (.int (nar .byte (o_i2b p2))), (.int (nar .byte (o_i2b p3))), (.int (0 : Int32))] (.int (0 : Int32)) h71 n0 Z71 F73 F76 F77) hZ (hw _ (List.mem_of_getElem? (i := 33) rfl)) (hw _ (List.mem_of_getElem? (i := 2) rfl)) (by decide) (by decide)) qa80 qc80 (g := (mkF m 115 #[.val (.int p0), .val (.int p1), .val (.int p2), .val (.int p3), .val (.int (4 : Int32)), .val (.ref b45), .val (.ref b_48), .val (.int (1 : Int32)), .val (.ref b_48)] [(.ref b45)])) rfl (by rw [hml]; rfl) (Steps.refl _) (argsL := []) (rest := []) (lenOf pd_2 rfl) rfl (by show 2 * 0 + _ ≤ _; exact Nat.le_of_eq rfl) (hb hby at_115) (fun _ _ => ⟨rfl, e79, (by decide : 2 + 0 ≤ _), (by decide : 6 + 0 ≤ _)⟩)
    dsimp only [Pt.U, Pt.locs, Pt.cells, Pt.slots] at X80 l80 y80 z80 st80 hQ80
    subst l80 y80 z80
    obtain ⟨rfl, N80q, e80⟩ := hQ80
    have N80 := Fr.app N79 N80q
    refine own_viaT st80 ?_
    show own_Go p e below s _ _ _ (T80.setTop (mkF m 118 #[.val (.int p0), .val (.int p1), .val (.int p2), .val (.int p3), .val (.int (4 : Int32)), .val (.ref b45), .val (.ref b_48), .val (.int (1 : Int32)), .val (.ref b_48)] [(.int (1 : Int32))]))
    refine own_via (fun _ k => XS.iload X80.here hx rfl (hb hby at_118) rfl k) ?_
    show own_Go p e below s _ _ _ (T80.setTop (mkF m 120 #[.val (.int p0), .val (.int p1), .val (.int p2), .val (.int p3), .val (.int (4 : Int32)), .val (.ref b45), .val (.ref b_48), .val (.int (1 : Int32)), .val (.ref b_48)] [(.int (4 : Int32)), (.int (1 : Int32))]))
    refine own_via (fun _ k => XS.iconst X80.here hx rfl (hb hby at_120) k) ?_
    show own_Go p e below s _ _ _ (T80.setTop (mkF m 121 #[.val (.int p0), .val (.int p1), .val (.int p2), .val (.int p3), .val (.int (4 : Int32)), .val (.ref b45), .val (.ref b_48), .val (.int (1 : Int32)), .val (.ref b_48)] [(.int (3 : Int32)), (.int (4 : Int32)), (.int (1 : Int32))]))
    refine own_via (fun _ k => XS.isub X80.here hx rfl (hb hby at_121) rfl k) ?_
    show own_Go p e below s _ _ _ (T80.setTop (mkF m 122 #[.val (.int p0), .val (.int p1), .val (.int p2), .val (.int p3), .val (.int (4 : Int32)), .val (.ref b45), .val (.ref b_48), .val (.int (1 : Int32)), .val (.ref b_48)] [(.int (1 : Int32)), (.int (1 : Int32))]))
    refine own_via (fun _ k => XS.icmpNo X80.here hx rfl (hb hby at_122) rfl (Jvm.Free.XT.ii_ne_f (by decide)) k) ?_
    show own_Go p e below s _ _ _ (T80.setTop (mkF m 125 #[.val (.int p0), .val (.int p1), .val (.int p2), .val (.int p3), .val (.int (4 : Int32)), .val (.ref b45), .val (.ref b_48), .val (.int (1 : Int32)), .val (.ref b_48)] []))
    refine own_via (fun _ k => XS.iconst X80.here hx rfl (hb hby at_125) k) ?_
    show own_Go p e below s _ _ _ (T80.setTop (mkF m 126 #[.val (.int p0), .val (.int p1), .val (.int p2), .val (.int p3), .val (.int (4 : Int32)), .val (.ref b45), .val (.ref b_48), .val (.int (1 : Int32)), .val (.ref b_48)] [(.int (1 : Int32))]))
    refine own_via (fun _ k => XS.goto X80.here hx rfl (pc0 := 126) (pc' := 130) rfl (hb hby at_126) (by decide) (by decide) k) ?_
    show own_Go p e below s _ _ _ (T80.setTop (mkF m 130 #[.val (.int p0), .val (.int p1), .val (.int p2), .val (.int p3), .val (.int (4 : Int32)), .val (.ref b45), .val (.ref b_48), .val (.int (1 : Int32)), .val (.ref b_48)] [(.int (1 : Int32))]))
    refine own_via (fun _ k => XS.istore X80.here hx rfl (hb hby at_130) rfl (l' := #[.val (.int p0), .val (.int p1), .val (.int p2), .val (.int p3), .val (.int (4 : Int32)), .val (.ref b45), .val (.ref b_48), .val (.int (1 : Int32)), .val (.ref b_48)]) rfl k) ?_
    show own_Go p e below s _ _ _ (T80.setTop (mkF m 132 #[.val (.int p0), .val (.int p1), .val (.int p2), .val (.int p3), .val (.int (4 : Int32)), .val (.ref b45), .val (.ref b_48), .val (.int (1 : Int32)), .val (.ref b_48)] []))
    refine own_via (fun _ k => XS.iload X80.here hx rfl (hb hby at_132) rfl k) ?_
    show own_Go p e below s _ _ _ (T80.setTop (mkF m 134 #[.val (.int p0), .val (.int p1), .val (.int p2), .val (.int p3), .val (.int (4 : Int32)), .val (.ref b45), .val (.ref b_48), .val (.int (1 : Int32)), .val (.ref b_48)] [(.int (1 : Int32))]))
    refine own_via (fun _ k => XS.ifNo X80.here hx rfl (hb hby at_134) rfl (Jvm.Free.XT.i0_eq_f (by decide)) k) ?_
    show own_Go p e below s _ _ _ (T80.setTop (mkF m 137 #[.val (.int p0), .val (.int p1), .val (.int p2), .val (.int p3), .val (.int (4 : Int32)), .val (.ref b45), .val (.ref b_48), .val (.int (1 : Int32)), .val (.ref b_48)] []))
    refine own_via (fun _ k => XS.aload X80.here hx rfl (hb hby at_137) rfl rfl k) ?_
    show own_Go p e below s _ _ _ (T80.setTop (mkF m 139 #[.val (.int p0), .val (.int p1), .val (.int p2), .val (.int p3), .val (.int (4 : Int32)), .val (.ref b45), .val (.ref b_48), .val (.int (1 : Int32)), .val (.ref b_48)] [(.ref b_48)]))
    refine own_via (fun _ k => XS.aload X80.here hx rfl (hb hby at_139) rfl rfl k) ?_
    show own_Go p e below s _ _ _ (T80.setTop (mkF m 141 #[.val (.int p0), .val (.int p1), .val (.int p2), .val (.int p3), .val (.int (4 : Int32)), .val (.ref b45), .val (.ref b_48), .val (.int (1 : Int32)), .val (.ref b_48)] [(.ref b_48), (.ref b_48)]))
    refine own_via (fun _ k => Jvm.RoadKit.acmp (g := (mkF m 141 #[.val (.int p0), .val (.int p1), .val (.int p2), .val (.int p3), .val (.int (4 : Int32)), .val (.ref b45), .val (.ref b_48), .val (.int (1 : Int32)), .val (.ref b_48)] [(.ref b_48), (.ref b_48)])) X80 hx rfl rfl rfl (pc0 := 141) (pc' := 144) (same := true) rfl (hb hby at_141) rfl (decide_eq_true rfl) (by decide) (by decide) k) ?_
    show own_Go p e below s _ _ _ (T80.setTop (mkF m 144 #[.val (.int p0), .val (.int p1), .val (.int p2), .val (.int p3), .val (.int (4 : Int32)), .val (.ref b45), .val (.ref b_48), .val (.int (1 : Int32)), .val (.ref b_48)] []))
    refine own_via (fun _ k => XS.iconst X80.here hx rfl (hb hby at_144) k) ?_
    show own_Go p e below s _ _ _ (T80.setTop (mkF m 145 #[.val (.int p0), .val (.int p1), .val (.int p2), .val (.int p3), .val (.int (4 : Int32)), .val (.ref b45), .val (.ref b_48), .val (.int (1 : Int32)), .val (.ref b_48)] [(.int (1 : Int32))]))
    refine own_via (fun _ k => XS.goto X80.here hx rfl (pc0 := 145) (pc' := 149) rfl (hb hby at_145) (by decide) (by decide) k) ?_
    show own_Go p e below s _ _ _ (T80.setTop (mkF m 149 #[.val (.int p0), .val (.int p1), .val (.int p2), .val (.int p3), .val (.int (4 : Int32)), .val (.ref b45), .val (.ref b_48), .val (.int (1 : Int32)), .val (.ref b_48)] [(.int (1 : Int32))]))
    refine own_via (fun _ k => XS.istore X80.here hx rfl (hb hby at_149) rfl (l' := #[.val (.int p0), .val (.int p1), .val (.int p2), .val (.int p3), .val (.int (4 : Int32)), .val (.ref b45), .val (.ref b_48), .val (.int (1 : Int32)), .val (.ref b_48)]) rfl k) ?_
    show own_Go p e below s _ _ _ (T80.setTop (mkF m 151 #[.val (.int p0), .val (.int p1), .val (.int p2), .val (.int p3), .val (.int (4 : Int32)), .val (.ref b45), .val (.ref b_48), .val (.int (1 : Int32)), .val (.ref b_48)] []))
    refine own_via (fun _ k => XS.iload X80.here hx rfl (hb hby at_151) rfl k) ?_
    show own_Go p e below s _ _ _ (T80.setTop (mkF m 153 #[.val (.int p0), .val (.int p1), .val (.int p2), .val (.int p3), .val (.int (4 : Int32)), .val (.ref b45), .val (.ref b_48), .val (.int (1 : Int32)), .val (.ref b_48)] [(.int (1 : Int32))]))
    refine own_via (fun _ k => XS.ifNo X80.here hx rfl (hb hby at_153) rfl (Jvm.Free.XT.i0_eq_f (by decide)) k) ?_
    show own_Go p e below s _ _ _ (T80.setTop (mkF m 156 #[.val (.int p0), .val (.int p1), .val (.int p2), .val (.int p3), .val (.int (4 : Int32)), .val (.ref b45), .val (.ref b_48), .val (.int (1 : Int32)), .val (.ref b_48)] []))
    refine own_via (fun _ k => XS.aload X80.here hx rfl (hb hby at_156) rfl rfl k) ?_
    show own_Go p e below s _ _ _ (T80.setTop (mkF m 158 #[.val (.int p0), .val (.int p1), .val (.int p2), .val (.int p3), .val (.int (4 : Int32)), .val (.ref b45), .val (.ref b_48), .val (.int (1 : Int32)), .val (.ref b_48)] [(.ref b_48)]))
    obtain ⟨cl81, Ar81, q81, S81, M81, H81, G81⟩ := (id F77)
    refine own_via (fun _ k => X80.arraylength hx (by rw [e80]; exact Ar81.1) (State.isArrayOf_alike hZ.alike Ar81.2.1) (g := (mkF m 158 #[.val (.int p0), .val (.int p1), .val (.int p2), .val (.int p3), .val (.int (4 : Int32)), .val (.ref b45), .val (.ref b_48), .val (.int (1 : Int32)), .val (.ref b_48)] [(.ref b_48)])) rfl rfl (hb hby at_158) _ (by rw [len_of S81 M81]; exact k)) ?_
    show own_Go p e below s _ _ _ (T80.setTop (mkF m 159 #[.val (.int p0), .val (.int p1), .val (.int p2), .val (.int p3), .val (.int (4 : Int32)), .val (.ref b45), .val (.ref b_48), .val (.int (1 : Int32)), .val (.ref b_48)] [(.int (4 : Int32))]))
    refine own_via (fun _ k => XS.iload X80.here hx rfl (hb hby at_159) rfl k) ?_
    show own_Go p e below s _ _ _ (T80.setTop (mkF m 161 #[.val (.int p0), .val (.int p1), .val (.int p2), .val (.int p3), .val (.int (4 : Int32)), .val (.ref b45), .val (.ref b_48), .val (.int (1 : Int32)), .val (.ref b_48)] [(.int (4 : Int32)), (.int (4 : Int32))]))
    refine own_via (fun _ k => XS.icmpNo X80.here hx rfl (hb hby at_161) rfl (Jvm.Free.XT.ii_ne_f (by decide)) k) ?_
    show own_Go p e below s _ _ _ (T80.setTop (mkF m 164 #[.val (.int p0), .val (.int p1), .val (.int p2), .val (.int p3), .val (.int (4 : Int32)), .val (.ref b45), .val (.ref b_48), .val (.int (1 : Int32)), .val (.ref b_48)] []))
    refine own_via (fun _ k => XS.iconst X80.here hx rfl (hb hby at_164) k) ?_
    show own_Go p e below s _ _ _ (T80.setTop (mkF m 165 #[.val (.int p0), .val (.int p1), .val (.int p2), .val (.int p3), .val (.int (4 : Int32)), .val (.ref b45), .val (.ref b_48), .val (.int (1 : Int32)), .val (.ref b_48)] [(.int (1 : Int32))]))
    refine own_via (fun _ k => XS.goto X80.here hx rfl (pc0 := 165) (pc' := 169) rfl (hb hby at_165) (by decide) (by decide) k) ?_
    show own_Go p e below s _ _ _ (T80.setTop (mkF m 169 #[.val (.int p0), .val (.int p1), .val (.int p2), .val (.int p3), .val (.int (4 : Int32)), .val (.ref b45), .val (.ref b_48), .val (.int (1 : Int32)), .val (.ref b_48)] [(.int (1 : Int32))]))
    refine own_via (fun _ k => XS.istore X80.here hx rfl (hb hby at_169) rfl (l' := #[.val (.int p0), .val (.int p1), .val (.int p2), .val (.int p3), .val (.int (4 : Int32)), .val (.ref b45), .val (.ref b_48), .val (.int (1 : Int32)), .val (.ref b_48)]) rfl k) ?_
    show own_Go p e below s _ _ _ (T80.setTop (mkF m 171 #[.val (.int p0), .val (.int p1), .val (.int p2), .val (.int p3), .val (.int (4 : Int32)), .val (.ref b45), .val (.ref b_48), .val (.int (1 : Int32)), .val (.ref b_48)] []))
    refine own_via (fun _ k => XS.iload X80.here hx rfl (hb hby at_171) rfl k) ?_
    show own_Go p e below s _ _ _ (T80.setTop (mkF m 173 #[.val (.int p0), .val (.int p1), .val (.int p2), .val (.int p3), .val (.int (4 : Int32)), .val (.ref b45), .val (.ref b_48), .val (.int (1 : Int32)), .val (.ref b_48)] [(.int (1 : Int32))]))
    refine own_via (fun _ k => XS.ifNo X80.here hx rfl (hb hby at_173) rfl (Jvm.Free.XT.i0_eq_f (by decide)) k) ?_
    show own_Go p e below s _ _ _ (T80.setTop (mkF m 176 #[.val (.int p0), .val (.int p1), .val (.int p2), .val (.int p3), .val (.int (4 : Int32)), .val (.ref b45), .val (.ref b_48), .val (.int (1 : Int32)), .val (.ref b_48)] []))
    refine own_via (fun _ k => XS.aload X80.here hx rfl (hb hby at_176) rfl rfl k) ?_
    show own_Go p e below s _ _ _ (T80.setTop (mkF m 178 #[.val (.int p0), .val (.int p1), .val (.int p2), .val (.int p3), .val (.int (4 : Int32)), .val (.ref b45), .val (.ref b_48), .val (.int (1 : Int32)), .val (.ref b_48)] [(.ref b_48)]))
    refine own_via (fun _ k => XS.iconst X80.here hx rfl (hb hby at_178) k) ?_
    show own_Go p e below s _ _ _ (T80.setTop (mkF m 179 #[.val (.int p0), .val (.int p1), .val (.int p2), .val (.int p3), .val (.int (4 : Int32)), .val (.ref b45), .val (.ref b_48), .val (.int (1 : Int32)), .val (.ref b_48)] [(.int (0 : Int32)), (.ref b_48)]))
    obtain ⟨cl82, Ar82, q82, S82, M82, H82, G82⟩ := (id F77)
    have hin82 : ¬ ((0 : Int32) < 0 ∨ cl82.slots.size ≤ ((0 : Int32)).toNatClampNeg) := inb_of S82 ⟨by decide, by decide⟩
    have hat82 : cl82.slots[((0 : Int32)).toNatClampNeg]? = some (.int (nar .byte (o_i2b p1))) := Has.at H82 hin82 rfl
    refine own_via (fun _ k => X80.baloadBytes hx (j := (0 : Int32)) (v := (.int (nar .byte (o_i2b p1)))) (by rw [e80]; exact Ar82.1) (State.isArrayOf_alike hZ.alike Ar82.2.1) Ar82.2.2 hin82 hat82 (g := (mkF m 179 #[.val (.int p0), .val (.int p1), .val (.int p2), .val (.int p3), .val (.int (4 : Int32)), .val (.ref b45), .val (.ref b_48), .val (.int (1 : Int32)), .val (.ref b_48)] [(.int (0 : Int32)), (.ref b_48)])) rfl rfl (hb hby at_179) _ k) ?_
    show own_Go p e below s _ _ _ (T80.setTop (mkF m 180 #[.val (.int p0), .val (.int p1), .val (.int p2), .val (.int p3), .val (.int (4 : Int32)), .val (.ref b45), .val (.ref b_48), .val (.int (1 : Int32)), .val (.ref b_48)] [(.int (nar .byte (o_i2b p1)))]))
    refine own_via (fun _ k => XS.iloadN X80.here hx rfl (hb hby at_180) rfl k) ?_
    show own_Go p e below s _ _ _ (T80.setTop (mkF m 181 #[.val (.int p0), .val (.int p1), .val (.int p2), .val (.int p3), .val (.int (4 : Int32)), .val (.ref b45), .val (.ref b_48), .val (.int (1 : Int32)), .val (.ref b_48)] [(.int p1), (.int (nar .byte (o_i2b p1)))]))
    refine own_via (fun _ k => XS.i2b X80.here hx rfl (hb hby at_181) rfl k) ?_
    show own_Go p e below s _ _ _ (T80.setTop (mkF m 182 #[.val (.int p0), .val (.int p1), .val (.int p2), .val (.int p3), .val (.int (4 : Int32)), .val (.ref b45), .val (.ref b_48), .val (.int (1 : Int32)), .val (.ref b_48)] [(.int (o_i2b p1)), (.int (nar .byte (o_i2b p1)))]))
    have hc83 : (nar .byte (o_i2b p1)) = (o_i2b p1) := own_nb _
    refine own_via (fun _ k => XS.icmpNo X80.here hx rfl (hb hby at_182) rfl (Jvm.Free.XT.ii_ne_f hc83) k) ?_
    show own_Go p e below s _ _ _ (T80.setTop (mkF m 185 #[.val (.int p0), .val (.int p1), .val (.int p2), .val (.int p3), .val (.int (4 : Int32)), .val (.ref b45), .val (.ref b_48), .val (.int (1 : Int32)), .val (.ref b_48)] []))
    refine own_via (fun _ k => XS.iconst X80.here hx rfl (hb hby at_185) k) ?_
    show own_Go p e below s _ _ _ (T80.setTop (mkF m 186 #[.val (.int p0), .val (.int p1), .val (.int p2), .val (.int p3), .val (.int (4 : Int32)), .val (.ref b45), .val (.ref b_48), .val (.int (1 : Int32)), .val (.ref b_48)] [(.int (1 : Int32))]))
    refine own_via (fun _ k => XS.goto X80.here hx rfl (pc0 := 186) (pc' := 190) rfl (hb hby at_186) (by decide) (by decide) k) ?_
    show own_Go p e below s _ _ _ (T80.setTop (mkF m 190 #[.val (.int p0), .val (.int p1), .val (.int p2), .val (.int p3), .val (.int (4 : Int32)), .val (.ref b45), .val (.ref b_48), .val (.int (1 : Int32)), .val (.ref b_48)] [(.int (1 : Int32))]))
    refine own_via (fun _ k => XS.istore X80.here hx rfl (hb hby at_190) rfl (l' := #[.val (.int p0), .val (.int p1), .val (.int p2), .val (.int p3), .val (.int (4 : Int32)), .val (.ref b45), .val (.ref b_48), .val (.int (1 : Int32)), .val (.ref b_48)]) rfl k) ?_
    show own_Go p e below s _ _ _ (T80.setTop (mkF m 192 #[.val (.int p0), .val (.int p1), .val (.int p2), .val (.int p3), .val (.int (4 : Int32)), .val (.ref b45), .val (.ref b_48), .val (.int (1 : Int32)), .val (.ref b_48)] []))
    refine own_via (fun _ k => XS.iload X80.here hx rfl (hb hby at_192) rfl k) ?_
    show own_Go p e below s _ _ _ (T80.setTop (mkF m 194 #[.val (.int p0), .val (.int p1), .val (.int p2), .val (.int p3), .val (.int (4 : Int32)), .val (.ref b45), .val (.ref b_48), .val (.int (1 : Int32)), .val (.ref b_48)] [(.int (1 : Int32))]))
    refine own_via (fun _ k => XS.ifNo X80.here hx rfl (hb hby at_194) rfl (Jvm.Free.XT.i0_eq_f (by decide)) k) ?_
    show own_Go p e below s _ _ _ (T80.setTop (mkF m 197 #[.val (.int p0), .val (.int p1), .val (.int p2), .val (.int p3), .val (.int (4 : Int32)), .val (.ref b45), .val (.ref b_48), .val (.int (1 : Int32)), .val (.ref b_48)] []))
    refine own_via (fun _ k => XS.aload X80.here hx rfl (hb hby at_197) rfl rfl k) ?_
    show own_Go p e below s _ _ _ (T80.setTop (mkF m 199 #[.val (.int p0), .val (.int p1), .val (.int p2), .val (.int p3), .val (.int (4 : Int32)), .val (.ref b45), .val (.ref b_48), .val (.int (1 : Int32)), .val (.ref b_48)] [(.ref b_48)]))
    refine own_via (fun _ k => XS.iconst X80.here hx rfl (hb hby at_199) k) ?_
    show own_Go p e below s _ _ _ (T80.setTop (mkF m 200 #[.val (.int p0), .val (.int p1), .val (.int p2), .val (.int p3), .val (.int (4 : Int32)), .val (.ref b45), .val (.ref b_48), .val (.int (1 : Int32)), .val (.ref b_48)] [(.int (1 : Int32)), (.ref b_48)]))
    obtain ⟨cl84, Ar84, q84, S84, M84, H84, G84⟩ := (id F77)
    have hin84 : ¬ ((1 : Int32) < 0 ∨ cl84.slots.size ≤ ((1 : Int32)).toNatClampNeg) := inb_of S84 ⟨by decide, by decide⟩
    have hat84 : cl84.slots[((1 : Int32)).toNatClampNeg]? = some (.int (nar .byte (o_i2b p2))) := Has.at H84 hin84 rfl
    refine own_via (fun _ k => X80.baloadBytes hx (j := (1 : Int32)) (v := (.int (nar .byte (o_i2b p2)))) (by rw [e80]; exact Ar84.1) (State.isArrayOf_alike hZ.alike Ar84.2.1) Ar84.2.2 hin84 hat84 (g := (mkF m 200 #[.val (.int p0), .val (.int p1), .val (.int p2), .val (.int p3), .val (.int (4 : Int32)), .val (.ref b45), .val (.ref b_48), .val (.int (1 : Int32)), .val (.ref b_48)] [(.int (1 : Int32)), (.ref b_48)])) rfl rfl (hb hby at_200) _ k) ?_
    show own_Go p e below s _ _ _ (T80.setTop (mkF m 201 #[.val (.int p0), .val (.int p1), .val (.int p2), .val (.int p3), .val (.int (4 : Int32)), .val (.ref b45), .val (.ref b_48), .val (.int (1 : Int32)), .val (.ref b_48)] [(.int (nar .byte (o_i2b p2)))]))
    refine own_via (fun _ k => XS.iloadN X80.here hx rfl (hb hby at_201) rfl k) ?_
    show own_Go p e below s _ _ _ (T80.setTop (mkF m 202 #[.val (.int p0), .val (.int p1), .val (.int p2), .val (.int p3), .val (.int (4 : Int32)), .val (.ref b45), .val (.ref b_48), .val (.int (1 : Int32)), .val (.ref b_48)] [(.int p2), (.int (nar .byte (o_i2b p2)))]))
    refine own_via (fun _ k => XS.i2b X80.here hx rfl (hb hby at_202) rfl k) ?_
    show own_Go p e below s _ _ _ (T80.setTop (mkF m 203 #[.val (.int p0), .val (.int p1), .val (.int p2), .val (.int p3), .val (.int (4 : Int32)), .val (.ref b45), .val (.ref b_48), .val (.int (1 : Int32)), .val (.ref b_48)] [(.int (o_i2b p2)), (.int (nar .byte (o_i2b p2)))]))
    have hc85 : (nar .byte (o_i2b p2)) = (o_i2b p2) := own_nb _
    refine own_via (fun _ k => XS.icmpNo X80.here hx rfl (hb hby at_203) rfl (Jvm.Free.XT.ii_ne_f hc85) k) ?_
    show own_Go p e below s _ _ _ (T80.setTop (mkF m 206 #[.val (.int p0), .val (.int p1), .val (.int p2), .val (.int p3), .val (.int (4 : Int32)), .val (.ref b45), .val (.ref b_48), .val (.int (1 : Int32)), .val (.ref b_48)] []))
    refine own_via (fun _ k => XS.iconst X80.here hx rfl (hb hby at_206) k) ?_
    show own_Go p e below s _ _ _ (T80.setTop (mkF m 207 #[.val (.int p0), .val (.int p1), .val (.int p2), .val (.int p3), .val (.int (4 : Int32)), .val (.ref b45), .val (.ref b_48), .val (.int (1 : Int32)), .val (.ref b_48)] [(.int (1 : Int32))]))
    refine own_via (fun _ k => XS.goto X80.here hx rfl (pc0 := 207) (pc' := 211) rfl (hb hby at_207) (by decide) (by decide) k) ?_
    show own_Go p e below s _ _ _ (T80.setTop (mkF m 211 #[.val (.int p0), .val (.int p1), .val (.int p2), .val (.int p3), .val (.int (4 : Int32)), .val (.ref b45), .val (.ref b_48), .val (.int (1 : Int32)), .val (.ref b_48)] [(.int (1 : Int32))]))
    refine own_via (fun _ k => XS.istore X80.here hx rfl (hb hby at_211) rfl (l' := #[.val (.int p0), .val (.int p1), .val (.int p2), .val (.int p3), .val (.int (4 : Int32)), .val (.ref b45), .val (.ref b_48), .val (.int (1 : Int32)), .val (.ref b_48)]) rfl k) ?_
    show own_Go p e below s _ _ _ (T80.setTop (mkF m 213 #[.val (.int p0), .val (.int p1), .val (.int p2), .val (.int p3), .val (.int (4 : Int32)), .val (.ref b45), .val (.ref b_48), .val (.int (1 : Int32)), .val (.ref b_48)] []))
    refine own_via (fun _ k => XS.iload X80.here hx rfl (hb hby at_213) rfl k) ?_
    show own_Go p e below s _ _ _ (T80.setTop (mkF m 215 #[.val (.int p0), .val (.int p1), .val (.int p2), .val (.int p3), .val (.int (4 : Int32)), .val (.ref b45), .val (.ref b_48), .val (.int (1 : Int32)), .val (.ref b_48)] [(.int (1 : Int32))]))
    refine own_via (fun _ k => XS.ifNo X80.here hx rfl (hb hby at_215) rfl (Jvm.Free.XT.i0_eq_f (by decide)) k) ?_
    show own_Go p e below s _ _ _ (T80.setTop (mkF m 218 #[.val (.int p0), .val (.int p1), .val (.int p2), .val (.int p3), .val (.int (4 : Int32)), .val (.ref b45), .val (.ref b_48), .val (.int (1 : Int32)), .val (.ref b_48)] []))
    refine own_via (fun _ k => XS.aload X80.here hx rfl (hb hby at_218) rfl rfl k) ?_
    show own_Go p e below s _ _ _ (T80.setTop (mkF m 220 #[.val (.int p0), .val (.int p1), .val (.int p2), .val (.int p3), .val (.int (4 : Int32)), .val (.ref b45), .val (.ref b_48), .val (.int (1 : Int32)), .val (.ref b_48)] [(.ref b_48)]))
    refine own_via (fun _ k => XS.iconst X80.here hx rfl (hb hby at_220) k) ?_
    show own_Go p e below s _ _ _ (T80.setTop (mkF m 221 #[.val (.int p0), .val (.int p1), .val (.int p2), .val (.int p3), .val (.int (4 : Int32)), .val (.ref b45), .val (.ref b_48), .val (.int (1 : Int32)), .val (.ref b_48)] [(.int (2 : Int32)), (.ref b_48)]))
    obtain ⟨cl86, Ar86, q86, S86, M86, H86, G86⟩ := (id F77)
    have hin86 : ¬ ((2 : Int32) < 0 ∨ cl86.slots.size ≤ ((2 : Int32)).toNatClampNeg) := inb_of S86 ⟨by decide, by decide⟩
    have hat86 : cl86.slots[((2 : Int32)).toNatClampNeg]? = some (.int (nar .byte (o_i2b p3))) := Has.at H86 hin86 rfl
    refine own_via (fun _ k => X80.baloadBytes hx (j := (2 : Int32)) (v := (.int (nar .byte (o_i2b p3)))) (by rw [e80]; exact Ar86.1) (State.isArrayOf_alike hZ.alike Ar86.2.1) Ar86.2.2 hin86 hat86 (g := (mkF m 221 #[.val (.int p0), .val (.int p1), .val (.int p2), .val (.int p3), .val (.int (4 : Int32)), .val (.ref b45), .val (.ref b_48), .val (.int (1 : Int32)), .val (.ref b_48)] [(.int (2 : Int32)), (.ref b_48)])) rfl rfl (hb hby at_221) _ k) ?_
    show own_Go p e below s _ _ _ (T80.setTop (mkF m 222 #[.val (.int p0), .val (.int p1), .val (.int p2), .val (.int p3), .val (.int (4 : Int32)), .val (.ref b45), .val (.ref b_48), .val (.int (1 : Int32)), .val (.ref b_48)] [(.int (nar .byte (o_i2b p3)))]))
    refine own_via (fun _ k => XS.iloadN X80.here hx rfl (hb hby at_222) rfl k) ?_
    show own_Go p e below s _ _ _ (T80.setTop (mkF m 223 #[.val (.int p0), .val (.int p1), .val (.int p2), .val (.int p3), .val (.int (4 : Int32)), .val (.ref b45), .val (.ref b_48), .val (.int (1 : Int32)), .val (.ref b_48)] [(.int p3), (.int (nar .byte (o_i2b p3)))]))
    refine own_via (fun _ k => XS.i2b X80.here hx rfl (hb hby at_223) rfl k) ?_
    show own_Go p e below s _ _ _ (T80.setTop (mkF m 224 #[.val (.int p0), .val (.int p1), .val (.int p2), .val (.int p3), .val (.int (4 : Int32)), .val (.ref b45), .val (.ref b_48), .val (.int (1 : Int32)), .val (.ref b_48)] [(.int (o_i2b p3)), (.int (nar .byte (o_i2b p3)))]))
    have hc87 : (nar .byte (o_i2b p3)) = (o_i2b p3) := own_nb _
    refine own_via (fun _ k => XS.icmpNo X80.here hx rfl (hb hby at_224) rfl (Jvm.Free.XT.ii_ne_f hc87) k) ?_
    show own_Go p e below s _ _ _ (T80.setTop (mkF m 227 #[.val (.int p0), .val (.int p1), .val (.int p2), .val (.int p3), .val (.int (4 : Int32)), .val (.ref b45), .val (.ref b_48), .val (.int (1 : Int32)), .val (.ref b_48)] []))
    refine own_via (fun _ k => XS.iconst X80.here hx rfl (hb hby at_227) k) ?_
    show own_Go p e below s _ _ _ (T80.setTop (mkF m 228 #[.val (.int p0), .val (.int p1), .val (.int p2), .val (.int p3), .val (.int (4 : Int32)), .val (.ref b45), .val (.ref b_48), .val (.int (1 : Int32)), .val (.ref b_48)] [(.int (1 : Int32))]))
    refine own_via (fun _ k => XS.goto X80.here hx rfl (pc0 := 228) (pc' := 232) rfl (hb hby at_228) (by decide) (by decide) k) ?_
    show own_Go p e below s _ _ _ (T80.setTop (mkF m 232 #[.val (.int p0), .val (.int p1), .val (.int p2), .val (.int p3), .val (.int (4 : Int32)), .val (.ref b45), .val (.ref b_48), .val (.int (1 : Int32)), .val (.ref b_48)] [(.int (1 : Int32))]))
    refine own_via (fun _ k => XS.istore X80.here hx rfl (hb hby at_232) rfl (l' := #[.val (.int p0), .val (.int p1), .val (.int p2), .val (.int p3), .val (.int (4 : Int32)), .val (.ref b45), .val (.ref b_48), .val (.int (1 : Int32)), .val (.ref b_48)]) rfl k) ?_
    show own_Go p e below s _ _ _ (T80.setTop (mkF m 234 #[.val (.int p0), .val (.int p1), .val (.int p2), .val (.int p3), .val (.int (4 : Int32)), .val (.ref b45), .val (.ref b_48), .val (.int (1 : Int32)), .val (.ref b_48)] []))
    refine own_via (fun _ k => XS.iload X80.here hx rfl (hb hby at_234) rfl k) ?_
    show own_Go p e below s _ _ _ (T80.setTop (mkF m 236 #[.val (.int p0), .val (.int p1), .val (.int p2), .val (.int p3), .val (.int (4 : Int32)), .val (.ref b45), .val (.ref b_48), .val (.int (1 : Int32)), .val (.ref b_48)] [(.int (1 : Int32))]))
    refine own_via (fun _ k => XS.ifNo X80.here hx rfl (hb hby at_236) rfl (Jvm.Free.XT.i0_eq_f (by decide)) k) ?_
    show own_Go p e below s _ _ _ (T80.setTop (mkF m 239 #[.val (.int p0), .val (.int p1), .val (.int p2), .val (.int p3), .val (.int (4 : Int32)), .val (.ref b45), .val (.ref b_48), .val (.int (1 : Int32)), .val (.ref b_48)] []))
    refine own_via (fun _ k => XS.iload X80.here hx rfl (hb hby at_239) rfl k) ?_
    show own_Go p e below s _ _ _ (T80.setTop (mkF m 241 #[.val (.int p0), .val (.int p1), .val (.int p2), .val (.int p3), .val (.int (4 : Int32)), .val (.ref b45), .val (.ref b_48), .val (.int (1 : Int32)), .val (.ref b_48)] [(.int (4 : Int32))]))
    refine own_via (fun _ k => XS.iconst X80.here hx rfl (hb hby at_241) k) ?_
    show own_Go p e below s _ _ _ (T80.setTop (mkF m 242 #[.val (.int p0), .val (.int p1), .val (.int p2), .val (.int p3), .val (.int (4 : Int32)), .val (.ref b45), .val (.ref b_48), .val (.int (1 : Int32)), .val (.ref b_48)] [(.int (3 : Int32)), (.int (4 : Int32))]))
    refine own_via (fun _ k => XS.icmpNo X80.here hx rfl (hb hby at_242) rfl (Jvm.Free.XT.ii_eq_f (by decide)) k) ?_
    show own_Go p e below s _ _ _ (T80.setTop (mkF m 245 #[.val (.int p0), .val (.int p1), .val (.int p2), .val (.int p3), .val (.int (4 : Int32)), .val (.ref b45), .val (.ref b_48), .val (.int (1 : Int32)), .val (.ref b_48)] []))
    refine own_via (fun _ k => XS.aload X80.here hx rfl (hb hby at_245) rfl rfl k) ?_
    show own_Go p e below s _ _ _ (T80.setTop (mkF m 247 #[.val (.int p0), .val (.int p1), .val (.int p2), .val (.int p3), .val (.int (4 : Int32)), .val (.ref b45), .val (.ref b_48), .val (.int (1 : Int32)), .val (.ref b_48)] [(.ref b_48)]))
    refine own_via (fun _ k => XS.iconst X80.here hx rfl (hb hby at_247) k) ?_
    show own_Go p e below s _ _ _ (T80.setTop (mkF m 248 #[.val (.int p0), .val (.int p1), .val (.int p2), .val (.int p3), .val (.int (4 : Int32)), .val (.ref b45), .val (.ref b_48), .val (.int (1 : Int32)), .val (.ref b_48)] [(.int (3 : Int32)), (.ref b_48)]))
    obtain ⟨cl88, Ar88, q88, S88, M88, H88, G88⟩ := (id F77)
    have hin88 : ¬ ((3 : Int32) < 0 ∨ cl88.slots.size ≤ ((3 : Int32)).toNatClampNeg) := inb_of S88 ⟨by decide, by decide⟩
    have hat88 : cl88.slots[((3 : Int32)).toNatClampNeg]? = some (.int (0 : Int32)) := Has.at H88 hin88 rfl
    refine own_via (fun _ k => X80.baloadBytes hx (j := (3 : Int32)) (v := (.int (0 : Int32))) (by rw [e80]; exact Ar88.1) (State.isArrayOf_alike hZ.alike Ar88.2.1) Ar88.2.2 hin88 hat88 (g := (mkF m 248 #[.val (.int p0), .val (.int p1), .val (.int p2), .val (.int p3), .val (.int (4 : Int32)), .val (.ref b45), .val (.ref b_48), .val (.int (1 : Int32)), .val (.ref b_48)] [(.int (3 : Int32)), (.ref b_48)])) rfl rfl (hb hby at_248) _ k) ?_
    show own_Go p e below s _ _ _ (T80.setTop (mkF m 249 #[.val (.int p0), .val (.int p1), .val (.int p2), .val (.int p3), .val (.int (4 : Int32)), .val (.ref b45), .val (.ref b_48), .val (.int (1 : Int32)), .val (.ref b_48)] [(.int (0 : Int32))]))
    refine own_via (fun _ k => XS.ifNo X80.here hx rfl (hb hby at_249) rfl (Jvm.Free.XT.i0_ne_f (by decide)) k) ?_
    show own_Go p e below s _ _ _ (T80.setTop (mkF m 252 #[.val (.int p0), .val (.int p1), .val (.int p2), .val (.int p3), .val (.int (4 : Int32)), .val (.ref b45), .val (.ref b_48), .val (.int (1 : Int32)), .val (.ref b_48)] []))
    refine own_via (fun _ k => XS.iconst X80.here hx rfl (hb hby at_252) k) ?_
    show own_Go p e below s _ _ _ (T80.setTop (mkF m 253 #[.val (.int p0), .val (.int p1), .val (.int p2), .val (.int p3), .val (.int (4 : Int32)), .val (.ref b45), .val (.ref b_48), .val (.int (1 : Int32)), .val (.ref b_48)] [(.int (1 : Int32))]))
    refine own_via (fun _ k => XS.goto X80.here hx rfl (pc0 := 253) (pc' := 257) rfl (hb hby at_253) (by decide) (by decide) k) ?_
    show own_Go p e below s _ _ _ (T80.setTop (mkF m 257 #[.val (.int p0), .val (.int p1), .val (.int p2), .val (.int p3), .val (.int (4 : Int32)), .val (.ref b45), .val (.ref b_48), .val (.int (1 : Int32)), .val (.ref b_48)] [(.int (1 : Int32))]))
    refine own_via (fun _ k => XS.istore X80.here hx rfl (hb hby at_257) rfl (l' := #[.val (.int p0), .val (.int p1), .val (.int p2), .val (.int p3), .val (.int (4 : Int32)), .val (.ref b45), .val (.ref b_48), .val (.int (1 : Int32)), .val (.ref b_48)]) rfl k) ?_
    show own_Go p e below s _ _ _ (T80.setTop (mkF m 259 #[.val (.int p0), .val (.int p1), .val (.int p2), .val (.int p3), .val (.int (4 : Int32)), .val (.ref b45), .val (.ref b_48), .val (.int (1 : Int32)), .val (.ref b_48)] []))
    refine own_via (fun _ k => XS.iload X80.here hx rfl (hb hby at_259) rfl k) ?_
    show own_Go p e below s _ _ _ (T80.setTop (mkF m 261 #[.val (.int p0), .val (.int p1), .val (.int p2), .val (.int p3), .val (.int (4 : Int32)), .val (.ref b45), .val (.ref b_48), .val (.int (1 : Int32)), .val (.ref b_48)] [(.int (1 : Int32))]))
    exact own_goN X80 hx (t := .boolean) Bd.returns (by simp) (hb hby at_261) Bd.notSynchronized (by decide) (by decide) (by rw [e80]; exact ⟨rfl, N80⟩)
set_option maxRecDepth 65536 in
set_option maxHeartbeats 40000000 in
theorem comes_1 {Post : Tables → Env → Array Value → State → Outcome → State → Prop} (hpost : ∀ tb e args s v u, (limb_1_1.after args s (.returned v) u = true ∧ limb_1_2.after args s (.returned v) u = true ∧ True) → FrameEnd s (.returned v) u (Jvm.fieldLocs frame_1_writes args s ++ Jvm.arrayLocs frame_1_arrays args s ++ Jvm.staticLocs frame_1_statics s) 16 128 → Post tb e args s (.returned v) u) :
    ArmFor flags0 classFile x code maxLocals ret World_1 tables_1 room_1 Calls_1 rest_1 Pre_1 Post := by
  intro l hfl _ _ p e ha hc hk s m args below hf hA hF happ hP
  obtain ⟨hcalls, hrest, hpre⟩ := hP
  obtain ⟨-, -, -, hnamed, -, -, -, hat⟩ := (Spec.applies_iff hf).mp happ
  obtain ⟨hg, hn⟩ := and_e (Cond.before_iff.mp (show (Jvm.Cond.and given_1 narrow_1).before args s = true from hpre))
  obtain ⟨g1, g2⟩ := and_e hg
  obtain ⟨g3, g4⟩ := and_e g2
  obtain ⟨g5, g6⟩ := and_e g4
  obtain ⟨g7, g8⟩ := and_e g6
  obtain ⟨w0, w1, w2, w3, rfl⟩ : ∃ w0 w1 w2 w3 : Value, args = #[w0, w1, w2, w3] := by
    have hs : args.size = 4 := by simpa [Cond.value, given_1] using g1
    obtain ⟨L⟩ := args
    match L, hs with
    | [w0, w1, w2, w3], _ => exact ⟨w0, w1, w2, w3, rfl⟩
  have hw := fun d (hd : d ∈ tables_1) => atoms_spec (ws := Jvm.Cond.code x code maxLocals ret :: tables_1) hat d (List.mem_cons_of_mem _ hd)
  have hfit : Fit s := fun {y c} hc i hi => by
    obtain ⟨ha, rfl⟩ := Array.getElem?_eq_some_iff.mp hc
    have q := List.all_eq_true.mp ((Array.all_eq_true_iff_forall_mem.mp hF) _ (Array.getElem_mem ha)) i (List.mem_range.mpr hi)
    simpa [Array.getElem?_eq_getElem hi] using q
  obtain ⟨i0, ei0⟩ := is_v g3
  obtain rfl : w0 = (.int i0) := Option.some.inj ei0
  obtain ⟨i1, ei1⟩ := is_v g5
  obtain rfl : w1 = (.int i1) := Option.some.inj ei1
  obtain ⟨i2, ei2⟩ := is_v g7
  obtain rfl : w2 = (.int i2) := Option.some.inj ei2
  obtain ⟨i3, ei3⟩ := is_v g8
  obtain rfl : w3 = (.int i3) := Option.some.inj ei3
  obtain ⟨n, o, h1, h2, h3, _, L, rfl, ⟨rfl, N⟩, hq⟩ := rm0 l s _ hw tables_1 i0 i1 i2 i3 s.heap s.heap.size (Nat.le_refl _)  p e ha hc hk s m _ below hf ((Spec.applies_iff_loose hf).mp happ).1 ⟨rfl, State.Warmed39.refl s, rfl⟩ trivial
  refine ⟨n, _, h1, h2, h3, hpost _ _ _ _ _ _ ⟨Cond.after_iff.mpr rfl, Cond.after_iff.mpr (eq_i res_at (Term.int_eval (1)) rfl), trivial⟩ ⟨hq.1, hq.2.1, (hq.2.2.sift fun y hy => Or.inr (N y hy)).mono (by decide) (by decide)⟩⟩
theorem main_1_1 : Claimed_1_1 := comes_1 fun _ _ _ _ _ _ h hF => ⟨h.1, hF⟩
theorem main_1_2 : Claimed_1_2 := comes_1 fun _ _ _ _ _ _ h hF => ⟨h.2.1, hF⟩
end Jvm.Pilot.@@N@@
namespace Jvm.Pilot.@@N@@
open Jvm Jvm.ClassFile Sem Op Lib Jvm.Free Jvm.Stand Jvm.Pilot.@@N@@.Jvm.D
/-! MADE BY PROGRAM (witnessworld.py) out of the Statement's table words and the real class files: 9 classes; the members and pool entries that the words name. The judged class is class 1, her method 1. -/
namespace start1
open Jvm.ClassFile
def u (s : String) : CpInfo := .utf8 (stringToUtf16 s)
/-- a pool by its gaps: so many unusable entries, then the entry; so many at the end -/
def gap : Nat → List CpInfo → List CpInfo
  | 0, r => r
  | n + 1, r => .unusable :: gap n r
def poolList (es : List (Nat × CpInfo)) (last : Nat) : List CpInfo := es.foldr (fun e r => gap e.1 (e.2 :: r)) (gap last [])
def pool (es : List (Nat × CpInfo)) (last : Nat) : Array CpInfo := ⟨poolList es last⟩
def fileOf (pool : Array CpInfo) (this : Nat) (attrs : Array Attribute := #[]) (ms : Array MethodInfo := #[]) (fl : Nat := 33) (sup : Nat := 0) (ifs : Array Nat := #[]) (fds : Array FieldInfo := #[]) : ClassFile where
  minorVersion := 0
  majorVersion := 65
  constantPool := pool
  accessFlags := fl
  thisClass := this
  superClass := sup
  interfaces := ifs
  fields := fds
  methods := ms
  attributes := attrs
def plain (name : String) (sup : Option ClassId) : Class where
  name := name
  kind := .ordinary
  loader := none
  accessFlags := 33
  super := sup
  interfaces := #[]
  cf := none
  fields := #[]
  methods := #[]
  instanceTypes := #[]
  staticTypes := #[]
  resolved := #[]
  callSites := []
  init := .initialized
  statics := none
  mirror := none

def pool0 : Array CpInfo := pool [(5, u "<init>"), (0, u "()V"), (1, .class_ 10), (1, u "java/lang/Object")] 113

def k0c0 : Code := { maxStack := 0, maxLocals := 1, code := object_method_1_code, exceptionTable := #[], attributes := #[] }
def k0m0 : Method := { name := "<init>", desc := "()V", sig := { parameters := [], returnType := none }, accessFlags := 1, code := some k0c0 }
/-- java/lang/Object -/
def k0 : Class := { plain "java/lang/Object" none with
  accessFlags := 33
  interfaces := #[]
  cf := some (fileOf pool0 8 #[] #[{ accessFlags := 1, nameIndex := 5, descriptorIndex := 6, attributes := #[] }] 33 0 #[] #[])
  fields := #[]
  methods := #[k0m0]
  instanceTypes := #[]
  staticTypes := #[]
  resolved := Array.replicate 124 none
  statics := none }

def pool1 : Array CpInfo := pool [(2, .class_ 4), (1, u "java/lang/Object"), (0, u "<init>"), (0, u "()V"), (0, .class_ 8), (0, u "com/example/liboutlay/liboutlay/core/ByteOutput"), (0, .methodref 7 10), (0, .nameAndType 5 11), (0, u "(I)V"), (0, .methodref 7 13), (0, .nameAndType 14 15), (0, u "array"), (0, u "()[B"), (0, .methodref 7 17), (0, .nameAndType 18 11), (0, u "put"), (0, .methodref 7 20), (0, .nameAndType 21 22), (0, u "length"), (0, u "()I"), (0, .methodref 7 24), (0, .nameAndType 25 22), (0, u "room"), (0, .class_ 27), (0, u "com/example/liboutlay/liboutlay/core/ByteOutputPutPinLaw"), (2, u "law"), (0, u "(IIII)Z")] 5

def k1m0 : Method := { name := "<init>", desc := "()V", sig := { parameters := [], returnType := none }, accessFlags := 1, code := none }
def k1c1 : Code := { maxStack := 3, maxLocals := 9, code := code, exceptionTable := #[], attributes := #[] }
def k1m1 : Method := { name := "law", desc := "(IIII)Z", sig := { parameters := [.int, .int, .int, .int], returnType := some .boolean }, accessFlags := 9, code := some k1c1 }
/-- com/example/liboutlay/liboutlay/core/ByteOutputPutPinLaw -/
def k1 : Class := { plain "com/example/liboutlay/liboutlay/core/ByteOutputPutPinLaw" (some 0) with
  accessFlags := 49
  interfaces := #[]
  cf := some (fileOf pool1 26 #[] #[{ accessFlags := 1, nameIndex := 5, descriptorIndex := 6, attributes := #[] }, { accessFlags := 9, nameIndex := 30, descriptorIndex := 31, attributes := #[] }] 49 2 #[] #[])
  fields := #[]
  methods := #[k1m0, k1m1]
  instanceTypes := #[]
  staticTypes := #[]
  resolved := Array.replicate 37 none
  statics := none }

def pool2 : Array CpInfo := pool [(1, .methodref 2 3), (0, .class_ 4), (0, .nameAndType 5 6), (0, u "java/lang/Object"), (0, u "<init>"), (0, u "()V"), (0, .fieldref 8 9), (0, .class_ 10), (0, .nameAndType 11 12), (0, u "com/example/liboutlay/liboutlay/core/ByteOutput"), (0, u "bytes"), (0, u "[B"), (21, .fieldref 8 35), (0, .nameAndType 36 37), (0, u "length"), (0, u "I"), (2, u "room"), (0, u "()I"), (28, u "put"), (0, u "(I)V"), (47, u "()[B"), (0, u "DIVIDED"), (2, u "WIDE_NUMERATOR"), (1, u "WIDE_DIVISOR"), (6, u "array")] 9

def k2c0 : Code := { maxStack := 2, maxLocals := 2, code := prog_19_method_1_code, exceptionTable := #[], attributes := #[] }
def k2m0 : Method := { name := "<init>", desc := "(I)V", sig := { parameters := [.int], returnType := none }, accessFlags := 0, code := some k2c0 }
def k2c1 : Code := { maxStack := 1, maxLocals := 1, code := prog_19_method_4_code, exceptionTable := #[], attributes := #[] }
def k2m1 : Method := { name := "length", desc := "()I", sig := { parameters := [], returnType := some .int }, accessFlags := 0, code := some k2c1 }
def k2c2 : Code := { maxStack := 1, maxLocals := 1, code := prog_19_method_5_code, exceptionTable := #[], attributes := #[] }
def k2m2 : Method := { name := "array", desc := "()[B", sig := { parameters := [], returnType := some (.array .byte) }, accessFlags := 0, code := some k2c2 }
def k2c3 : Code := { maxStack := 2, maxLocals := 1, code := prog_19_method_6_code, exceptionTable := #[], attributes := #[] }
def k2m3 : Method := { name := "room", desc := "()I", sig := { parameters := [], returnType := some .int }, accessFlags := 0, code := some k2c3 }
def k2c4 : Code := { maxStack := 5, maxLocals := 2, code := prog_19_method_10_code, exceptionTable := #[], attributes := #[] }
def k2m4 : Method := { name := "put", desc := "(I)V", sig := { parameters := [.int], returnType := none }, accessFlags := 0, code := some k2c4 }
/-- com/example/liboutlay/liboutlay/core/ByteOutput -/
def k2 : Class := { plain "com/example/liboutlay/liboutlay/core/ByteOutput" (some 0) with
  accessFlags := 48
  interfaces := #[]
  cf := some (fileOf pool2 8 #[] #[{ accessFlags := 0, nameIndex := 5, descriptorIndex := 71, attributes := #[] }, { accessFlags := 0, nameIndex := 36, descriptorIndex := 41, attributes := #[] }, { accessFlags := 0, nameIndex := 132, descriptorIndex := 119, attributes := #[] }, { accessFlags := 0, nameIndex := 40, descriptorIndex := 41, attributes := #[] }, { accessFlags := 0, nameIndex := 70, descriptorIndex := 71, attributes := #[] }] 48 2 #[] #[{ accessFlags := 24, nameIndex := 120, descriptorIndex := 37, attributes := #[] }, { accessFlags := 24, nameIndex := 123, descriptorIndex := 37, attributes := #[] }, { accessFlags := 24, nameIndex := 125, descriptorIndex := 37, attributes := #[] }, { accessFlags := 2, nameIndex := 11, descriptorIndex := 12, attributes := #[] }, { accessFlags := 2, nameIndex := 36, descriptorIndex := 37, attributes := #[] }])
  fields := #[{ name := "DIVIDED", type := .int, accessFlags := 24, slot := 0, constantValue := 0 }, { name := "WIDE_NUMERATOR", type := .int, accessFlags := 24, slot := 1, constantValue := 0 }, { name := "WIDE_DIVISOR", type := .int, accessFlags := 24, slot := 2, constantValue := 0 }, { name := "bytes", type := (.array .byte), accessFlags := 2, slot := 0, constantValue := 0 }, { name := "length", type := .int, accessFlags := 2, slot := 1, constantValue := 0 }]
  methods := #[k2m0, k2m1, k2m2, k2m3, k2m4]
  instanceTypes := #[(.array .byte), .int]
  staticTypes := #[.int, .int, .int]
  resolved := Array.replicate 142 none
  statics := none }

def pool3 : Array CpInfo := pool [(1, u "java/lang/Cloneable"), (0, .class_ 1), (0, u "java/lang/Object"), (0, .class_ 3)] 3

/-- java/lang/Cloneable -/
def k3 : Class := { plain "java/lang/Cloneable" (some 0) with
  accessFlags := 1537
  interfaces := #[]
  cf := some (fileOf pool3 2 #[] #[] 1537 4 #[] #[])
  fields := #[]
  methods := #[]
  instanceTypes := #[]
  staticTypes := #[]
  resolved := Array.replicate 8 none
  statics := none }

def pool4 : Array CpInfo := pool [(1, u "java/io/Serializable"), (0, .class_ 1), (0, u "java/lang/Object"), (0, .class_ 3)] 3

/-- java/io/Serializable -/
def k4 : Class := { plain "java/io/Serializable" (some 0) with
  accessFlags := 1537
  interfaces := #[]
  cf := some (fileOf pool4 2 #[] #[] 1537 4 #[] #[])
  fields := #[]
  methods := #[]
  instanceTypes := #[]
  staticTypes := #[]
  resolved := Array.replicate 8 none
  statics := none }

/-- the primitive byte -/
def k5 : Class := { plain "byte" none with kind := .primitive 'B', accessFlags := 0x411 }
/-- [B -/
def k6 : Class := { plain "[B" (some 0) with kind := .array 5 .byte, interfaces := #[3, 4], accessFlags := 1041 }

/-- the primitive int -/
def k7 : Class := { plain "int" none with kind := .primitive 'I', accessFlags := 0x411 }
/-- [I -/
def k8 : Class := { plain "[I" (some 0) with kind := .array 7 .int, interfaces := #[3, 4], accessFlags := 1041 }

def heap : Heap := #[]
def classes : Array Class := #[k0, k1, k2, k3, k4, k5, k6, k7, k8]
def interned : List (Array UInt16 × Addr) := []
def slotsUsed : Nat := 0
def theMethod : MethodId := ⟨1, 1⟩
def args0 : Array Value := #[.int 5, .int 6, .int 7, .int 8]
def aboutOver (below : List Frame) : State where
  vm := { classes := classes, interned := interned.toArray }
  heap := heap
  slotsUsed := slotsUsed
  threads := #[{ frames := .invoking theMethod args0 :: below }]
def below0 : List Frame := [.native { method := ⟨0, 0⟩, args := #[] }]
def about1 : State := aboutOver below0
def p0 : Program := .bare "" "" ""
def e0 : Env := launch0.env 0 0 0
theorem w_frames : about1.frames = Frame.invoking theMethod args0 :: below0 := rfl
set_option maxRecDepth 65536 in
theorem w_args : argsFit about1.vm theMethod args0 = true := by decide +kernel
set_option maxRecDepth 65536 in
theorem w_heap : heapFits about1 = true := by decide +kernel
set_option maxRecDepth 65536 in
theorem w_runnable : about1.curStatus? = some .runnable := by decide +kernel
set_option maxRecDepth 65536 in
theorem w_alone : about1.alone = true := by decide +kernel
set_option maxRecDepth 65536 in
theorem w_named : about1.methodNamed? x = some theMethod := by decide +kernel
set_option maxRecDepth 65536 in
theorem w_hears : about1.hears theMethod below0 = true := by decide +kernel
set_option maxRecDepth 65536 in
theorem w_ripe : about1.ripe theMethod args0 below0 = true := by decide +kernel
theorem w_running : about1.status = .running := rfl
set_option maxRecDepth 65536 in
theorem w_room : about1.hasRoom e0.platform room_1 = true :=
  launch0.hasRoom_least _ room_1 (by decide +kernel) (by decide +kernel) (by decide +kernel) (by decide +kernel) (by decide +kernel) (by decide +kernel)
theorem allAtoms_all (ts : List Jvm.Cond) (a : Array Jvm.Value) (st : Jvm.State) : (allAtoms ts).before a st = ts.all (fun c => c.before a st) := by
  induction ts with
  | nil => rfl
  | cons c t ih =>
    show (Jvm.Cond.and c (allAtoms t)).before a st = _
    rw [Jvm.Cond.before_and, ih, List.all_cons]
def words1 : List Jvm.Cond := Jvm.Cond.code x code maxLocals ret :: tables_1
/-- a 'code' word, met by the world's own term for the bytes: nothing is compared byte by byte -/
theorem code_word {y : MethodName} {bytes : ByteArray} {mx : Nat} {rt : Option FieldType} {a : Array Value} {s : State} {m : MethodId} {meth : Method} {c : Code} (h1 : s.methodNamed? y = some m) (h2 : s.vm.method? m = some meth) (h3 : meth.code = some c) (h4 : c.code = bytes)
    (h5 : (c.maxLocals == mx && c.exceptionTable.isEmpty && decide (c.maxStack ≤ mostOperands) && decide (meth.sig.returnType = rt) && !meth.locks && decide (parseMethodDescriptor y.desc = some meth.sig)) = true) : (Jvm.Cond.code y bytes mx rt).before a s = true := by
  simp only [Bool.and_eq_true, beq_iff_eq, Bool.not_eq_true', decide_eq_true_eq] at h5
  obtain ⟨⟨⟨⟨⟨g1, g2⟩, g3⟩, g4⟩, g5⟩, g6⟩ := h5
  simp [Cond.before, Cond.holds, Cond.value, h1, h2, h3, h4, g1, g2, g3, g4, g5, g6]
def isCode : Jvm.Cond → Bool
  | .code _ _ _ _ => true
  | _ => false
theorem all_split {L : List Jvm.Cond} {P : Jvm.Cond → Bool} (h1 : L.all (fun c => isCode c || P c) = true) (h2 : ∀ c ∈ L.filter isCode, P c = true) : L.all P = true := by
  refine List.all_eq_true.mpr fun c hc => ?_
  have h := List.all_eq_true.mp h1 c hc
  rcases Bool.eq_false_or_eq_true (isCode c) with hi | hi
  · exact h2 c (List.mem_filter.mpr ⟨hc, hi⟩)
  · simpa [hi] using h
set_option maxRecDepth 65536 in
theorem w_c0 : (Jvm.Cond.code x code maxLocals ret).before args0 about1 = true := code_word (m := ⟨1, 1⟩) (meth := k1m1) (c := k1c1) (by decide +kernel) rfl rfl rfl (by decide +kernel)
set_option maxRecDepth 65536 in
theorem w_c1 : (Jvm.Cond.code ({ cls := "com/example/liboutlay/liboutlay/core/ByteOutput", name := "<init>", desc := "(I)V" } : Jvm.MethodName) prog_19_method_1_code (2 : Nat) (Option.none : Option Jvm.ClassFile.FieldType)).before args0 about1 = true := code_word (m := ⟨2, 0⟩) (meth := k2m0) (c := k2c0) (by decide +kernel) rfl rfl rfl (by decide +kernel)
set_option maxRecDepth 65536 in
theorem w_c2 : (Jvm.Cond.code ({ cls := "java/lang/Object", name := "<init>", desc := "()V" } : Jvm.MethodName) object_method_1_code (1 : Nat) (Option.none : Option Jvm.ClassFile.FieldType)).before args0 about1 = true := code_word (m := ⟨0, 0⟩) (meth := k0m0) (c := k0c0) (by decide +kernel) rfl rfl rfl (by decide +kernel)
set_option maxRecDepth 65536 in
theorem w_c3 : (Jvm.Cond.code ({ cls := "com/example/liboutlay/liboutlay/core/ByteOutput", name := "array", desc := "()[B" } : Jvm.MethodName) prog_19_method_5_code (1 : Nat) (Option.some (Jvm.ClassFile.FieldType.array Jvm.ClassFile.FieldType.byte))).before args0 about1 = true := code_word (m := ⟨2, 2⟩) (meth := k2m2) (c := k2c2) (by decide +kernel) rfl rfl rfl (by decide +kernel)
set_option maxRecDepth 65536 in
theorem w_c4 : (Jvm.Cond.code ({ cls := "com/example/liboutlay/liboutlay/core/ByteOutput", name := "put", desc := "(I)V" } : Jvm.MethodName) prog_19_method_10_code (2 : Nat) (Option.none : Option Jvm.ClassFile.FieldType)).before args0 about1 = true := code_word (m := ⟨2, 4⟩) (meth := k2m4) (c := k2c4) (by decide +kernel) rfl rfl rfl (by decide +kernel)
set_option maxRecDepth 65536 in
theorem w_c5 : (Jvm.Cond.code ({ cls := "com/example/liboutlay/liboutlay/core/ByteOutput", name := "length", desc := "()I" } : Jvm.MethodName) prog_19_method_4_code (1 : Nat) (Option.some Jvm.ClassFile.FieldType.int)).before args0 about1 = true := code_word (m := ⟨2, 1⟩) (meth := k2m1) (c := k2c1) (by decide +kernel) rfl rfl rfl (by decide +kernel)
set_option maxRecDepth 65536 in
theorem w_c6 : (Jvm.Cond.code ({ cls := "com/example/liboutlay/liboutlay/core/ByteOutput", name := "room", desc := "()I" } : Jvm.MethodName) prog_19_method_6_code (1 : Nat) (Option.some Jvm.ClassFile.FieldType.int)).before args0 about1 = true := code_word (m := ⟨2, 3⟩) (meth := k2m3) (c := k2c3) (by decide +kernel) rfl rfl rfl (by decide +kernel)
def codes1 : List Jvm.Cond := [Jvm.Cond.code x code maxLocals ret, Jvm.Cond.code ({ cls := "com/example/liboutlay/liboutlay/core/ByteOutput", name := "<init>", desc := "(I)V" } : Jvm.MethodName) prog_19_method_1_code (2 : Nat) (Option.none : Option Jvm.ClassFile.FieldType), Jvm.Cond.code ({ cls := "java/lang/Object", name := "<init>", desc := "()V" } : Jvm.MethodName) object_method_1_code (1 : Nat) (Option.none : Option Jvm.ClassFile.FieldType), Jvm.Cond.code ({ cls := "com/example/liboutlay/liboutlay/core/ByteOutput", name := "array", desc := "()[B" } : Jvm.MethodName) prog_19_method_5_code (1 : Nat) (Option.some (Jvm.ClassFile.FieldType.array Jvm.ClassFile.FieldType.byte)), Jvm.Cond.code ({ cls := "com/example/liboutlay/liboutlay/core/ByteOutput", name := "put", desc := "(I)V" } : Jvm.MethodName) prog_19_method_10_code (2 : Nat) (Option.none : Option Jvm.ClassFile.FieldType), Jvm.Cond.code ({ cls := "com/example/liboutlay/liboutlay/core/ByteOutput", name := "length", desc := "()I" } : Jvm.MethodName) prog_19_method_4_code (1 : Nat) (Option.some Jvm.ClassFile.FieldType.int), Jvm.Cond.code ({ cls := "com/example/liboutlay/liboutlay/core/ByteOutput", name := "room", desc := "()I" } : Jvm.MethodName) prog_19_method_6_code (1 : Nat) (Option.some Jvm.ClassFile.FieldType.int)]
set_option maxRecDepth 65536 in
theorem codes_eq : words1.filter isCode = codes1 := rfl
theorem w_codes : ∀ c ∈ words1.filter isCode, c.before args0 about1 = true := by
  rw [codes_eq]
  intro c hc
  simp only [codes1, List.mem_cons, List.not_mem_nil, or_false] at hc
  rcases hc with rfl | rfl | rfl | rfl | rfl | rfl | rfl
  · exact w_c0
  · exact w_c1
  · exact w_c2
  · exact w_c3
  · exact w_c4
  · exact w_c5
  · exact w_c6
set_option maxRecDepth 65536 in
theorem w_t1 : (words1.take 24).all (fun c => isCode c || c.before args0 about1) = true := by decide +kernel
set_option maxRecDepth 65536 in
theorem w_t2 : (words1.drop 24).all (fun c => isCode c || c.before args0 about1) = true := by decide +kernel
theorem w_tables : (allAtoms (Jvm.Cond.code x code maxLocals ret :: tables_1)).before args0 about1 = true := by
  rw [allAtoms_all]
  show words1.all (fun c => c.before args0 about1) = true
  refine all_split ?_ w_codes
  rw [← List.take_append_drop 24 words1, List.all_append, w_t1, w_t2]
  rfl
set_option maxRecDepth 65536 in
theorem w_case : (Jvm.Cond.and given_1 narrow_1).before args0 about1 = true := by decide +kernel
theorem w_applies : (headSpec (Jvm.Cond.code x code maxLocals ret :: tables_1) room_1).applies x e0.platform about1 = true :=
  (Spec.applies_iff w_frames).mpr ⟨w_running, w_runnable, w_alone, w_named, w_hears, w_ripe, w_room, w_tables⟩
theorem atStart : AtStart classFile x code maxLocals ret World_1 tables_1 room_1 Calls_1 rest_1 Pre_1 launch0 p0 e0 about1 theMethod args0 below0 :=
  ⟨lists_1, trivial, launch0.admits_env _ _ _, launch0.least_env, fairChoices_fair.cas, fairChoices_fair.clock, w_frames, w_args, w_heap, w_applies, trivial, trivial, w_case⟩
end start1
theorem witness_1 : WitnessClaimed_1 := ⟨start1.p0, start1.e0, start1.about1, start1.theMethod, start1.args0, start1.below0, start1.atStart⟩
end Jvm.Pilot.@@N@@
