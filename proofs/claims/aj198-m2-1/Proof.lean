import JvmDerived
import JvmDerived.Pilot.@@N@@Statement
import JvmDerived.Pilot.@@N@@Code
set_option linter.unusedVariables false
set_option linter.unusedSimpArgs false
namespace Jvm.Pilot.@@N@@
open Jvm Jvm.ClassFile Sem Op Lib Jvm.Free Jvm.Stand Jvm.LawKit Jvm.RoadKit Bundle Jvm.Pilot.@@N@@.Jvm.D
section OwnGo
variable {p : Program} {l : Launch} {e : Env} {R : Room} {s : State} {m : MethodId} {args : Array Value} {below : List Frame} {meth : Method} {c : Code} {T : State} {locs : List Loc} {cells slots : Nat}
/-- from S the run ends, returned, with Q -/
def own_Go (p : Program) (e : Env) (below : List Frame) (s : State) (Q : Option Value → Heap → List Loc → Prop) (cs ss : Nat) (S : State) : Prop :=
  ∃ (U : State) (o : Outcome), Steps p.tables e below S U ∧ U.status = .running ∧ Ended U below o ∧ ∃ v L, o = .returned v ∧ Q v U.heap L ∧ FrameEnd s o U L cs ss
variable {Q : Option Value → Heap → List Loc → Prop} {cs ss : Nat} {S S' : State}
theorem own_via (st : ∀ t, Steps p.tables e below S' t → Steps p.tables e below S t) (k : own_Go p e below s Q cs ss S') : own_Go p e below s Q cs ss S := by
  obtain ⟨U, o, h, r⟩ := k; exact ⟨U, o, st U h, r⟩
theorem own_viaT (st : Steps p.tables e below S S') (k : own_Go p e below s Q cs ss S') : own_Go p e below s Q cs ss S := own_via (fun _ h => st.trans h) k
theorem own_goV (X : Stand p l e R s m args below meth c T locs cells slots) (hx : p.tables.exec = Jvm.exec) {pc : Nat} {Ls : Array Slot} (hret : meth.sig.returnType = none) (hd : decode c.code pc = .ok (.return_, 1)) (hk : meth.locks = false) (hc : cells ≤ cs) (hs : slots ≤ ss) (hQ : Q none T.heap locs) :
    own_Go p e below s Q cs ss (T.setTop (mkF m pc Ls [])) := by
  obtain ⟨fs, hr, hrun, hended, hW, hsame⟩ := X.leave (v := none) (fun _ => rfl) hk
  exact ⟨_, _, X.returnOut hx hret hd hr, hrun, hended, _, _, rfl, hQ, ⟨_, rfl⟩, hW, hsame.mono hc hs⟩
theorem own_goN (X : Stand p l e R s m args below meth c T locs cells slots) (hx : p.tables.exec = Jvm.exec) {pc : Nat} {Ls : Array Slot} {z : Int32} {t : FieldType} {rest : List Value} (hret : meth.sig.returnType = some t) (ht : t = .boolean ∨ t = .byte ∨ t = .char ∨ t = .short) (hd : decode c.code pc = .ok (.ireturn, 1)) (hk : meth.locks = false) (hc : cells ≤ cs) (hs : slots ≤ ss) (hQ : Q (some (.int (nar t z))) T.heap locs) :
    own_Go p e below s Q cs ss (T.setTop (mkF m pc Ls (.int z :: rest))) := by
  obtain ⟨fs, hr, hrun, hended, hW, hsame⟩ := X.leave (v := some (.int (nar t z))) (fun h => by rw [hret] at h; cases h) hk
  exact ⟨_, _, retN X hx hret ht hd hr, hrun, hended, _, _, rfl, hQ, ⟨_, rfl⟩, hW, hsame.mono hc hs⟩
theorem own_goI (X : Stand p l e R s m args below meth c T locs cells slots) (hx : p.tables.exec = Jvm.exec) {pc : Nat} {Ls : Array Slot} {z : Int32} (hret : meth.sig.returnType = some .int) (hd : decode c.code pc = .ok (.ireturn, 1)) (hk : meth.locks = false) (hc : cells ≤ cs) (hs : slots ≤ ss) (hQ : Q (some (.int z)) T.heap locs) :
    own_Go p e below s Q cs ss (T.setTop (mkF m pc Ls [.int z])) := by
  obtain ⟨fs, hr, hrun, hended, hW, hsame⟩ := X.leave (v := some (.int z)) (fun h => by rw [hret] at h; cases h) hk
  exact ⟨_, _, X.ireturnOut hx hret rfl (Or.inl rfl) hd hr, hrun, hended, _, _, rfl, hQ, ⟨_, rfl⟩, hW, hsame.mono hc hs⟩
theorem own_goJ (X : Stand p l e R s m args below meth c T locs cells slots) (hx : p.tables.exec = Jvm.exec) {pc : Nat} {Ls : Array Slot} {z : Int64} (hret : meth.sig.returnType = some .long) (hd : decode c.code pc = .ok (.lreturn, 1)) (hk : meth.locks = false) (hc : cells ≤ cs) (hs : slots ≤ ss) (hQ : Q (some (.long z)) T.heap locs) :
    own_Go p e below s Q cs ss (T.setTop (mkF m pc Ls [.long z])) := by
  obtain ⟨fs, hr, hrun, hended, hW, hsame⟩ := X.leave (v := some (.long z)) (fun h => by rw [hret] at h; cases h) hk
  exact ⟨_, _, X.lreturnOut hx hret hd hr, hrun, hended, _, _, rfl, hQ, ⟨_, rfl⟩, hW, hsame.mono hc hs⟩
theorem own_goA (X : Stand p l e R s m args below meth c T locs cells slots) (hx : p.tables.exec = Jvm.exec) {pc : Nat} {Ls : Array Slot} {w : Value} {t : FieldType} (hw : w.isRef = true) (hret : meth.sig.returnType = some t) (ht : t.isReference = true) (hd : decode c.code pc = .ok (.areturn, 1)) (hk : meth.locks = false) (hc : cells ≤ cs) (hs : slots ≤ ss) (hQ : Q (some w) T.heap locs) :
    own_Go p e below s Q cs ss (T.setTop (mkF m pc Ls [w])) := by
  obtain ⟨fs, hr, hrun, hended, hW, hsame⟩ := X.leave (v := some w) (fun h => by rw [hret] at h; cases h) hk
  exact ⟨_, _, X.areturnOut hx hw hret ht hd hr, hrun, hended, _, _, rfl, hQ, ⟨_, rfl⟩, hW, hsame.mono hc hs⟩
theorem own_selP {s : State} {args : Array Value} {y y' : MethodName} (hs : (Cond.selects y'.cls y' y').before args s = true) (hc : y'.cls = y.cls) (hpriv : s.PrivateAt y) (hinst : (Cond.instanceMethod y).before args s = true) (hy : y.cls ≠ "java/lang/invoke/MethodHandle" ∧ y.cls ≠ "java/lang/invoke/VarHandle") : (Cond.selects y.cls y y).before args s = true := by
  obtain ⟨c2, r2, m2, -, -, q3, -, kP, hkP, hkPi⟩ := Cond.selects_spec hs
  exact selects_self_of_private (hc ▸ findClass_of_methodNamed q3) hkP hkPi hpriv hinst hy
end OwnGo
def o_i2l (x : Int32) : Int64 := x.toInt64
def o_l2i (x : Int64) : Int32 := x.toInt32
def o_i2b (x : Int32) : Int32 := x.toInt8.toInt32
def o_i2s (x : Int32) : Int32 := x.toInt16.toInt32
def o_i2c (x : Int32) : Int32 := x.toUInt32.toUInt16.toUInt32.toInt32
def o_ishl (x y : Int32) : Int32 := x <<< (y &&& 31)
def o_ishr (x y : Int32) : Int32 := x >>> (y &&& 31)
def o_iushr (x y : Int32) : Int32 := (x.toUInt32 >>> (y &&& 31).toUInt32).toInt32
def o_lshl (x : Int64) (y : Int32) : Int64 := x <<< (y &&& 0x3f).toInt64
def o_lshr (x : Int64) (y : Int32) : Int64 := x >>> (y &&& 0x3f).toInt64
def o_lushr (x : Int64) (y : Int32) : Int64 := (x.toUInt64 >>> (y &&& 0x3f).toInt64.toUInt64).toInt64
def o_irem (x y : Int32) : Int32 := x - (x / y) * y
def o_lrem (x y : Int64) : Int64 := x - (x / y) * y
def o_d0 : UInt64 := FP.dconst0
def o_d1 : UInt64 := FP.dconst1
theorem d1_0 : decode method_2_code 0 = .ok (.iload_n 0, 1) := by decide +kernel
theorem d1_1 : decode method_2_code 1 = .ok (.ldc 7, 2) := by decide +kernel
theorem d1_3 : decode method_2_code 3 = .ok (.iand, 1) := by decide +kernel
theorem d1_4 : decode method_2_code 4 = .ok (.istore_n 1, 1) := by decide +kernel
theorem d1_5 : decode method_2_code 5 = .ok (.iload_n 1, 1) := by decide +kernel
theorem d1_6 : decode method_2_code 6 = .ok (.ifCond .ne 5, 3) := by decide +kernel
theorem d1_9 : decode method_2_code 9 = .ok (.iconst 1, 1) := by decide +kernel
theorem d1_10 : decode method_2_code 10 = .ok (.istore_n 1, 1) := by decide +kernel
theorem d1_11 : decode method_2_code 11 = .ok (.iload_n 1, 1) := by decide +kernel
theorem d1_12 : decode method_2_code 12 = .ok (.ireturn, 1) := by decide +kernel
def own_m (p0 : Int32) : Int32 := (if (p0 &&& (2147483647 : Int32)) = (0 : Int32) then (1 : Int32) else (p0 &&& (2147483647 : Int32)))
theorem pn_0 : plainName "com/example/greenbelt/greenbelt/model/RequestIdOutdatesPinLaw" = true := by first | (simp [plainName, overriddenIn]; done) | decide +kernel
theorem ef_1 (m : MethodId) (x0 : Int32) : entryFrame m #[(.int x0)] 2 = mkF m 0 #[.val (.int x0), .unset] [] := by first | (simp [entryFrame, mkF, argsToLocals, Value.category]; done) | rfl
def Q1 (Z : State) (p0 : Int32) (h0 : Heap) (n0 : Nat) (v : Option Value) (h : Heap) (L : List Loc) : Prop := v = some (.int (own_m p0)) ∧ Fr n0 L ∧ h = h0
set_option maxRecDepth 65536 in
set_option maxHeartbeats 40000000 in
theorem rm1 (l : Launch) (Z : State) (a0 : Array Value) (hw : ∀ d ∈ tables_1, d.before a0 Z = true) (ws : List Jvm.Cond) (p0 : Int32) (h0 : Heap) (n0 : Nat) (Z0 : n0 ≤ h0.size) :
    MetFree l (⟨"com/example/greenbelt/greenbelt/model/RequestIdOutdatesPinLaw", "member", "(I)I"⟩ : MethodName) (head1 (Jvm.Cond.code (⟨"com/example/greenbelt/greenbelt/model/RequestIdOutdatesPinLaw", "member", "(I)I"⟩ : MethodName) method_2_code 2 (some .int) :: ws) ({ frames := 0, cells := 0, slots := 0, locals := 0 } : Room)) (fun q_ U => q_ = #[(.int p0)] ∧ Z.Warmed39 U.vm ∧ U.heap = h0) (fun _ _ _ _ _ => True) (fun _ U o U' => ∃ v L, o = .returned v ∧ Q1 Z p0 h0 n0 v U'.heap L ∧ FrameEnd U o U' L ({ frames := 0, cells := 0, slots := 0, locals := 0 } : Room).cells ({ frames := 0, cells := 0, slots := 0, locals := 0 } : Room).slots) := by
  refine MetFree.of_bodySF (plainFor_of_name pn_0) hisR ?_
  intro p e s m args below meth c s₁ Bd hml0 hP hK
  obtain ⟨rfl, hZ, hh⟩ := hP
  have hx := Bd.exec
  have hby := Bd.bytes
  have hml : c.maxLocals = 2 := hml0
  have hown : s.vm.findClass "com/example/greenbelt/greenbelt/model/RequestIdOutdatesPinLaw" = some m.cls := findClass_of_methodNamed Bd.named
  have hnm := (name_of_methodNamed Bd.named Bd.method).1
  have X0 : Stand p l e ({ frames := 0, cells := 0, slots := 0, locals := 0 } : Room) s m #[(.int p0)] below meth c s₁ [] 0 0 := Stand.of_body Bd
  have e0 : s₁.heap = h0 := by rw [← hh, Bd.state]; rfl
  have N0 := Fr.nil n0
  show own_Go p e below s (Q1 Z p0 h0 n0) ({ frames := 0, cells := 0, slots := 0, locals := 0 } : Room).cells ({ frames := 0, cells := 0, slots := 0, locals := 0 } : Room).slots (s₁.setTop (entryFrame m #[(.int p0)] 2))
  refine own_via (fun t k => castTop (ef_1 m p0) k) ?_
  show own_Go p e below s _ _ _ (s₁.setTop (mkF m 0 #[.val (.int p0), .unset] []))
  refine own_via (fun _ k => XS.iloadN X0.here hx rfl (hb hby d1_0) rfl k) ?_
  show own_Go p e below s _ _ _ (s₁.setTop (mkF m 1 #[.val (.int p0), .unset] [(.int p0)]))
  refine own_via (fun _ k => X0.ldcInt hx hown (mvT hZ (hw _ (List.mem_of_getElem? (i := 5) rfl))) (g := (mkF m 1 #[.val (.int p0), .unset] [(.int p0)])) rfl (hb hby d1_1) _ k) ?_
  show own_Go p e below s _ _ _ (s₁.setTop (mkF m 3 #[.val (.int p0), .unset] [(.int (2147483647 : Int32)), (.int p0)]))
  refine own_via (fun _ k => XS.iand X0.here hx rfl (hb hby d1_3) rfl k) ?_
  show own_Go p e below s _ _ _ (s₁.setTop (mkF m 4 #[.val (.int p0), .unset] [(.int (p0 &&& (2147483647 : Int32)))]))
  refine own_via (fun _ k => XS.istoreN X0.here hx rfl (hb hby d1_4) rfl (l' := #[.val (.int p0), .val (.int (p0 &&& (2147483647 : Int32)))]) rfl k) ?_
  show own_Go p e below s _ _ _ (s₁.setTop (mkF m 5 #[.val (.int p0), .val (.int (p0 &&& (2147483647 : Int32)))] []))
  refine own_via (fun _ k => XS.iloadN X0.here hx rfl (hb hby d1_5) rfl k) ?_
  show own_Go p e below s _ _ _ (s₁.setTop (mkF m 6 #[.val (.int p0), .val (.int (p0 &&& (2147483647 : Int32)))] [(.int (p0 &&& (2147483647 : Int32)))]))
  by_cases hc1 : (p0 &&& (2147483647 : Int32)) = (0 : Int32)
  · refine own_via (fun _ k => XS.ifNo X0.here hx rfl (hb hby d1_6) rfl (Jvm.Free.XT.i0_ne_f hc1) k) ?_
    show own_Go p e below s _ _ _ (s₁.setTop (mkF m 9 #[.val (.int p0), .val (.int (p0 &&& (2147483647 : Int32)))] []))
    refine own_via (fun _ k => XS.iconst X0.here hx rfl (hb hby d1_9) k) ?_
    show own_Go p e below s _ _ _ (s₁.setTop (mkF m 10 #[.val (.int p0), .val (.int (p0 &&& (2147483647 : Int32)))] [(.int (1 : Int32))]))
    refine own_via (fun _ k => XS.istoreN X0.here hx rfl (hb hby d1_10) rfl (l' := #[.val (.int p0), .val (.int (1 : Int32))]) rfl k) ?_
    show own_Go p e below s _ _ _ (s₁.setTop (mkF m 11 #[.val (.int p0), .val (.int (1 : Int32))] []))
    refine own_via (fun _ k => XS.iloadN X0.here hx rfl (hb hby d1_11) rfl k) ?_
    show own_Go p e below s _ _ _ (s₁.setTop (mkF m 12 #[.val (.int p0), .val (.int (1 : Int32))] [(.int (1 : Int32))]))
    exact own_goI X0 hx Bd.returns (hb hby d1_12) Bd.notSynchronized (by decide) (by decide) (by rw [e0]; exact ⟨by rw [own_m, if_pos hc1] <;> rfl, N0, rfl⟩)
  · refine own_via (fun _ k => XS.ifYes X0.here hx rfl (pc0 := 6) (pc' := 11) rfl (hb hby d1_6) rfl (Jvm.Free.XT.i0_ne_t hc1) (by decide) (by decide) k) ?_
    show own_Go p e below s _ _ _ (s₁.setTop (mkF m 11 #[.val (.int p0), .val (.int (p0 &&& (2147483647 : Int32)))] []))
    refine own_via (fun _ k => XS.iloadN X0.here hx rfl (hb hby d1_11) rfl k) ?_
    show own_Go p e below s _ _ _ (s₁.setTop (mkF m 12 #[.val (.int p0), .val (.int (p0 &&& (2147483647 : Int32)))] [(.int (p0 &&& (2147483647 : Int32)))]))
    exact own_goI X0 hx Bd.returns (hb hby d1_12) Bd.notSynchronized (by decide) (by decide) (by rw [e0]; exact ⟨by rw [own_m, if_neg hc1] <;> rfl, N0, rfl⟩)
theorem d3_0 : decode jdk_30_method_1_code 0 = .ok (.aload_n 0, 1) := by decide +kernel
theorem d3_1 : decode jdk_30_method_1_code 1 = .ok (.invokespecial 1, 3) := by decide +kernel
theorem d3_4 : decode jdk_30_method_1_code 4 = .ok (.return_, 1) := by decide +kernel
theorem pn_1 : plainName "java/lang/Record" = true := by first | (simp [plainName, overriddenIn]; done) | decide +kernel
theorem ef_3 (m : MethodId) (x0 : Addr) : entryFrame m #[(.ref x0)] 1 = mkF m 0 #[.val (.ref x0)] [] := by first | (simp [entryFrame, mkF, argsToLocals, Value.category]; done) | rfl
def Q3 (Z : State) (a : Addr) (h0 : Heap) (n0 : Nat) (v : Option Value) (h : Heap) (L : List Loc) : Prop := v = none ∧ Fr n0 L ∧ h = h0
set_option maxRecDepth 65536 in
set_option maxHeartbeats 40000000 in
theorem rm3 (l : Launch) (Z : State) (a0 : Array Value) (hw : ∀ d ∈ tables_1, d.before a0 Z = true) (ws : List Jvm.Cond) (a : Addr) (h0 : Heap) (n0 : Nat) (Z0 : n0 ≤ h0.size) :
    MetFree l (⟨"java/lang/Record", "<init>", "()V"⟩ : MethodName) (head1 (Jvm.Cond.code (⟨"java/lang/Record", "<init>", "()V"⟩ : MethodName) jdk_30_method_1_code 1 none :: ws) ({ frames := 1, cells := 0, slots := 0, locals := 12 } : Room)) (fun q_ U => q_ = #[(.ref a)] ∧ Z.Warmed39 U.vm ∧ U.heap = h0) (fun _ _ _ _ _ => True) (fun _ U o U' => ∃ v L, o = .returned v ∧ Q3 Z a h0 n0 v U'.heap L ∧ FrameEnd U o U' L ({ frames := 1, cells := 0, slots := 0, locals := 12 } : Room).cells ({ frames := 1, cells := 0, slots := 0, locals := 12 } : Room).slots) := by
  refine MetFree.of_bodySF (plainFor_of_name pn_1) hisR ?_
  intro p e s m args below meth c s₁ Bd hml0 hP hK
  obtain ⟨rfl, hZ, hh⟩ := hP
  have hx := Bd.exec
  have hby := Bd.bytes
  have hml : c.maxLocals = 1 := hml0
  have hown : s.vm.findClass "java/lang/Record" = some m.cls := findClass_of_methodNamed Bd.named
  have hnm := (name_of_methodNamed Bd.named Bd.method).1
  have X0 : Stand p l e ({ frames := 1, cells := 0, slots := 0, locals := 12 } : Room) s m #[(.ref a)] below meth c s₁ [] 0 0 := Stand.of_body Bd
  have e0 : s₁.heap = h0 := by rw [← hh, Bd.state]; rfl
  have N0 := Fr.nil n0
  show own_Go p e below s (Q3 Z a h0 n0) ({ frames := 1, cells := 0, slots := 0, locals := 12 } : Room).cells ({ frames := 1, cells := 0, slots := 0, locals := 12 } : Room).slots (s₁.setTop (entryFrame m #[(.ref a)] 1))
  refine own_via (fun t k => castTop (ef_3 m a) k) ?_
  show own_Go p e below s _ _ _ (s₁.setTop (mkF m 0 #[.val (.ref a)] []))
  refine own_via (fun _ k => XS.aloadN X0.here hx rfl (hb hby d3_0) rfl rfl k) ?_
  show own_Go p e below s _ _ _ (s₁.setTop (mkF m 1 #[.val (.ref a)] [(.ref a)]))
  obtain ⟨T1, X1, e1, st1⟩ := initO X0 hx hZ hown (hw _ (List.mem_of_getElem? (i := 17) rfl)) (hw _ (List.mem_of_getElem? (i := 18) rfl)) (hw _ (List.mem_of_getElem? (i := 19) rfl)) e0 (g := (mkF m 1 #[.val (.ref a)] [(.ref a)])) rfl (by rw [hml]; rfl) rfl (hb hby d3_1) (by decide) (W := 0) (by show 2 * 0 + _ ≤ _; exact Nat.le_of_eq rfl) (by decide)
  refine own_via st1 ?_
  show own_Go p e below s _ _ _ (T1.setTop (mkF m 4 #[.val (.ref a)] []))
  exact own_goV X1 hx Bd.returns (hb hby d3_4) Bd.notSynchronized (by decide) (by decide) (by rw [e1]; exact ⟨rfl, N0, rfl⟩)
theorem d2_0 : decode prog_76_method_1_code 0 = .ok (.aload_n 0, 1) := by decide +kernel
theorem pd_0 : parseMethodDescriptor "()V" = some ⟨[], none⟩ := by decide +kernel
theorem d2_1 : decode prog_76_method_1_code 1 = .ok (.invokespecial 1, 3) := by decide +kernel
theorem d2_4 : decode prog_76_method_1_code 4 = .ok (.lload_n 1, 1) := by decide +kernel
theorem d2_5 : decode prog_76_method_1_code 5 = .ok (.lconst 0, 1) := by decide +kernel
theorem d2_6 : decode prog_76_method_1_code 6 = .ok (.lcmp, 1) := by decide +kernel
theorem d2_7 : decode prog_76_method_1_code 7 = .ok (.ifCond .ge 17, 3) := by decide +kernel
theorem d2_24 : decode prog_76_method_1_code 24 = .ok (.iload_n 3, 1) := by decide +kernel
theorem d2_25 : decode prog_76_method_1_code 25 = .ok (.iconst 1, 1) := by decide +kernel
theorem d2_26 : decode prog_76_method_1_code 26 = .ok (.if_icmp .ge 17, 3) := by decide +kernel
theorem d2_43 : decode prog_76_method_1_code 43 = .ok (.aload_n 0, 1) := by decide +kernel
theorem d2_44 : decode prog_76_method_1_code 44 = .ok (.lload_n 1, 1) := by decide +kernel
theorem d2_45 : decode prog_76_method_1_code 45 = .ok (.putfield 19, 3) := by decide +kernel
theorem d2_48 : decode prog_76_method_1_code 48 = .ok (.aload_n 0, 1) := by decide +kernel
theorem d2_49 : decode prog_76_method_1_code 49 = .ok (.iload_n 3, 1) := by decide +kernel
theorem d2_50 : decode prog_76_method_1_code 50 = .ok (.putfield 25, 3) := by decide +kernel
theorem d2_53 : decode prog_76_method_1_code 53 = .ok (.return_, 1) := by decide +kernel
theorem pn_2 : plainName "com/example/greenbelt/greenbelt/model/RequestId" = true := by first | (simp [plainName, overriddenIn]; done) | decide +kernel
theorem ef_2 (m : MethodId) (x0 : Addr) (x1 : Int64) (x2 : Int32) : entryFrame m #[(.ref x0), (.long x1), (.int x2)] 4 = mkF m 0 #[.val (.ref x0), .val (.long x1), .second, .val (.int x2)] [] := by first | (simp [entryFrame, mkF, argsToLocals, Value.category]; done) | rfl
def Q2 (Z : State) (a : Addr) (pt_ : Int64) (pm_ : Int32) (h0 : Heap) (n0 : Nat) (v : Option Value) (h : Heap) (L : List Loc) : Prop := v = none ∧ Fr n0 L ∧ Keep h0 h [a] ∧ Exa Z h a "com/example/greenbelt/greenbelt/model/RequestId" ∧ Fld Z h a "com/example/greenbelt/greenbelt/model/RequestId" "timestamp" "J" (.long pt_) ∧ Fld Z h a "com/example/greenbelt/greenbelt/model/RequestId" "member" "I" (.int pm_)
set_option maxRecDepth 65536 in
set_option maxHeartbeats 40000000 in
theorem rm2 (l : Launch) (Z : State) (a0 : Array Value) (hw : ∀ d ∈ tables_1, d.before a0 Z = true) (ws : List Jvm.Cond) (a : Addr) (pt_ : Int64) (pm_ : Int32) (h0 : Heap) (n0 : Nat) (Z0 : n0 ≤ h0.size) (E_a : Exa Z h0 a "com/example/greenbelt/greenbelt/model/RequestId") (F_timestamp_a : Fld Z h0 a "com/example/greenbelt/greenbelt/model/RequestId" "timestamp" "J" (.long (0 : Int64))) (F_member_a : Fld Z h0 a "com/example/greenbelt/greenbelt/model/RequestId" "member" "I" (.int (0 : Int32))) (g_a : n0 ≤ a) (hp4 : ¬ pt_ < (0 : Int64)) (hp5 : ¬ pm_ < (1 : Int32)) :
    MetFree l (⟨"com/example/greenbelt/greenbelt/model/RequestId", "<init>", "(JI)V"⟩ : MethodName) (head1 (Jvm.Cond.code (⟨"com/example/greenbelt/greenbelt/model/RequestId", "<init>", "(JI)V"⟩ : MethodName) prog_76_method_1_code 4 none :: ws) ({ frames := 2, cells := 0, slots := 0, locals := 24 } : Room)) (fun q_ U => q_ = #[(.ref a), (.long pt_), (.int pm_)] ∧ Z.Warmed39 U.vm ∧ U.heap = h0) (fun _ _ _ _ _ => True) (fun _ U o U' => ∃ v L, o = .returned v ∧ Q2 Z a pt_ pm_ h0 n0 v U'.heap L ∧ FrameEnd U o U' L ({ frames := 2, cells := 0, slots := 0, locals := 24 } : Room).cells ({ frames := 2, cells := 0, slots := 0, locals := 24 } : Room).slots) := by
  refine MetFree.of_bodySF (plainFor_of_name pn_2) hisR ?_
  intro p e s m args below meth c s₁ Bd hml0 hP hK
  obtain ⟨rfl, hZ, hh⟩ := hP
  have hx := Bd.exec
  have hby := Bd.bytes
  have hml : c.maxLocals = 4 := hml0
  have hown : s.vm.findClass "com/example/greenbelt/greenbelt/model/RequestId" = some m.cls := findClass_of_methodNamed Bd.named
  have hnm := (name_of_methodNamed Bd.named Bd.method).1
  have X0 : Stand p l e ({ frames := 2, cells := 0, slots := 0, locals := 24 } : Room) s m #[(.ref a), (.long pt_), (.int pm_)] below meth c s₁ [] 0 0 := Stand.of_body Bd
  have e0 : s₁.heap = h0 := by rw [← hh, Bd.state]; rfl
  have N0 := Fr.nil n0
  show own_Go p e below s (Q2 Z a pt_ pm_ h0 n0) ({ frames := 2, cells := 0, slots := 0, locals := 24 } : Room).cells ({ frames := 2, cells := 0, slots := 0, locals := 24 } : Room).slots (s₁.setTop (entryFrame m #[(.ref a), (.long pt_), (.int pm_)] 4))
  refine own_via (fun t k => castTop (ef_2 m a pt_ pm_) k) ?_
  have K0 : Keep h0 h0 [a] := Keep.refl _ _
  show own_Go p e below s _ _ _ (s₁.setTop (mkF m 0 #[.val (.ref a), .val (.long pt_), .second, .val (.int pm_)] []))
  refine own_via (fun _ k => XS.aloadN X0.here hx rfl (hb hby d2_0) rfl rfl k) ?_
  show own_Go p e below s _ _ _ (s₁.setTop (mkF m 1 #[.val (.ref a), .val (.long pt_), .second, .val (.int pm_)] [(.ref a)]))
  obtain ⟨_, _, ⟨T1, L1, k1, n1⟩, -, X1, ⟨Lc1, hQ1, l1, y1, z1⟩, st1⟩ := X0.specialBack hx (y := (⟨"java/lang/Record", "<init>", "()V"⟩ : MethodName)) rfl hown (mvT hZ (hw _ (List.mem_of_getElem? (i := 12) rfl))) (mvT hZ (hw _ (List.mem_of_getElem? (i := 13) rfl))) (mvT hZ (hw _ (List.mem_of_getElem? (i := 16) rfl))) (by decide) (backOf (W := 0) (rm3 l Z a0 hw [] a h0 n0 Z0 ) hZ (hw _ (List.mem_of_getElem? (i := 16) rfl)) (hw _ (List.mem_of_getElem? (i := 15) rfl)) (by decide) (by decide)) (g := (mkF m 1 #[.val (.ref a), .val (.long pt_), .second, .val (.int pm_)] [(.ref a)])) rfl (by rw [hml]; rfl) (Steps.refl _) (a := a) (argsL := []) (rest := []) (lenOf pd_0 rfl) rfl (by show 2 * 0 + _ ≤ _; exact Nat.le_of_eq rfl) (hb hby d2_1) (fun _ _ => ⟨rfl, e0, (by decide : 0 + 0 ≤ _), (by decide : 0 + 0 ≤ _)⟩)
  dsimp only [Pt.U, Pt.locs, Pt.cells, Pt.slots] at X1 l1 y1 z1 st1 hQ1
  subst l1 y1 z1
  obtain ⟨rfl, N1q, e1⟩ := hQ1
  have N1 := Fr.app N0 N1q
  refine own_viaT st1 ?_
  show own_Go p e below s _ _ _ (T1.setTop (mkF m 4 #[.val (.ref a), .val (.long pt_), .second, .val (.int pm_)] []))
  refine own_via (fun _ k => XS.lloadN X1.here hx rfl (hb hby d2_4) rfl k) ?_
  show own_Go p e below s _ _ _ (T1.setTop (mkF m 5 #[.val (.ref a), .val (.long pt_), .second, .val (.int pm_)] [(.long pt_)]))
  refine own_via (fun _ k => XS.lconst X1.here hx rfl (hb hby d2_5) k) ?_
  show own_Go p e below s _ _ _ (T1.setTop (mkF m 6 #[.val (.ref a), .val (.long pt_), .second, .val (.int pm_)] [(.long (0 : Int64)), (.long pt_)]))
  refine own_via (fun _ k => XS.lcmp X1.here hx rfl (hb hby d2_6) rfl k) ?_
  show own_Go p e below s _ _ _ (T1.setTop (mkF m 7 #[.val (.ref a), .val (.long pt_), .second, .val (.int pm_)] [(.int (lcmpW pt_ (0 : Int64)))]))
  have hc2 : ¬ (pt_ < (0 : Int64)) := hp4
  refine own_via (fun _ k => XS.ifYes X1.here hx rfl (pc0 := 7) (pc' := 24) rfl (hb hby d2_7) rfl (Jvm.Free.XT.ll_ge_t hc2) (by decide) (by decide) k) ?_
  show own_Go p e below s _ _ _ (T1.setTop (mkF m 24 #[.val (.ref a), .val (.long pt_), .second, .val (.int pm_)] []))
  refine own_via (fun _ k => XS.iloadN X1.here hx rfl (hb hby d2_24) rfl k) ?_
  show own_Go p e below s _ _ _ (T1.setTop (mkF m 25 #[.val (.ref a), .val (.long pt_), .second, .val (.int pm_)] [(.int pm_)]))
  refine own_via (fun _ k => XS.iconst X1.here hx rfl (hb hby d2_25) k) ?_
  show own_Go p e below s _ _ _ (T1.setTop (mkF m 26 #[.val (.ref a), .val (.long pt_), .second, .val (.int pm_)] [(.int (1 : Int32)), (.int pm_)]))
  have hc3 : ¬ (pm_ < (1 : Int32)) := hp5
  refine own_via (fun _ k => XS.icmpYes X1.here hx rfl (pc0 := 26) (pc' := 43) rfl (hb hby d2_26) rfl (Jvm.Free.XT.ii_ge_t hc3) (by decide) (by decide) k) ?_
  show own_Go p e below s _ _ _ (T1.setTop (mkF m 43 #[.val (.ref a), .val (.long pt_), .second, .val (.int pm_)] []))
  refine own_via (fun _ k => XS.aloadN X1.here hx rfl (hb hby d2_43) rfl rfl k) ?_
  show own_Go p e below s _ _ _ (T1.setTop (mkF m 44 #[.val (.ref a), .val (.long pt_), .second, .val (.int pm_)] [(.ref a)]))
  refine own_via (fun _ k => XS.lloadN X1.here hx rfl (hb hby d2_44) rfl k) ?_
  show own_Go p e below s _ _ _ (T1.setTop (mkF m 45 #[.val (.ref a), .val (.long pt_), .second, .val (.int pm_)] [(.long pt_), (.ref a)]))
  obtain ⟨T4, h4, X4, e4, W4, st4⟩ := putF X1 hx hZ hown (host := "") (Or.inl (hw _ (List.mem_of_getElem? (i := 20) rfl))) Via.refl e1 F_timestamp_a E_a (Or.inr ⟨(hw _ (List.mem_of_getElem? (i := 21) rfl)), rfl, hnm⟩) (hw _ (List.mem_of_getElem? (i := 7) rfl)) (ty := .long) (by decide) rfl rfl (g := (mkF m 45 #[.val (.ref a), .val (.long pt_), .second, .val (.int pm_)] [(.long pt_), (.ref a)])) rfl rfl (hb hby d2_45)
  have N4 := Fr.snoc X4 N1 g_a
  have Fw4 := F_timestamp_a.same W4
  have Z4 : n0 ≤ h4.size := Nat.le_trans Z0 (Keep.of_wr W4).1
  have K4 : Keep h0 h4 [a] := K0.wr W4 (Or.inl (List.mem_of_getElem? (i := 0) rfl))
  refine own_via st4 ?_
  show own_Go p e below s _ _ _ (T4.setTop (mkF m 48 #[.val (.ref a), .val (.long pt_), .second, .val (.int pm_)] []))
  refine own_via (fun _ k => XS.aloadN X4.here hx rfl (hb hby d2_48) rfl rfl k) ?_
  show own_Go p e below s _ _ _ (T4.setTop (mkF m 49 #[.val (.ref a), .val (.long pt_), .second, .val (.int pm_)] [(.ref a)]))
  refine own_via (fun _ k => XS.iloadN X4.here hx rfl (hb hby d2_49) rfl k) ?_
  show own_Go p e below s _ _ _ (T4.setTop (mkF m 50 #[.val (.ref a), .val (.long pt_), .second, .val (.int pm_)] [(.int pm_), (.ref a)]))
  have F5 := (E_a.wr W4)
  have F6 := (F_member_a.other W4 (Or.inr (slot_ne (Or.inr (hw _ (List.mem_of_getElem? (i := 23) rfl))) (Or.inr (hw _ (List.mem_of_getElem? (i := 21) rfl))) (by decide) (t := .int) (t' := .long) (by decide) (by decide))))
  obtain ⟨T7, h7, X7, e7, W7, st7⟩ := putF X4 hx hZ hown (host := "") (Or.inl (hw _ (List.mem_of_getElem? (i := 22) rfl))) Via.refl e4 F6 F5 (Or.inr ⟨(hw _ (List.mem_of_getElem? (i := 23) rfl)), rfl, hnm⟩) (hw _ (List.mem_of_getElem? (i := 7) rfl)) (ty := .int) (by decide) rfl rfl (g := (mkF m 50 #[.val (.ref a), .val (.long pt_), .second, .val (.int pm_)] [(.int pm_), (.ref a)])) rfl rfl (hb hby d2_50)
  have N7 := Fr.snoc X7 N4 g_a
  have Fw7 := F6.same W7
  have Z7 : n0 ≤ h7.size := Nat.le_trans Z4 (Keep.of_wr W7).1
  have K7 : Keep h0 h7 [a] := K4.wr W7 (Or.inl (List.mem_of_getElem? (i := 0) rfl))
  refine own_via st7 ?_
  show own_Go p e below s _ _ _ (T7.setTop (mkF m 53 #[.val (.ref a), .val (.long pt_), .second, .val (.int pm_)] []))
  have F8 := (F5.wr W7)
  have F9 := (Fw4.other W7 (Or.inr (slot_ne (Or.inr (hw _ (List.mem_of_getElem? (i := 21) rfl))) (Or.inr (hw _ (List.mem_of_getElem? (i := 23) rfl))) (by decide) (t := .long) (t' := .int) (by decide) (by decide))))
  exact own_goV X7 hx Bd.returns (hb hby d2_53) Bd.notSynchronized (by decide) (by decide) (by rw [e7]; exact ⟨rfl, N7, K7, F8, F9, Fw7⟩)
theorem d5_0 : decode prog_76_method_2_code 0 = .ok (.aload_n 0, 1) := by decide +kernel
theorem d5_1 : decode prog_76_method_2_code 1 = .ok (.getfield 25, 3) := by decide +kernel
theorem d5_4 : decode prog_76_method_2_code 4 = .ok (.aload_n 1, 1) := by decide +kernel
theorem d5_5 : decode prog_76_method_2_code 5 = .ok (.getfield 25, 3) := by decide +kernel
theorem d5_8 : decode prog_76_method_2_code 8 = .ok (.if_icmp .ne 19, 3) := by decide +kernel
theorem d5_11 : decode prog_76_method_2_code 11 = .ok (.aload_n 0, 1) := by decide +kernel
theorem d5_12 : decode prog_76_method_2_code 12 = .ok (.getfield 19, 3) := by decide +kernel
theorem d5_15 : decode prog_76_method_2_code 15 = .ok (.aload_n 1, 1) := by decide +kernel
theorem d5_16 : decode prog_76_method_2_code 16 = .ok (.getfield 19, 3) := by decide +kernel
theorem d5_19 : decode prog_76_method_2_code 19 = .ok (.lcmp, 1) := by decide +kernel
theorem d5_20 : decode prog_76_method_2_code 20 = .ok (.ifCond .le 7, 3) := by decide +kernel
theorem d5_23 : decode prog_76_method_2_code 23 = .ok (.iconst 1, 1) := by decide +kernel
theorem d5_24 : decode prog_76_method_2_code 24 = .ok (.goto 4, 3) := by decide +kernel
theorem d5_28 : decode prog_76_method_2_code 28 = .ok (.ireturn, 1) := by decide +kernel
theorem d5_27 : decode prog_76_method_2_code 27 = .ok (.iconst 0, 1) := by decide +kernel
def own_o (am : Int32) (at_ : Int64) (bm : Int32) (bt : Int64) : Int32 := (if am = bm then (if bt < at_ then (1 : Int32) else (0 : Int32)) else (0 : Int32))
theorem ef_5 (m : MethodId) (x0 : Addr) (x1 : Addr) : entryFrame m #[(.ref x0), (.ref x1)] 2 = mkF m 0 #[.val (.ref x0), .val (.ref x1)] [] := by first | (simp [entryFrame, mkF, argsToLocals, Value.category]; done) | rfl
def Q5 (Z : State) (a : Addr) (b : Addr) (am : Int32) (at_ : Int64) (bm : Int32) (bt : Int64) (h0 : Heap) (n0 : Nat) (v : Option Value) (h : Heap) (L : List Loc) : Prop := v = some (.int (own_o am at_ bm bt)) ∧ Fr n0 L ∧ h = h0
set_option maxRecDepth 65536 in
set_option maxHeartbeats 40000000 in
theorem rm5 (l : Launch) (Z : State) (a0 : Array Value) (hw : ∀ d ∈ tables_1, d.before a0 Z = true) (ws : List Jvm.Cond) (a : Addr) (b : Addr) (am : Int32) (at_ : Int64) (bm : Int32) (bt : Int64) (h0 : Heap) (n0 : Nat) (Z0 : n0 ≤ h0.size) (F_member_a : Fld Z h0 a "com/example/greenbelt/greenbelt/model/RequestId" "member" "I" (.int am)) (F_timestamp_a : Fld Z h0 a "com/example/greenbelt/greenbelt/model/RequestId" "timestamp" "J" (.long at_)) (F_member_b : Fld Z h0 b "com/example/greenbelt/greenbelt/model/RequestId" "member" "I" (.int bm)) (F_timestamp_b : Fld Z h0 b "com/example/greenbelt/greenbelt/model/RequestId" "timestamp" "J" (.long bt)) :
    MetFree l (⟨"com/example/greenbelt/greenbelt/model/RequestId", "outdates", "(Lcom/example/greenbelt/greenbelt/model/RequestId;)Z"⟩ : MethodName) (head1 (Jvm.Cond.code (⟨"com/example/greenbelt/greenbelt/model/RequestId", "outdates", "(Lcom/example/greenbelt/greenbelt/model/RequestId;)Z"⟩ : MethodName) prog_76_method_2_code 2 (some .boolean) :: ws) ({ frames := 0, cells := 0, slots := 0, locals := 0 } : Room)) (fun q_ U => q_ = #[(.ref a), (.ref b)] ∧ Z.Warmed39 U.vm ∧ U.heap = h0) (fun _ _ _ _ _ => True) (fun _ U o U' => ∃ v L, o = .returned v ∧ Q5 Z a b am at_ bm bt h0 n0 v U'.heap L ∧ FrameEnd U o U' L ({ frames := 0, cells := 0, slots := 0, locals := 0 } : Room).cells ({ frames := 0, cells := 0, slots := 0, locals := 0 } : Room).slots) := by
  refine MetFree.of_bodySF (plainFor_of_name pn_2) hisR ?_
  intro p e s m args below meth c s₁ Bd hml0 hP hK
  obtain ⟨rfl, hZ, hh⟩ := hP
  have hx := Bd.exec
  have hby := Bd.bytes
  have hml : c.maxLocals = 2 := hml0
  have hown : s.vm.findClass "com/example/greenbelt/greenbelt/model/RequestId" = some m.cls := findClass_of_methodNamed Bd.named
  have hnm := (name_of_methodNamed Bd.named Bd.method).1
  have X0 : Stand p l e ({ frames := 0, cells := 0, slots := 0, locals := 0 } : Room) s m #[(.ref a), (.ref b)] below meth c s₁ [] 0 0 := Stand.of_body Bd
  have e0 : s₁.heap = h0 := by rw [← hh, Bd.state]; rfl
  have N0 := Fr.nil n0
  show own_Go p e below s (Q5 Z a b am at_ bm bt h0 n0) ({ frames := 0, cells := 0, slots := 0, locals := 0 } : Room).cells ({ frames := 0, cells := 0, slots := 0, locals := 0 } : Room).slots (s₁.setTop (entryFrame m #[(.ref a), (.ref b)] 2))
  refine own_via (fun t k => castTop (ef_5 m a b) k) ?_
  show own_Go p e below s _ _ _ (s₁.setTop (mkF m 0 #[.val (.ref a), .val (.ref b)] []))
  refine own_via (fun _ k => XS.aloadN X0.here hx rfl (hb hby d5_0) rfl rfl k) ?_
  show own_Go p e below s _ _ _ (s₁.setTop (mkF m 1 #[.val (.ref a), .val (.ref b)] [(.ref a)]))
  obtain ⟨T1, X1, e1, st1⟩ := getF X0 hx hZ hown (host := "") (Or.inl (hw _ (List.mem_of_getElem? (i := 22) rfl))) Via.refl e0 F_member_a (g := (mkF m 1 #[.val (.ref a), .val (.ref b)] [(.ref a)])) rfl rfl (hb hby d5_1)
  refine own_via st1 ?_
  show own_Go p e below s _ _ _ (T1.setTop (mkF m 4 #[.val (.ref a), .val (.ref b)] [(.int am)]))
  refine own_via (fun _ k => XS.aloadN X1.here hx rfl (hb hby d5_4) rfl rfl k) ?_
  show own_Go p e below s _ _ _ (T1.setTop (mkF m 5 #[.val (.ref a), .val (.ref b)] [(.ref b), (.int am)]))
  obtain ⟨T2, X2, e2, st2⟩ := getF X1 hx hZ hown (host := "") (Or.inl (hw _ (List.mem_of_getElem? (i := 22) rfl))) Via.refl e1 F_member_b (g := (mkF m 5 #[.val (.ref a), .val (.ref b)] [(.ref b), (.int am)])) rfl rfl (hb hby d5_5)
  refine own_via st2 ?_
  show own_Go p e below s _ _ _ (T2.setTop (mkF m 8 #[.val (.ref a), .val (.ref b)] [(.int bm), (.int am)]))
  by_cases hc3 : am = bm
  · refine own_via (fun _ k => XS.icmpNo X2.here hx rfl (hb hby d5_8) rfl (Jvm.Free.XT.ii_ne_f hc3) k) ?_
    show own_Go p e below s _ _ _ (T2.setTop (mkF m 11 #[.val (.ref a), .val (.ref b)] []))
    refine own_via (fun _ k => XS.aloadN X2.here hx rfl (hb hby d5_11) rfl rfl k) ?_
    show own_Go p e below s _ _ _ (T2.setTop (mkF m 12 #[.val (.ref a), .val (.ref b)] [(.ref a)]))
    obtain ⟨T4, X4, e4, st4⟩ := getF X2 hx hZ hown (host := "") (Or.inl (hw _ (List.mem_of_getElem? (i := 20) rfl))) Via.refl e2 F_timestamp_a (g := (mkF m 12 #[.val (.ref a), .val (.ref b)] [(.ref a)])) rfl rfl (hb hby d5_12)
    refine own_via st4 ?_
    show own_Go p e below s _ _ _ (T4.setTop (mkF m 15 #[.val (.ref a), .val (.ref b)] [(.long at_)]))
    refine own_via (fun _ k => XS.aloadN X4.here hx rfl (hb hby d5_15) rfl rfl k) ?_
    show own_Go p e below s _ _ _ (T4.setTop (mkF m 16 #[.val (.ref a), .val (.ref b)] [(.ref b), (.long at_)]))
    obtain ⟨T5, X5, e5, st5⟩ := getF X4 hx hZ hown (host := "") (Or.inl (hw _ (List.mem_of_getElem? (i := 20) rfl))) Via.refl e4 F_timestamp_b (g := (mkF m 16 #[.val (.ref a), .val (.ref b)] [(.ref b), (.long at_)])) rfl rfl (hb hby d5_16)
    refine own_via st5 ?_
    show own_Go p e below s _ _ _ (T5.setTop (mkF m 19 #[.val (.ref a), .val (.ref b)] [(.long bt), (.long at_)]))
    refine own_via (fun _ k => XS.lcmp X5.here hx rfl (hb hby d5_19) rfl k) ?_
    show own_Go p e below s _ _ _ (T5.setTop (mkF m 20 #[.val (.ref a), .val (.ref b)] [(.int (lcmpW at_ bt))]))
    by_cases hc6 : bt < at_
    · refine own_via (fun _ k => XS.ifNo X5.here hx rfl (hb hby d5_20) rfl (Jvm.Free.XT.ll_le_f hc6) k) ?_
      show own_Go p e below s _ _ _ (T5.setTop (mkF m 23 #[.val (.ref a), .val (.ref b)] []))
      refine own_via (fun _ k => XS.iconst X5.here hx rfl (hb hby d5_23) k) ?_
      show own_Go p e below s _ _ _ (T5.setTop (mkF m 24 #[.val (.ref a), .val (.ref b)] [(.int (1 : Int32))]))
      refine own_via (fun _ k => XS.goto X5.here hx rfl (pc0 := 24) (pc' := 28) rfl (hb hby d5_24) (by decide) (by decide) k) ?_
      show own_Go p e below s _ _ _ (T5.setTop (mkF m 28 #[.val (.ref a), .val (.ref b)] [(.int (1 : Int32))]))
      exact own_goN X5 hx (t := .boolean) Bd.returns (by simp) (hb hby d5_28) Bd.notSynchronized (by decide) (by decide) (by rw [e5]; exact ⟨by rw [own_o, if_pos hc3, if_pos hc6] <;> rfl, N0, rfl⟩)
    · refine own_via (fun _ k => XS.ifYes X5.here hx rfl (pc0 := 20) (pc' := 27) rfl (hb hby d5_20) rfl (Jvm.Free.XT.ll_le_t hc6) (by decide) (by decide) k) ?_
      show own_Go p e below s _ _ _ (T5.setTop (mkF m 27 #[.val (.ref a), .val (.ref b)] []))
      refine own_via (fun _ k => XS.iconst X5.here hx rfl (hb hby d5_27) k) ?_
      show own_Go p e below s _ _ _ (T5.setTop (mkF m 28 #[.val (.ref a), .val (.ref b)] [(.int (0 : Int32))]))
      exact own_goN X5 hx (t := .boolean) Bd.returns (by simp) (hb hby d5_28) Bd.notSynchronized (by decide) (by decide) (by rw [e5]; exact ⟨by rw [own_o, if_pos hc3, if_neg hc6] <;> rfl, N0, rfl⟩)
  · refine own_via (fun _ k => XS.icmpYes X2.here hx rfl (pc0 := 8) (pc' := 27) rfl (hb hby d5_8) rfl (Jvm.Free.XT.ii_ne_t hc3) (by decide) (by decide) k) ?_
    show own_Go p e below s _ _ _ (T2.setTop (mkF m 27 #[.val (.ref a), .val (.ref b)] []))
    refine own_via (fun _ k => XS.iconst X2.here hx rfl (hb hby d5_27) k) ?_
    show own_Go p e below s _ _ _ (T2.setTop (mkF m 28 #[.val (.ref a), .val (.ref b)] [(.int (0 : Int32))]))
    exact own_goN X2 hx (t := .boolean) Bd.returns (by simp) (hb hby d5_28) Bd.notSynchronized (by decide) (by decide) (by rw [e2]; exact ⟨by rw [own_o, if_neg hc3] <;> rfl, N0, rfl⟩)

theorem own_nn (x : Int64) : ¬ (x &&& (9223372036854775807 : Int64)) < (0 : Int64) := by
  have h := (c_andSL x 9223372036854775807).2.2 (by decide)
  rw [Int64.lt_iff_toInt_lt]; simp only [Int64.reduceToInt]; omega
theorem own_tt {v7 v9 : Int64} {f : Int32} (h7 : ¬ v7 < (0 : Int64)) (h9 : ¬ v9 < (0 : Int64)) : ¬ (if f = (1 : Int32) then v7 else (if f = (2 : Int32) then (if v7 < (9223372036854775807 : Int64) then (v7 + (1 : Int64)) else v7) else (if f = (3 : Int32) then (if (0 : Int64) < v7 then (v7 - (1 : Int64)) else v7) else v9))) < (0 : Int64) := by
  have a1 := c_ladd v7 1; have a2 := c_lsub v7 1; have r1 := rng64 (v7 + 1); have r2 := rng64 (v7 - 1); have r3 := rng64 v7
  (repeat' split) <;> simp only [Int64.lt_iff_toInt_lt, Int64.reduceToInt] at * <;> omega
theorem own_mm (x : Int32) : ¬ own_m x < (1 : Int32) := by
  have h := (c_andS x 2147483647).2.2 (by decide)
  unfold own_m
  split <;> simp only [Int32.lt_iff_toInt_lt, ← Int32.toInt_inj, Int32.reduceToInt] at * <;> omega
theorem own_m2 {a b f : Int32} (h1 : ¬ a < (1 : Int32)) (h2 : ¬ b < (1 : Int32)) : ¬ (if f = (0 : Int32) then a else (if f = (2 : Int32) then (if a < (2147483647 : Int32) then (a + (1 : Int32)) else (a - (1 : Int32))) else (if f = (3 : Int32) then (if (1 : Int32) < a then (a - (1 : Int32)) else (a + (1 : Int32))) else b))) < (1 : Int32) := by
  have a1 := c_iadd a 1; have a2 := c_isub a 1; have r1 := rng32 (a + 1); have r2 := rng32 (a - 1); have r3 := rng32 a
  (repeat' split) <;> simp only [Int32.lt_iff_toInt_lt, Int32.reduceToInt] at * <;> omega
theorem own_p1 {m1 m2 v17 v20 v21 : Int32} {tt te : Int64} (h17 : own_o m1 tt m2 te = v17) (h20 : (if m1 = m2 then (1 : Int32) else (0 : Int32)) = v20) (h21 : (if v20 = (0 : Int32) then (0 : Int32) else (if te < tt then (1 : Int32) else (0 : Int32))) = v21) : v17 = v21 := by
  subst h17 h21 h20
  unfold own_o
  by_cases h : m1 = m2 <;> simp [h]
theorem own_p2 {m1 m2 v17 v20 v21 : Int32} {tt te : Int64} (h17 : own_o m2 tt m1 te = v17) (h20 : (if m1 = m2 then (1 : Int32) else (0 : Int32)) = v20) (h21 : (if v20 = (0 : Int32) then (0 : Int32) else (if te < tt then (1 : Int32) else (0 : Int32))) = v21) : v17 = v21 := by
  subst h17 h21 h20
  unfold own_o
  by_cases h : m1 = m2
  · simp [h]
  · simp [h, Ne.symm h]
theorem own_p3 {m1 v : Int32} {tt : Int64} (h : own_o m1 tt m1 tt = v) : v = (0 : Int32) := by
  subst h; unfold own_o; simp [Int64.lt_irrefl]

theorem pd_1 : parseMethodDescriptor "(I)I" = some ⟨[.int], some .int⟩ := by decide +kernel
theorem pd_2 : parseMethodDescriptor "(JI)V" = some ⟨[.long, .int], none⟩ := by decide +kernel
theorem pd_3 : parseMethodDescriptor "(Lcom/example/greenbelt/greenbelt/model/RequestId;)Z" = some ⟨[(.object "com/example/greenbelt/greenbelt/model/RequestId")], some .boolean⟩ := by decide +kernel
theorem ef_0 (m : MethodId) (x0 : Int64) (x1 : Int64) (x2 : Int32) (x3 : Int32) (x4 : Int32) : entryFrame m #[(.long x0), (.long x1), (.int x2), (.int x3), (.int x4)] maxLocals = mkF m 0 #[.val (.long x0), .second, .val (.long x1), .second, .val (.int x2), .val (.int x3), .val (.int x4), .unset, .unset, .unset, .unset, .unset, .unset, .unset, .unset, .unset, .unset, .unset, .unset, .unset, .unset, .unset, .unset] [] := by first | (simp [entryFrame, mkF, argsToLocals, Value.category, maxLocals]; done) | rfl
def Q0 (Z : State) (p0 : Int64) (p1 : Int64) (p2 : Int32) (p3 : Int32) (p4 : Int32) (h0 : Heap) (n0 : Nat) (v : Option Value) (h : Heap) (L : List Loc) : Prop := v = some (.int 1) ∧ Fr n0 L
set_option maxRecDepth 65536 in
set_option maxHeartbeats 40000000 in
theorem rm0 (l : Launch) (Z : State) (a0 : Array Value) (hw : ∀ d ∈ tables_1, d.before a0 Z = true) (ws : List Jvm.Cond) (p0 : Int64) (p1 : Int64) (p2 : Int32) (p3 : Int32) (p4 : Int32) (h0 : Heap) (n0 : Nat) (Z0 : n0 ≤ h0.size) :
    MetFree l x (head1 (Jvm.Cond.code x code maxLocals ret :: ws) room_1) (fun q_ U => q_ = #[(.long p0), (.long p1), (.int p2), (.int p3), (.int p4)] ∧ Z.Warmed39 U.vm ∧ U.heap = h0) (fun _ _ _ _ _ => True) (fun _ U o U' => ∃ v L, o = .returned v ∧ Q0 Z p0 p1 p2 p3 p4 h0 n0 v U'.heap L ∧ FrameEnd U o U' L room_1.cells room_1.slots) := by
  refine MetFree.of_bodySF (plainFor_of_name pn_0) hisR ?_
  intro p e s m args below meth c s₁ Bd hml0 hP hK
  obtain ⟨rfl, hZ, hh⟩ := hP
  have hx := Bd.exec
  have hby := Bd.bytes
  have hml : c.maxLocals = 23 := hml0
  have hown : s.vm.findClass "com/example/greenbelt/greenbelt/model/RequestIdOutdatesPinLaw" = some m.cls := findClass_of_methodNamed Bd.named
  have hnm := (name_of_methodNamed Bd.named Bd.method).1
  have X0 : Stand p l e room_1 s m #[(.long p0), (.long p1), (.int p2), (.int p3), (.int p4)] below meth c s₁ [] 0 0 := Stand.of_body Bd
  have e0 : s₁.heap = h0 := by rw [← hh, Bd.state]; rfl
  have N0 := Fr.nil n0
  show own_Go p e below s (Q0 Z p0 p1 p2 p3 p4 h0 n0) room_1.cells room_1.slots (s₁.setTop (entryFrame m #[(.long p0), (.long p1), (.int p2), (.int p3), (.int p4)] maxLocals))
  refine own_via (fun t k => castTop (ef_0 m p0 p1 p2 p3 p4) k) ?_
  show own_Go p e below s _ _ _ (s₁.setTop (mkF m 0 #[.val (.long p0), .second, .val (.long p1), .second, .val (.int p2), .val (.int p3), .val (.int p4), .unset, .unset, .unset, .unset, .unset, .unset, .unset, .unset, .unset, .unset, .unset, .unset, .unset, .unset, .unset, .unset] []))
  refine own_via (fun _ k => XS.lloadN X0.here hx rfl (hb hby at_0) rfl k) ?_
  show own_Go p e below s _ _ _ (s₁.setTop (mkF m 1 #[.val (.long p0), .second, .val (.long p1), .second, .val (.int p2), .val (.int p3), .val (.int p4), .unset, .unset, .unset, .unset, .unset, .unset, .unset, .unset, .unset, .unset, .unset, .unset, .unset, .unset, .unset, .unset] [(.long p0)]))
  refine own_via (fun _ k => X0.ldc2Long hx hown (mvT hZ (hw _ (List.mem_of_getElem? (i := 0) rfl))) (g := (mkF m 1 #[.val (.long p0), .second, .val (.long p1), .second, .val (.int p2), .val (.int p3), .val (.int p4), .unset, .unset, .unset, .unset, .unset, .unset, .unset, .unset, .unset, .unset, .unset, .unset, .unset, .unset, .unset, .unset] [(.long p0)])) rfl (hb hby at_1) _ k) ?_
  show own_Go p e below s _ _ _ (s₁.setTop (mkF m 4 #[.val (.long p0), .second, .val (.long p1), .second, .val (.int p2), .val (.int p3), .val (.int p4), .unset, .unset, .unset, .unset, .unset, .unset, .unset, .unset, .unset, .unset, .unset, .unset, .unset, .unset, .unset, .unset] [(.long (9223372036854775807 : Int64)), (.long p0)]))
  refine own_via (fun _ k => XS.land X0.here hx rfl (hb hby at_4) rfl k) ?_
  show own_Go p e below s _ _ _ (s₁.setTop (mkF m 5 #[.val (.long p0), .second, .val (.long p1), .second, .val (.int p2), .val (.int p3), .val (.int p4), .unset, .unset, .unset, .unset, .unset, .unset, .unset, .unset, .unset, .unset, .unset, .unset, .unset, .unset, .unset, .unset] [(.long (p0 &&& (9223372036854775807 : Int64)))]))
  refine own_via (fun _ k => XS.lstore X0.here hx rfl (hb hby at_5) rfl (l' := #[.val (.long p0), .second, .val (.long p1), .second, .val (.int p2), .val (.int p3), .val (.int p4), .val (.long (p0 &&& (9223372036854775807 : Int64))), .second, .unset, .unset, .unset, .unset, .unset, .unset, .unset, .unset, .unset, .unset, .unset, .unset, .unset, .unset]) rfl k) ?_
  show own_Go p e below s _ _ _ (s₁.setTop (mkF m 7 #[.val (.long p0), .second, .val (.long p1), .second, .val (.int p2), .val (.int p3), .val (.int p4), .val (.long (p0 &&& (9223372036854775807 : Int64))), .second, .unset, .unset, .unset, .unset, .unset, .unset, .unset, .unset, .unset, .unset, .unset, .unset, .unset, .unset] []))
  generalize hv1 : (p0 &&& (9223372036854775807 : Int64)) = v1
  show own_Go p e below s _ _ _ (s₁.setTop (mkF m 7 #[.val (.long p0), .second, .val (.long p1), .second, .val (.int p2), .val (.int p3), .val (.int p4), .val (.long v1), .second, .unset, .unset, .unset, .unset, .unset, .unset, .unset, .unset, .unset, .unset, .unset, .unset, .unset, .unset] []))
  refine own_via (fun _ k => XS.lloadN X0.here hx rfl (hb hby at_7) rfl k) ?_
  show own_Go p e below s _ _ _ (s₁.setTop (mkF m 8 #[.val (.long p0), .second, .val (.long p1), .second, .val (.int p2), .val (.int p3), .val (.int p4), .val (.long v1), .second, .unset, .unset, .unset, .unset, .unset, .unset, .unset, .unset, .unset, .unset, .unset, .unset, .unset, .unset] [(.long p1)]))
  refine own_via (fun _ k => X0.ldc2Long hx hown (mvT hZ (hw _ (List.mem_of_getElem? (i := 0) rfl))) (g := (mkF m 8 #[.val (.long p0), .second, .val (.long p1), .second, .val (.int p2), .val (.int p3), .val (.int p4), .val (.long v1), .second, .unset, .unset, .unset, .unset, .unset, .unset, .unset, .unset, .unset, .unset, .unset, .unset, .unset, .unset] [(.long p1)])) rfl (hb hby at_8) _ k) ?_
  show own_Go p e below s _ _ _ (s₁.setTop (mkF m 11 #[.val (.long p0), .second, .val (.long p1), .second, .val (.int p2), .val (.int p3), .val (.int p4), .val (.long v1), .second, .unset, .unset, .unset, .unset, .unset, .unset, .unset, .unset, .unset, .unset, .unset, .unset, .unset, .unset] [(.long (9223372036854775807 : Int64)), (.long p1)]))
  refine own_via (fun _ k => XS.land X0.here hx rfl (hb hby at_11) rfl k) ?_
  show own_Go p e below s _ _ _ (s₁.setTop (mkF m 12 #[.val (.long p0), .second, .val (.long p1), .second, .val (.int p2), .val (.int p3), .val (.int p4), .val (.long v1), .second, .unset, .unset, .unset, .unset, .unset, .unset, .unset, .unset, .unset, .unset, .unset, .unset, .unset, .unset] [(.long (p1 &&& (9223372036854775807 : Int64)))]))
  refine own_via (fun _ k => XS.lstore X0.here hx rfl (hb hby at_12) rfl (l' := #[.val (.long p0), .second, .val (.long p1), .second, .val (.int p2), .val (.int p3), .val (.int p4), .val (.long v1), .second, .val (.long (p1 &&& (9223372036854775807 : Int64))), .second, .unset, .unset, .unset, .unset, .unset, .unset, .unset, .unset, .unset, .unset, .unset, .unset]) rfl k) ?_
  show own_Go p e below s _ _ _ (s₁.setTop (mkF m 14 #[.val (.long p0), .second, .val (.long p1), .second, .val (.int p2), .val (.int p3), .val (.int p4), .val (.long v1), .second, .val (.long (p1 &&& (9223372036854775807 : Int64))), .second, .unset, .unset, .unset, .unset, .unset, .unset, .unset, .unset, .unset, .unset, .unset, .unset] []))
  generalize hv2 : (p1 &&& (9223372036854775807 : Int64)) = v2
  show own_Go p e below s _ _ _ (s₁.setTop (mkF m 14 #[.val (.long p0), .second, .val (.long p1), .second, .val (.int p2), .val (.int p3), .val (.int p4), .val (.long v1), .second, .val (.long v2), .second, .unset, .unset, .unset, .unset, .unset, .unset, .unset, .unset, .unset, .unset, .unset, .unset] []))
  refine own_via (fun _ k => XS.iload X0.here hx rfl (hb hby at_14) rfl k) ?_
  show own_Go p e below s _ _ _ (s₁.setTop (mkF m 16 #[.val (.long p0), .second, .val (.long p1), .second, .val (.int p2), .val (.int p3), .val (.int p4), .val (.long v1), .second, .val (.long v2), .second, .unset, .unset, .unset, .unset, .unset, .unset, .unset, .unset, .unset, .unset, .unset, .unset] [(.int p4)]))
  refine own_via (fun _ k => XS.iconst X0.here hx rfl (hb hby at_16) k) ?_
  show own_Go p e below s _ _ _ (s₁.setTop (mkF m 17 #[.val (.long p0), .second, .val (.long p1), .second, .val (.int p2), .val (.int p3), .val (.int p4), .val (.long v1), .second, .val (.long v2), .second, .unset, .unset, .unset, .unset, .unset, .unset, .unset, .unset, .unset, .unset, .unset, .unset] [(.int (3 : Int32)), (.int p4)]))
  refine own_via (fun _ k => XS.iand X0.here hx rfl (hb hby at_17) rfl k) ?_
  show own_Go p e below s _ _ _ (s₁.setTop (mkF m 18 #[.val (.long p0), .second, .val (.long p1), .second, .val (.int p2), .val (.int p3), .val (.int p4), .val (.long v1), .second, .val (.long v2), .second, .unset, .unset, .unset, .unset, .unset, .unset, .unset, .unset, .unset, .unset, .unset, .unset] [(.int (p4 &&& (3 : Int32)))]))
  refine own_via (fun _ k => XS.istore X0.here hx rfl (hb hby at_18) rfl (l' := #[.val (.long p0), .second, .val (.long p1), .second, .val (.int p2), .val (.int p3), .val (.int p4), .val (.long v1), .second, .val (.long v2), .second, .val (.int (p4 &&& (3 : Int32))), .unset, .unset, .unset, .unset, .unset, .unset, .unset, .unset, .unset, .unset, .unset]) rfl k) ?_
  show own_Go p e below s _ _ _ (s₁.setTop (mkF m 20 #[.val (.long p0), .second, .val (.long p1), .second, .val (.int p2), .val (.int p3), .val (.int p4), .val (.long v1), .second, .val (.long v2), .second, .val (.int (p4 &&& (3 : Int32))), .unset, .unset, .unset, .unset, .unset, .unset, .unset, .unset, .unset, .unset, .unset] []))
  generalize hv3 : (p4 &&& (3 : Int32)) = v3
  show own_Go p e below s _ _ _ (s₁.setTop (mkF m 20 #[.val (.long p0), .second, .val (.long p1), .second, .val (.int p2), .val (.int p3), .val (.int p4), .val (.long v1), .second, .val (.long v2), .second, .val (.int v3), .unset, .unset, .unset, .unset, .unset, .unset, .unset, .unset, .unset, .unset, .unset] []))
  have st4 : ∀ t, Steps p.tables e below (s₁.setTop (mkF m 86 #[.val (.long p0), .second, .val (.long p1), .second, .val (.int p2), .val (.int p3), .val (.int p4), .val (.long v1), .second, .val (.long (if v3 = (1 : Int32) then v1 else (if v3 = (2 : Int32) then (if v1 < (9223372036854775807 : Int64) then (v1 + (1 : Int64)) else v1) else (if v3 = (3 : Int32) then (if (0 : Int64) < v1 then (v1 - (1 : Int64)) else v1) else v2)))), .second, .val (.int v3), .unset, .unset, .unset, .unset, .unset, .unset, .unset, .unset, .unset, .unset, .unset] [])) t → Steps p.tables e below (s₁.setTop (mkF m 20 #[.val (.long p0), .second, .val (.long p1), .second, .val (.int p2), .val (.int p3), .val (.int p4), .val (.long v1), .second, .val (.long v2), .second, .val (.int v3), .unset, .unset, .unset, .unset, .unset, .unset, .unset, .unset, .unset, .unset, .unset] [])) t := by
    intro t k
    refine XS.iload X0.here hx rfl (hb hby at_20) rfl ?_
    show Steps p.tables e below (s₁.setTop (mkF m 22 #[.val (.long p0), .second, .val (.long p1), .second, .val (.int p2), .val (.int p3), .val (.int p4), .val (.long v1), .second, .val (.long v2), .second, .val (.int v3), .unset, .unset, .unset, .unset, .unset, .unset, .unset, .unset, .unset, .unset, .unset] [(.int v3)])) t
    refine XS.iconst X0.here hx rfl (hb hby at_22) ?_
    show Steps p.tables e below (s₁.setTop (mkF m 23 #[.val (.long p0), .second, .val (.long p1), .second, .val (.int p2), .val (.int p3), .val (.int p4), .val (.long v1), .second, .val (.long v2), .second, .val (.int v3), .unset, .unset, .unset, .unset, .unset, .unset, .unset, .unset, .unset, .unset, .unset] [(.int (1 : Int32)), (.int v3)])) t
    by_cases hq5 : v3 = (1 : Int32)
    · refine XS.icmpNo X0.here hx rfl (hb hby at_23) rfl (Jvm.Free.XT.ii_ne_f hq5) ?_
      show Steps p.tables e below (s₁.setTop (mkF m 26 #[.val (.long p0), .second, .val (.long p1), .second, .val (.int p2), .val (.int p3), .val (.int p4), .val (.long v1), .second, .val (.long v2), .second, .val (.int v3), .unset, .unset, .unset, .unset, .unset, .unset, .unset, .unset, .unset, .unset, .unset] [])) t
      refine XS.lload X0.here hx rfl (hb hby at_26) rfl ?_
      show Steps p.tables e below (s₁.setTop (mkF m 28 #[.val (.long p0), .second, .val (.long p1), .second, .val (.int p2), .val (.int p3), .val (.int p4), .val (.long v1), .second, .val (.long v2), .second, .val (.int v3), .unset, .unset, .unset, .unset, .unset, .unset, .unset, .unset, .unset, .unset, .unset] [(.long v1)])) t
      refine XS.lstore X0.here hx rfl (hb hby at_28) rfl (l' := #[.val (.long p0), .second, .val (.long p1), .second, .val (.int p2), .val (.int p3), .val (.int p4), .val (.long v1), .second, .val (.long v1), .second, .val (.int v3), .unset, .unset, .unset, .unset, .unset, .unset, .unset, .unset, .unset, .unset, .unset]) rfl ?_
      show Steps p.tables e below (s₁.setTop (mkF m 30 #[.val (.long p0), .second, .val (.long p1), .second, .val (.int p2), .val (.int p3), .val (.int p4), .val (.long v1), .second, .val (.long v1), .second, .val (.int v3), .unset, .unset, .unset, .unset, .unset, .unset, .unset, .unset, .unset, .unset, .unset] [])) t
      refine XS.goto X0.here hx rfl (pc0 := 30) (pc' := 86) rfl (hb hby at_30) (by decide) (by decide) ?_
      show Steps p.tables e below (s₁.setTop (mkF m 86 #[.val (.long p0), .second, .val (.long p1), .second, .val (.int p2), .val (.int p3), .val (.int p4), .val (.long v1), .second, .val (.long v1), .second, .val (.int v3), .unset, .unset, .unset, .unset, .unset, .unset, .unset, .unset, .unset, .unset, .unset] [])) t
      simp only [if_pos hq5] at k
      exact k
    · refine XS.icmpYes X0.here hx rfl (pc0 := 23) (pc' := 33) rfl (hb hby at_23) rfl (Jvm.Free.XT.ii_ne_t hq5) (by decide) (by decide) ?_
      show Steps p.tables e below (s₁.setTop (mkF m 33 #[.val (.long p0), .second, .val (.long p1), .second, .val (.int p2), .val (.int p3), .val (.int p4), .val (.long v1), .second, .val (.long v2), .second, .val (.int v3), .unset, .unset, .unset, .unset, .unset, .unset, .unset, .unset, .unset, .unset, .unset] [])) t
      refine XS.iload X0.here hx rfl (hb hby at_33) rfl ?_
      show Steps p.tables e below (s₁.setTop (mkF m 35 #[.val (.long p0), .second, .val (.long p1), .second, .val (.int p2), .val (.int p3), .val (.int p4), .val (.long v1), .second, .val (.long v2), .second, .val (.int v3), .unset, .unset, .unset, .unset, .unset, .unset, .unset, .unset, .unset, .unset, .unset] [(.int v3)])) t
      refine XS.iconst X0.here hx rfl (hb hby at_35) ?_
      show Steps p.tables e below (s₁.setTop (mkF m 36 #[.val (.long p0), .second, .val (.long p1), .second, .val (.int p2), .val (.int p3), .val (.int p4), .val (.long v1), .second, .val (.long v2), .second, .val (.int v3), .unset, .unset, .unset, .unset, .unset, .unset, .unset, .unset, .unset, .unset, .unset] [(.int (2 : Int32)), (.int v3)])) t
      by_cases hq6 : v3 = (2 : Int32)
      · refine XS.icmpNo X0.here hx rfl (hb hby at_36) rfl (Jvm.Free.XT.ii_ne_f hq6) ?_
        show Steps p.tables e below (s₁.setTop (mkF m 39 #[.val (.long p0), .second, .val (.long p1), .second, .val (.int p2), .val (.int p3), .val (.int p4), .val (.long v1), .second, .val (.long v2), .second, .val (.int v3), .unset, .unset, .unset, .unset, .unset, .unset, .unset, .unset, .unset, .unset, .unset] [])) t
        refine XS.lload X0.here hx rfl (hb hby at_39) rfl ?_
        show Steps p.tables e below (s₁.setTop (mkF m 41 #[.val (.long p0), .second, .val (.long p1), .second, .val (.int p2), .val (.int p3), .val (.int p4), .val (.long v1), .second, .val (.long v2), .second, .val (.int v3), .unset, .unset, .unset, .unset, .unset, .unset, .unset, .unset, .unset, .unset, .unset] [(.long v1)])) t
        refine X0.ldc2Long hx hown (mvT hZ (hw _ (List.mem_of_getElem? (i := 0) rfl))) (g := (mkF m 41 #[.val (.long p0), .second, .val (.long p1), .second, .val (.int p2), .val (.int p3), .val (.int p4), .val (.long v1), .second, .val (.long v2), .second, .val (.int v3), .unset, .unset, .unset, .unset, .unset, .unset, .unset, .unset, .unset, .unset, .unset] [(.long v1)])) rfl (hb hby at_41) _ ?_
        show Steps p.tables e below (s₁.setTop (mkF m 44 #[.val (.long p0), .second, .val (.long p1), .second, .val (.int p2), .val (.int p3), .val (.int p4), .val (.long v1), .second, .val (.long v2), .second, .val (.int v3), .unset, .unset, .unset, .unset, .unset, .unset, .unset, .unset, .unset, .unset, .unset] [(.long (9223372036854775807 : Int64)), (.long v1)])) t
        refine XS.lcmp X0.here hx rfl (hb hby at_44) rfl ?_
        show Steps p.tables e below (s₁.setTop (mkF m 45 #[.val (.long p0), .second, .val (.long p1), .second, .val (.int p2), .val (.int p3), .val (.int p4), .val (.long v1), .second, .val (.long v2), .second, .val (.int v3), .unset, .unset, .unset, .unset, .unset, .unset, .unset, .unset, .unset, .unset, .unset] [(.int (lcmpW v1 (9223372036854775807 : Int64)))])) t
        by_cases hq7 : v1 < (9223372036854775807 : Int64)
        · refine XS.ifNo X0.here hx rfl (hb hby at_45) rfl (Jvm.Free.XT.ll_ge_f hq7) ?_
          show Steps p.tables e below (s₁.setTop (mkF m 48 #[.val (.long p0), .second, .val (.long p1), .second, .val (.int p2), .val (.int p3), .val (.int p4), .val (.long v1), .second, .val (.long v2), .second, .val (.int v3), .unset, .unset, .unset, .unset, .unset, .unset, .unset, .unset, .unset, .unset, .unset] [])) t
          refine XS.lload X0.here hx rfl (hb hby at_48) rfl ?_
          show Steps p.tables e below (s₁.setTop (mkF m 50 #[.val (.long p0), .second, .val (.long p1), .second, .val (.int p2), .val (.int p3), .val (.int p4), .val (.long v1), .second, .val (.long v2), .second, .val (.int v3), .unset, .unset, .unset, .unset, .unset, .unset, .unset, .unset, .unset, .unset, .unset] [(.long v1)])) t
          refine XS.lconst X0.here hx rfl (hb hby at_50) ?_
          show Steps p.tables e below (s₁.setTop (mkF m 51 #[.val (.long p0), .second, .val (.long p1), .second, .val (.int p2), .val (.int p3), .val (.int p4), .val (.long v1), .second, .val (.long v2), .second, .val (.int v3), .unset, .unset, .unset, .unset, .unset, .unset, .unset, .unset, .unset, .unset, .unset] [(.long (1 : Int64)), (.long v1)])) t
          refine XS.ladd X0.here hx rfl (hb hby at_51) rfl ?_
          show Steps p.tables e below (s₁.setTop (mkF m 52 #[.val (.long p0), .second, .val (.long p1), .second, .val (.int p2), .val (.int p3), .val (.int p4), .val (.long v1), .second, .val (.long v2), .second, .val (.int v3), .unset, .unset, .unset, .unset, .unset, .unset, .unset, .unset, .unset, .unset, .unset] [(.long (v1 + (1 : Int64)))])) t
          refine XS.goto X0.here hx rfl (pc0 := 52) (pc' := 57) rfl (hb hby at_52) (by decide) (by decide) ?_
          show Steps p.tables e below (s₁.setTop (mkF m 57 #[.val (.long p0), .second, .val (.long p1), .second, .val (.int p2), .val (.int p3), .val (.int p4), .val (.long v1), .second, .val (.long v2), .second, .val (.int v3), .unset, .unset, .unset, .unset, .unset, .unset, .unset, .unset, .unset, .unset, .unset] [(.long (v1 + (1 : Int64)))])) t
          refine XS.lstore X0.here hx rfl (hb hby at_57) rfl (l' := #[.val (.long p0), .second, .val (.long p1), .second, .val (.int p2), .val (.int p3), .val (.int p4), .val (.long v1), .second, .val (.long (v1 + (1 : Int64))), .second, .val (.int v3), .unset, .unset, .unset, .unset, .unset, .unset, .unset, .unset, .unset, .unset, .unset]) rfl ?_
          show Steps p.tables e below (s₁.setTop (mkF m 59 #[.val (.long p0), .second, .val (.long p1), .second, .val (.int p2), .val (.int p3), .val (.int p4), .val (.long v1), .second, .val (.long (v1 + (1 : Int64))), .second, .val (.int v3), .unset, .unset, .unset, .unset, .unset, .unset, .unset, .unset, .unset, .unset, .unset] [])) t
          refine XS.goto X0.here hx rfl (pc0 := 59) (pc' := 86) rfl (hb hby at_59) (by decide) (by decide) ?_
          show Steps p.tables e below (s₁.setTop (mkF m 86 #[.val (.long p0), .second, .val (.long p1), .second, .val (.int p2), .val (.int p3), .val (.int p4), .val (.long v1), .second, .val (.long (v1 + (1 : Int64))), .second, .val (.int v3), .unset, .unset, .unset, .unset, .unset, .unset, .unset, .unset, .unset, .unset, .unset] [])) t
          simp only [if_neg hq5, if_pos hq6, if_pos hq7] at k
          exact k
        · refine XS.ifYes X0.here hx rfl (pc0 := 45) (pc' := 55) rfl (hb hby at_45) rfl (Jvm.Free.XT.ll_ge_t hq7) (by decide) (by decide) ?_
          show Steps p.tables e below (s₁.setTop (mkF m 55 #[.val (.long p0), .second, .val (.long p1), .second, .val (.int p2), .val (.int p3), .val (.int p4), .val (.long v1), .second, .val (.long v2), .second, .val (.int v3), .unset, .unset, .unset, .unset, .unset, .unset, .unset, .unset, .unset, .unset, .unset] [])) t
          refine XS.lload X0.here hx rfl (hb hby at_55) rfl ?_
          show Steps p.tables e below (s₁.setTop (mkF m 57 #[.val (.long p0), .second, .val (.long p1), .second, .val (.int p2), .val (.int p3), .val (.int p4), .val (.long v1), .second, .val (.long v2), .second, .val (.int v3), .unset, .unset, .unset, .unset, .unset, .unset, .unset, .unset, .unset, .unset, .unset] [(.long v1)])) t
          refine XS.lstore X0.here hx rfl (hb hby at_57) rfl (l' := #[.val (.long p0), .second, .val (.long p1), .second, .val (.int p2), .val (.int p3), .val (.int p4), .val (.long v1), .second, .val (.long v1), .second, .val (.int v3), .unset, .unset, .unset, .unset, .unset, .unset, .unset, .unset, .unset, .unset, .unset]) rfl ?_
          show Steps p.tables e below (s₁.setTop (mkF m 59 #[.val (.long p0), .second, .val (.long p1), .second, .val (.int p2), .val (.int p3), .val (.int p4), .val (.long v1), .second, .val (.long v1), .second, .val (.int v3), .unset, .unset, .unset, .unset, .unset, .unset, .unset, .unset, .unset, .unset, .unset] [])) t
          refine XS.goto X0.here hx rfl (pc0 := 59) (pc' := 86) rfl (hb hby at_59) (by decide) (by decide) ?_
          show Steps p.tables e below (s₁.setTop (mkF m 86 #[.val (.long p0), .second, .val (.long p1), .second, .val (.int p2), .val (.int p3), .val (.int p4), .val (.long v1), .second, .val (.long v1), .second, .val (.int v3), .unset, .unset, .unset, .unset, .unset, .unset, .unset, .unset, .unset, .unset, .unset] [])) t
          simp only [if_neg hq5, if_pos hq6, if_neg hq7] at k
          exact k
      · refine XS.icmpYes X0.here hx rfl (pc0 := 36) (pc' := 62) rfl (hb hby at_36) rfl (Jvm.Free.XT.ii_ne_t hq6) (by decide) (by decide) ?_
        show Steps p.tables e below (s₁.setTop (mkF m 62 #[.val (.long p0), .second, .val (.long p1), .second, .val (.int p2), .val (.int p3), .val (.int p4), .val (.long v1), .second, .val (.long v2), .second, .val (.int v3), .unset, .unset, .unset, .unset, .unset, .unset, .unset, .unset, .unset, .unset, .unset] [])) t
        refine XS.iload X0.here hx rfl (hb hby at_62) rfl ?_
        show Steps p.tables e below (s₁.setTop (mkF m 64 #[.val (.long p0), .second, .val (.long p1), .second, .val (.int p2), .val (.int p3), .val (.int p4), .val (.long v1), .second, .val (.long v2), .second, .val (.int v3), .unset, .unset, .unset, .unset, .unset, .unset, .unset, .unset, .unset, .unset, .unset] [(.int v3)])) t
        refine XS.iconst X0.here hx rfl (hb hby at_64) ?_
        show Steps p.tables e below (s₁.setTop (mkF m 65 #[.val (.long p0), .second, .val (.long p1), .second, .val (.int p2), .val (.int p3), .val (.int p4), .val (.long v1), .second, .val (.long v2), .second, .val (.int v3), .unset, .unset, .unset, .unset, .unset, .unset, .unset, .unset, .unset, .unset, .unset] [(.int (3 : Int32)), (.int v3)])) t
        by_cases hq8 : v3 = (3 : Int32)
        · refine XS.icmpNo X0.here hx rfl (hb hby at_65) rfl (Jvm.Free.XT.ii_ne_f hq8) ?_
          show Steps p.tables e below (s₁.setTop (mkF m 68 #[.val (.long p0), .second, .val (.long p1), .second, .val (.int p2), .val (.int p3), .val (.int p4), .val (.long v1), .second, .val (.long v2), .second, .val (.int v3), .unset, .unset, .unset, .unset, .unset, .unset, .unset, .unset, .unset, .unset, .unset] [])) t
          refine XS.lload X0.here hx rfl (hb hby at_68) rfl ?_
          show Steps p.tables e below (s₁.setTop (mkF m 70 #[.val (.long p0), .second, .val (.long p1), .second, .val (.int p2), .val (.int p3), .val (.int p4), .val (.long v1), .second, .val (.long v2), .second, .val (.int v3), .unset, .unset, .unset, .unset, .unset, .unset, .unset, .unset, .unset, .unset, .unset] [(.long v1)])) t
          refine XS.lconst X0.here hx rfl (hb hby at_70) ?_
          show Steps p.tables e below (s₁.setTop (mkF m 71 #[.val (.long p0), .second, .val (.long p1), .second, .val (.int p2), .val (.int p3), .val (.int p4), .val (.long v1), .second, .val (.long v2), .second, .val (.int v3), .unset, .unset, .unset, .unset, .unset, .unset, .unset, .unset, .unset, .unset, .unset] [(.long (0 : Int64)), (.long v1)])) t
          refine XS.lcmp X0.here hx rfl (hb hby at_71) rfl ?_
          show Steps p.tables e below (s₁.setTop (mkF m 72 #[.val (.long p0), .second, .val (.long p1), .second, .val (.int p2), .val (.int p3), .val (.int p4), .val (.long v1), .second, .val (.long v2), .second, .val (.int v3), .unset, .unset, .unset, .unset, .unset, .unset, .unset, .unset, .unset, .unset, .unset] [(.int (lcmpW v1 (0 : Int64)))])) t
          by_cases hq9 : (0 : Int64) < v1
          · refine XS.ifNo X0.here hx rfl (hb hby at_72) rfl (Jvm.Free.XT.ll_le_f hq9) ?_
            show Steps p.tables e below (s₁.setTop (mkF m 75 #[.val (.long p0), .second, .val (.long p1), .second, .val (.int p2), .val (.int p3), .val (.int p4), .val (.long v1), .second, .val (.long v2), .second, .val (.int v3), .unset, .unset, .unset, .unset, .unset, .unset, .unset, .unset, .unset, .unset, .unset] [])) t
            refine XS.lload X0.here hx rfl (hb hby at_75) rfl ?_
            show Steps p.tables e below (s₁.setTop (mkF m 77 #[.val (.long p0), .second, .val (.long p1), .second, .val (.int p2), .val (.int p3), .val (.int p4), .val (.long v1), .second, .val (.long v2), .second, .val (.int v3), .unset, .unset, .unset, .unset, .unset, .unset, .unset, .unset, .unset, .unset, .unset] [(.long v1)])) t
            refine XS.lconst X0.here hx rfl (hb hby at_77) ?_
            show Steps p.tables e below (s₁.setTop (mkF m 78 #[.val (.long p0), .second, .val (.long p1), .second, .val (.int p2), .val (.int p3), .val (.int p4), .val (.long v1), .second, .val (.long v2), .second, .val (.int v3), .unset, .unset, .unset, .unset, .unset, .unset, .unset, .unset, .unset, .unset, .unset] [(.long (1 : Int64)), (.long v1)])) t
            refine XS.lsub X0.here hx rfl (hb hby at_78) rfl ?_
            show Steps p.tables e below (s₁.setTop (mkF m 79 #[.val (.long p0), .second, .val (.long p1), .second, .val (.int p2), .val (.int p3), .val (.int p4), .val (.long v1), .second, .val (.long v2), .second, .val (.int v3), .unset, .unset, .unset, .unset, .unset, .unset, .unset, .unset, .unset, .unset, .unset] [(.long (v1 - (1 : Int64)))])) t
            refine XS.goto X0.here hx rfl (pc0 := 79) (pc' := 84) rfl (hb hby at_79) (by decide) (by decide) ?_
            show Steps p.tables e below (s₁.setTop (mkF m 84 #[.val (.long p0), .second, .val (.long p1), .second, .val (.int p2), .val (.int p3), .val (.int p4), .val (.long v1), .second, .val (.long v2), .second, .val (.int v3), .unset, .unset, .unset, .unset, .unset, .unset, .unset, .unset, .unset, .unset, .unset] [(.long (v1 - (1 : Int64)))])) t
            refine XS.lstore X0.here hx rfl (hb hby at_84) rfl (l' := #[.val (.long p0), .second, .val (.long p1), .second, .val (.int p2), .val (.int p3), .val (.int p4), .val (.long v1), .second, .val (.long (v1 - (1 : Int64))), .second, .val (.int v3), .unset, .unset, .unset, .unset, .unset, .unset, .unset, .unset, .unset, .unset, .unset]) rfl ?_
            show Steps p.tables e below (s₁.setTop (mkF m 86 #[.val (.long p0), .second, .val (.long p1), .second, .val (.int p2), .val (.int p3), .val (.int p4), .val (.long v1), .second, .val (.long (v1 - (1 : Int64))), .second, .val (.int v3), .unset, .unset, .unset, .unset, .unset, .unset, .unset, .unset, .unset, .unset, .unset] [])) t
            simp only [if_neg hq5, if_neg hq6, if_pos hq8, if_pos hq9] at k
            exact k
          · refine XS.ifYes X0.here hx rfl (pc0 := 72) (pc' := 82) rfl (hb hby at_72) rfl (Jvm.Free.XT.ll_le_t hq9) (by decide) (by decide) ?_
            show Steps p.tables e below (s₁.setTop (mkF m 82 #[.val (.long p0), .second, .val (.long p1), .second, .val (.int p2), .val (.int p3), .val (.int p4), .val (.long v1), .second, .val (.long v2), .second, .val (.int v3), .unset, .unset, .unset, .unset, .unset, .unset, .unset, .unset, .unset, .unset, .unset] [])) t
            refine XS.lload X0.here hx rfl (hb hby at_82) rfl ?_
            show Steps p.tables e below (s₁.setTop (mkF m 84 #[.val (.long p0), .second, .val (.long p1), .second, .val (.int p2), .val (.int p3), .val (.int p4), .val (.long v1), .second, .val (.long v2), .second, .val (.int v3), .unset, .unset, .unset, .unset, .unset, .unset, .unset, .unset, .unset, .unset, .unset] [(.long v1)])) t
            refine XS.lstore X0.here hx rfl (hb hby at_84) rfl (l' := #[.val (.long p0), .second, .val (.long p1), .second, .val (.int p2), .val (.int p3), .val (.int p4), .val (.long v1), .second, .val (.long v1), .second, .val (.int v3), .unset, .unset, .unset, .unset, .unset, .unset, .unset, .unset, .unset, .unset, .unset]) rfl ?_
            show Steps p.tables e below (s₁.setTop (mkF m 86 #[.val (.long p0), .second, .val (.long p1), .second, .val (.int p2), .val (.int p3), .val (.int p4), .val (.long v1), .second, .val (.long v1), .second, .val (.int v3), .unset, .unset, .unset, .unset, .unset, .unset, .unset, .unset, .unset, .unset, .unset] [])) t
            simp only [if_neg hq5, if_neg hq6, if_pos hq8, if_neg hq9] at k
            exact k
        · refine XS.icmpYes X0.here hx rfl (pc0 := 65) (pc' := 86) rfl (hb hby at_65) rfl (Jvm.Free.XT.ii_ne_t hq8) (by decide) (by decide) ?_
          show Steps p.tables e below (s₁.setTop (mkF m 86 #[.val (.long p0), .second, .val (.long p1), .second, .val (.int p2), .val (.int p3), .val (.int p4), .val (.long v1), .second, .val (.long v2), .second, .val (.int v3), .unset, .unset, .unset, .unset, .unset, .unset, .unset, .unset, .unset, .unset, .unset] [])) t
          simp only [if_neg hq5, if_neg hq6, if_neg hq8] at k
          exact k
  refine own_via st4 ?_
  show own_Go p e below s _ _ _ (s₁.setTop (mkF m 86 #[.val (.long p0), .second, .val (.long p1), .second, .val (.int p2), .val (.int p3), .val (.int p4), .val (.long v1), .second, .val (.long (if v3 = (1 : Int32) then v1 else (if v3 = (2 : Int32) then (if v1 < (9223372036854775807 : Int64) then (v1 + (1 : Int64)) else v1) else (if v3 = (3 : Int32) then (if (0 : Int64) < v1 then (v1 - (1 : Int64)) else v1) else v2)))), .second, .val (.int v3), .unset, .unset, .unset, .unset, .unset, .unset, .unset, .unset, .unset, .unset, .unset] []))
  generalize hv10 : (if v3 = (1 : Int32) then v1 else (if v3 = (2 : Int32) then (if v1 < (9223372036854775807 : Int64) then (v1 + (1 : Int64)) else v1) else (if v3 = (3 : Int32) then (if (0 : Int64) < v1 then (v1 - (1 : Int64)) else v1) else v2))) = v10
  show own_Go p e below s _ _ _ (s₁.setTop (mkF m 86 #[.val (.long p0), .second, .val (.long p1), .second, .val (.int p2), .val (.int p3), .val (.int p4), .val (.long v1), .second, .val (.long v10), .second, .val (.int v3), .unset, .unset, .unset, .unset, .unset, .unset, .unset, .unset, .unset, .unset, .unset] []))
  refine own_via (fun _ k => XS.iload X0.here hx rfl (hb hby at_86) rfl k) ?_
  show own_Go p e below s _ _ _ (s₁.setTop (mkF m 88 #[.val (.long p0), .second, .val (.long p1), .second, .val (.int p2), .val (.int p3), .val (.int p4), .val (.long v1), .second, .val (.long v10), .second, .val (.int v3), .unset, .unset, .unset, .unset, .unset, .unset, .unset, .unset, .unset, .unset, .unset] [(.int p2)]))
  obtain ⟨_, _, ⟨T11, L11, k11, n11⟩, -, X11, ⟨Lc11, hQ11, l11, y11, z11⟩, st11⟩ := Jvm.LawKit.callS X0 hx (y := (⟨"com/example/greenbelt/greenbelt/model/RequestIdOutdatesPinLaw", "member", "(I)I"⟩ : MethodName)) hown (mvT hZ (hw _ (List.mem_of_getElem? (i := 1) rfl))) (mvT hZ (hw _ (List.mem_of_getElem? (i := 2) rfl))) (mvT hZ (hw _ (List.mem_of_getElem? (i := 3) rfl))) (mvT hZ (hw _ (List.mem_of_getElem? (i := 4) rfl))) (by decide) (backOf (W := 0) (rm1 l Z a0 hw [] p2 h0 n0 Z0 ) hZ (hw _ (List.mem_of_getElem? (i := 4) rfl)) (hw _ (List.mem_of_getElem? (i := 3) rfl)) (by decide) (by decide)) (g := (mkF m 88 #[.val (.long p0), .second, .val (.long p1), .second, .val (.int p2), .val (.int p3), .val (.int p4), .val (.long v1), .second, .val (.long v10), .second, .val (.int v3), .unset, .unset, .unset, .unset, .unset, .unset, .unset, .unset, .unset, .unset, .unset] [(.int p2)])) rfl (by rw [hml]; rfl) (argsL := [(.int p2)]) (rest := []) (lenOf pd_1 rfl) rfl (by show 2 * 0 + _ ≤ _; exact Nat.le_of_eq rfl) (hb hby at_88) (fun _ _ => ⟨rfl, e0, (by decide : 0 + 0 ≤ _), (by decide : 0 + 0 ≤ _)⟩)
  dsimp only [Pt.U, Pt.locs, Pt.cells, Pt.slots] at X11 l11 y11 z11 st11 hQ11
  subst l11 y11 z11
  obtain ⟨rfl, N11q, e11⟩ := hQ11
  have N11 := Fr.app N0 N11q
  refine own_via st11 ?_
  show own_Go p e below s _ _ _ (T11.setTop (mkF m 91 #[.val (.long p0), .second, .val (.long p1), .second, .val (.int p2), .val (.int p3), .val (.int p4), .val (.long v1), .second, .val (.long v10), .second, .val (.int v3), .unset, .unset, .unset, .unset, .unset, .unset, .unset, .unset, .unset, .unset, .unset] [(.int (own_m p2))]))
  refine own_via (fun _ k => XS.istore X11.here hx rfl (hb hby at_91) rfl (l' := #[.val (.long p0), .second, .val (.long p1), .second, .val (.int p2), .val (.int p3), .val (.int p4), .val (.long v1), .second, .val (.long v10), .second, .val (.int v3), .val (.int (own_m p2)), .unset, .unset, .unset, .unset, .unset, .unset, .unset, .unset, .unset, .unset]) rfl k) ?_
  show own_Go p e below s _ _ _ (T11.setTop (mkF m 93 #[.val (.long p0), .second, .val (.long p1), .second, .val (.int p2), .val (.int p3), .val (.int p4), .val (.long v1), .second, .val (.long v10), .second, .val (.int v3), .val (.int (own_m p2)), .unset, .unset, .unset, .unset, .unset, .unset, .unset, .unset, .unset, .unset] []))
  generalize hv12 : (own_m p2) = v12
  show own_Go p e below s _ _ _ (T11.setTop (mkF m 93 #[.val (.long p0), .second, .val (.long p1), .second, .val (.int p2), .val (.int p3), .val (.int p4), .val (.long v1), .second, .val (.long v10), .second, .val (.int v3), .val (.int v12), .unset, .unset, .unset, .unset, .unset, .unset, .unset, .unset, .unset, .unset] []))
  refine own_via (fun _ k => XS.iload X11.here hx rfl (hb hby at_93) rfl k) ?_
  show own_Go p e below s _ _ _ (T11.setTop (mkF m 95 #[.val (.long p0), .second, .val (.long p1), .second, .val (.int p2), .val (.int p3), .val (.int p4), .val (.long v1), .second, .val (.long v10), .second, .val (.int v3), .val (.int v12), .unset, .unset, .unset, .unset, .unset, .unset, .unset, .unset, .unset, .unset] [(.int p3)]))
  obtain ⟨_, _, ⟨T13, L13, k13, n13⟩, -, X13, ⟨Lc13, hQ13, l13, y13, z13⟩, st13⟩ := Jvm.LawKit.callS X11 hx (y := (⟨"com/example/greenbelt/greenbelt/model/RequestIdOutdatesPinLaw", "member", "(I)I"⟩ : MethodName)) hown (mvT hZ (hw _ (List.mem_of_getElem? (i := 1) rfl))) (mvT hZ (hw _ (List.mem_of_getElem? (i := 2) rfl))) (mvT hZ (hw _ (List.mem_of_getElem? (i := 3) rfl))) (mvT hZ (hw _ (List.mem_of_getElem? (i := 4) rfl))) (by decide) (backOf (W := 0) (rm1 l Z a0 hw [] p3 h0 n0 Z0 ) hZ (hw _ (List.mem_of_getElem? (i := 4) rfl)) (hw _ (List.mem_of_getElem? (i := 3) rfl)) (by decide) (by decide)) (g := (mkF m 95 #[.val (.long p0), .second, .val (.long p1), .second, .val (.int p2), .val (.int p3), .val (.int p4), .val (.long v1), .second, .val (.long v10), .second, .val (.int v3), .val (.int v12), .unset, .unset, .unset, .unset, .unset, .unset, .unset, .unset, .unset, .unset] [(.int p3)])) rfl (by rw [hml]; rfl) (argsL := [(.int p3)]) (rest := []) (lenOf pd_1 rfl) rfl (by show 2 * 0 + _ ≤ _; exact Nat.le_of_eq rfl) (hb hby at_95) (fun _ _ => ⟨rfl, e11, (by decide : 0 + 0 ≤ _), (by decide : 0 + 0 ≤ _)⟩)
  dsimp only [Pt.U, Pt.locs, Pt.cells, Pt.slots] at X13 l13 y13 z13 st13 hQ13
  subst l13 y13 z13
  obtain ⟨rfl, N13q, e13⟩ := hQ13
  have N13 := Fr.app N11 N13q
  refine own_via st13 ?_
  show own_Go p e below s _ _ _ (T13.setTop (mkF m 98 #[.val (.long p0), .second, .val (.long p1), .second, .val (.int p2), .val (.int p3), .val (.int p4), .val (.long v1), .second, .val (.long v10), .second, .val (.int v3), .val (.int v12), .unset, .unset, .unset, .unset, .unset, .unset, .unset, .unset, .unset, .unset] [(.int (own_m p3))]))
  refine own_via (fun _ k => XS.istore X13.here hx rfl (hb hby at_98) rfl (l' := #[.val (.long p0), .second, .val (.long p1), .second, .val (.int p2), .val (.int p3), .val (.int p4), .val (.long v1), .second, .val (.long v10), .second, .val (.int v3), .val (.int v12), .val (.int (own_m p3)), .unset, .unset, .unset, .unset, .unset, .unset, .unset, .unset, .unset]) rfl k) ?_
  show own_Go p e below s _ _ _ (T13.setTop (mkF m 100 #[.val (.long p0), .second, .val (.long p1), .second, .val (.int p2), .val (.int p3), .val (.int p4), .val (.long v1), .second, .val (.long v10), .second, .val (.int v3), .val (.int v12), .val (.int (own_m p3)), .unset, .unset, .unset, .unset, .unset, .unset, .unset, .unset, .unset] []))
  generalize hv14 : (own_m p3) = v14
  show own_Go p e below s _ _ _ (T13.setTop (mkF m 100 #[.val (.long p0), .second, .val (.long p1), .second, .val (.int p2), .val (.int p3), .val (.int p4), .val (.long v1), .second, .val (.long v10), .second, .val (.int v3), .val (.int v12), .val (.int v14), .unset, .unset, .unset, .unset, .unset, .unset, .unset, .unset, .unset] []))
  refine own_via (fun _ k => XS.iload X13.here hx rfl (hb hby at_100) rfl k) ?_
  show own_Go p e below s _ _ _ (T13.setTop (mkF m 102 #[.val (.long p0), .second, .val (.long p1), .second, .val (.int p2), .val (.int p3), .val (.int p4), .val (.long v1), .second, .val (.long v10), .second, .val (.int v3), .val (.int v12), .val (.int v14), .unset, .unset, .unset, .unset, .unset, .unset, .unset, .unset, .unset] [(.int p4)]))
  refine own_via (fun _ k => XS.iconst X13.here hx rfl (hb hby at_102) k) ?_
  show own_Go p e below s _ _ _ (T13.setTop (mkF m 103 #[.val (.long p0), .second, .val (.long p1), .second, .val (.int p2), .val (.int p3), .val (.int p4), .val (.long v1), .second, .val (.long v10), .second, .val (.int v3), .val (.int v12), .val (.int v14), .unset, .unset, .unset, .unset, .unset, .unset, .unset, .unset, .unset] [(.int (2 : Int32)), (.int p4)]))
  refine own_via (fun _ k => XS.iushr X13.here hx rfl (hb hby at_103) rfl k) ?_
  show own_Go p e below s _ _ _ (T13.setTop (mkF m 104 #[.val (.long p0), .second, .val (.long p1), .second, .val (.int p2), .val (.int p3), .val (.int p4), .val (.long v1), .second, .val (.long v10), .second, .val (.int v3), .val (.int v12), .val (.int v14), .unset, .unset, .unset, .unset, .unset, .unset, .unset, .unset, .unset] [(.int (o_iushr p4 (2 : Int32)))]))
  refine own_via (fun _ k => XS.iconst X13.here hx rfl (hb hby at_104) k) ?_
  show own_Go p e below s _ _ _ (T13.setTop (mkF m 105 #[.val (.long p0), .second, .val (.long p1), .second, .val (.int p2), .val (.int p3), .val (.int p4), .val (.long v1), .second, .val (.long v10), .second, .val (.int v3), .val (.int v12), .val (.int v14), .unset, .unset, .unset, .unset, .unset, .unset, .unset, .unset, .unset] [(.int (3 : Int32)), (.int (o_iushr p4 (2 : Int32)))]))
  refine own_via (fun _ k => XS.iand X13.here hx rfl (hb hby at_105) rfl k) ?_
  show own_Go p e below s _ _ _ (T13.setTop (mkF m 106 #[.val (.long p0), .second, .val (.long p1), .second, .val (.int p2), .val (.int p3), .val (.int p4), .val (.long v1), .second, .val (.long v10), .second, .val (.int v3), .val (.int v12), .val (.int v14), .unset, .unset, .unset, .unset, .unset, .unset, .unset, .unset, .unset] [(.int ((o_iushr p4 (2 : Int32)) &&& (3 : Int32)))]))
  refine own_via (fun _ k => XS.istore X13.here hx rfl (hb hby at_106) rfl (l' := #[.val (.long p0), .second, .val (.long p1), .second, .val (.int p2), .val (.int p3), .val (.int p4), .val (.long v1), .second, .val (.long v10), .second, .val (.int v3), .val (.int v12), .val (.int v14), .val (.int ((o_iushr p4 (2 : Int32)) &&& (3 : Int32))), .unset, .unset, .unset, .unset, .unset, .unset, .unset, .unset]) rfl k) ?_
  show own_Go p e below s _ _ _ (T13.setTop (mkF m 108 #[.val (.long p0), .second, .val (.long p1), .second, .val (.int p2), .val (.int p3), .val (.int p4), .val (.long v1), .second, .val (.long v10), .second, .val (.int v3), .val (.int v12), .val (.int v14), .val (.int ((o_iushr p4 (2 : Int32)) &&& (3 : Int32))), .unset, .unset, .unset, .unset, .unset, .unset, .unset, .unset] []))
  generalize hv15 : ((o_iushr p4 (2 : Int32)) &&& (3 : Int32)) = v15
  show own_Go p e below s _ _ _ (T13.setTop (mkF m 108 #[.val (.long p0), .second, .val (.long p1), .second, .val (.int p2), .val (.int p3), .val (.int p4), .val (.long v1), .second, .val (.long v10), .second, .val (.int v3), .val (.int v12), .val (.int v14), .val (.int v15), .unset, .unset, .unset, .unset, .unset, .unset, .unset, .unset] []))
  have st16 : ∀ t, Steps p.tables e below (T13.setTop (mkF m 174 #[.val (.long p0), .second, .val (.long p1), .second, .val (.int p2), .val (.int p3), .val (.int p4), .val (.long v1), .second, .val (.long v10), .second, .val (.int v3), .val (.int v12), .val (.int (if v15 = (0 : Int32) then v12 else (if v15 = (2 : Int32) then (if v12 < (2147483647 : Int32) then (v12 + (1 : Int32)) else (v12 - (1 : Int32))) else (if v15 = (3 : Int32) then (if (1 : Int32) < v12 then (v12 - (1 : Int32)) else (v12 + (1 : Int32))) else v14)))), .val (.int v15), .unset, .unset, .unset, .unset, .unset, .unset, .unset, .unset] [])) t → Steps p.tables e below (T13.setTop (mkF m 108 #[.val (.long p0), .second, .val (.long p1), .second, .val (.int p2), .val (.int p3), .val (.int p4), .val (.long v1), .second, .val (.long v10), .second, .val (.int v3), .val (.int v12), .val (.int v14), .val (.int v15), .unset, .unset, .unset, .unset, .unset, .unset, .unset, .unset] [])) t := by
    intro t k
    refine XS.iload X13.here hx rfl (hb hby at_108) rfl ?_
    show Steps p.tables e below (T13.setTop (mkF m 110 #[.val (.long p0), .second, .val (.long p1), .second, .val (.int p2), .val (.int p3), .val (.int p4), .val (.long v1), .second, .val (.long v10), .second, .val (.int v3), .val (.int v12), .val (.int v14), .val (.int v15), .unset, .unset, .unset, .unset, .unset, .unset, .unset, .unset] [(.int v15)])) t
    by_cases hq17 : v15 = (0 : Int32)
    · refine XS.ifNo X13.here hx rfl (hb hby at_110) rfl (Jvm.Free.XT.i0_ne_f hq17) ?_
      show Steps p.tables e below (T13.setTop (mkF m 113 #[.val (.long p0), .second, .val (.long p1), .second, .val (.int p2), .val (.int p3), .val (.int p4), .val (.long v1), .second, .val (.long v10), .second, .val (.int v3), .val (.int v12), .val (.int v14), .val (.int v15), .unset, .unset, .unset, .unset, .unset, .unset, .unset, .unset] [])) t
      refine XS.iload X13.here hx rfl (hb hby at_113) rfl ?_
      show Steps p.tables e below (T13.setTop (mkF m 115 #[.val (.long p0), .second, .val (.long p1), .second, .val (.int p2), .val (.int p3), .val (.int p4), .val (.long v1), .second, .val (.long v10), .second, .val (.int v3), .val (.int v12), .val (.int v14), .val (.int v15), .unset, .unset, .unset, .unset, .unset, .unset, .unset, .unset] [(.int v12)])) t
      refine XS.istore X13.here hx rfl (hb hby at_115) rfl (l' := #[.val (.long p0), .second, .val (.long p1), .second, .val (.int p2), .val (.int p3), .val (.int p4), .val (.long v1), .second, .val (.long v10), .second, .val (.int v3), .val (.int v12), .val (.int v12), .val (.int v15), .unset, .unset, .unset, .unset, .unset, .unset, .unset, .unset]) rfl ?_
      show Steps p.tables e below (T13.setTop (mkF m 117 #[.val (.long p0), .second, .val (.long p1), .second, .val (.int p2), .val (.int p3), .val (.int p4), .val (.long v1), .second, .val (.long v10), .second, .val (.int v3), .val (.int v12), .val (.int v12), .val (.int v15), .unset, .unset, .unset, .unset, .unset, .unset, .unset, .unset] [])) t
      refine XS.goto X13.here hx rfl (pc0 := 117) (pc' := 174) rfl (hb hby at_117) (by decide) (by decide) ?_
      show Steps p.tables e below (T13.setTop (mkF m 174 #[.val (.long p0), .second, .val (.long p1), .second, .val (.int p2), .val (.int p3), .val (.int p4), .val (.long v1), .second, .val (.long v10), .second, .val (.int v3), .val (.int v12), .val (.int v12), .val (.int v15), .unset, .unset, .unset, .unset, .unset, .unset, .unset, .unset] [])) t
      simp only [if_pos hq17] at k
      exact k
    · refine XS.ifYes X13.here hx rfl (pc0 := 110) (pc' := 120) rfl (hb hby at_110) rfl (Jvm.Free.XT.i0_ne_t hq17) (by decide) (by decide) ?_
      show Steps p.tables e below (T13.setTop (mkF m 120 #[.val (.long p0), .second, .val (.long p1), .second, .val (.int p2), .val (.int p3), .val (.int p4), .val (.long v1), .second, .val (.long v10), .second, .val (.int v3), .val (.int v12), .val (.int v14), .val (.int v15), .unset, .unset, .unset, .unset, .unset, .unset, .unset, .unset] [])) t
      refine XS.iload X13.here hx rfl (hb hby at_120) rfl ?_
      show Steps p.tables e below (T13.setTop (mkF m 122 #[.val (.long p0), .second, .val (.long p1), .second, .val (.int p2), .val (.int p3), .val (.int p4), .val (.long v1), .second, .val (.long v10), .second, .val (.int v3), .val (.int v12), .val (.int v14), .val (.int v15), .unset, .unset, .unset, .unset, .unset, .unset, .unset, .unset] [(.int v15)])) t
      refine XS.iconst X13.here hx rfl (hb hby at_122) ?_
      show Steps p.tables e below (T13.setTop (mkF m 123 #[.val (.long p0), .second, .val (.long p1), .second, .val (.int p2), .val (.int p3), .val (.int p4), .val (.long v1), .second, .val (.long v10), .second, .val (.int v3), .val (.int v12), .val (.int v14), .val (.int v15), .unset, .unset, .unset, .unset, .unset, .unset, .unset, .unset] [(.int (2 : Int32)), (.int v15)])) t
      by_cases hq18 : v15 = (2 : Int32)
      · refine XS.icmpNo X13.here hx rfl (hb hby at_123) rfl (Jvm.Free.XT.ii_ne_f hq18) ?_
        show Steps p.tables e below (T13.setTop (mkF m 126 #[.val (.long p0), .second, .val (.long p1), .second, .val (.int p2), .val (.int p3), .val (.int p4), .val (.long v1), .second, .val (.long v10), .second, .val (.int v3), .val (.int v12), .val (.int v14), .val (.int v15), .unset, .unset, .unset, .unset, .unset, .unset, .unset, .unset] [])) t
        refine XS.iload X13.here hx rfl (hb hby at_126) rfl ?_
        show Steps p.tables e below (T13.setTop (mkF m 128 #[.val (.long p0), .second, .val (.long p1), .second, .val (.int p2), .val (.int p3), .val (.int p4), .val (.long v1), .second, .val (.long v10), .second, .val (.int v3), .val (.int v12), .val (.int v14), .val (.int v15), .unset, .unset, .unset, .unset, .unset, .unset, .unset, .unset] [(.int v12)])) t
        refine X13.ldcInt hx hown (mvT hZ (hw _ (List.mem_of_getElem? (i := 5) rfl))) (g := (mkF m 128 #[.val (.long p0), .second, .val (.long p1), .second, .val (.int p2), .val (.int p3), .val (.int p4), .val (.long v1), .second, .val (.long v10), .second, .val (.int v3), .val (.int v12), .val (.int v14), .val (.int v15), .unset, .unset, .unset, .unset, .unset, .unset, .unset, .unset] [(.int v12)])) rfl (hb hby at_128) _ ?_
        show Steps p.tables e below (T13.setTop (mkF m 130 #[.val (.long p0), .second, .val (.long p1), .second, .val (.int p2), .val (.int p3), .val (.int p4), .val (.long v1), .second, .val (.long v10), .second, .val (.int v3), .val (.int v12), .val (.int v14), .val (.int v15), .unset, .unset, .unset, .unset, .unset, .unset, .unset, .unset] [(.int (2147483647 : Int32)), (.int v12)])) t
        by_cases hq19 : v12 < (2147483647 : Int32)
        · refine XS.icmpNo X13.here hx rfl (hb hby at_130) rfl (Jvm.Free.XT.ii_ge_f hq19) ?_
          show Steps p.tables e below (T13.setTop (mkF m 133 #[.val (.long p0), .second, .val (.long p1), .second, .val (.int p2), .val (.int p3), .val (.int p4), .val (.long v1), .second, .val (.long v10), .second, .val (.int v3), .val (.int v12), .val (.int v14), .val (.int v15), .unset, .unset, .unset, .unset, .unset, .unset, .unset, .unset] [])) t
          refine XS.iload X13.here hx rfl (hb hby at_133) rfl ?_
          show Steps p.tables e below (T13.setTop (mkF m 135 #[.val (.long p0), .second, .val (.long p1), .second, .val (.int p2), .val (.int p3), .val (.int p4), .val (.long v1), .second, .val (.long v10), .second, .val (.int v3), .val (.int v12), .val (.int v14), .val (.int v15), .unset, .unset, .unset, .unset, .unset, .unset, .unset, .unset] [(.int v12)])) t
          refine XS.iconst X13.here hx rfl (hb hby at_135) ?_
          show Steps p.tables e below (T13.setTop (mkF m 136 #[.val (.long p0), .second, .val (.long p1), .second, .val (.int p2), .val (.int p3), .val (.int p4), .val (.long v1), .second, .val (.long v10), .second, .val (.int v3), .val (.int v12), .val (.int v14), .val (.int v15), .unset, .unset, .unset, .unset, .unset, .unset, .unset, .unset] [(.int (1 : Int32)), (.int v12)])) t
          refine XS.iadd X13.here hx rfl (hb hby at_136) rfl ?_
          show Steps p.tables e below (T13.setTop (mkF m 137 #[.val (.long p0), .second, .val (.long p1), .second, .val (.int p2), .val (.int p3), .val (.int p4), .val (.long v1), .second, .val (.long v10), .second, .val (.int v3), .val (.int v12), .val (.int v14), .val (.int v15), .unset, .unset, .unset, .unset, .unset, .unset, .unset, .unset] [(.int (v12 + (1 : Int32)))])) t
          refine XS.goto X13.here hx rfl (pc0 := 137) (pc' := 144) rfl (hb hby at_137) (by decide) (by decide) ?_
          show Steps p.tables e below (T13.setTop (mkF m 144 #[.val (.long p0), .second, .val (.long p1), .second, .val (.int p2), .val (.int p3), .val (.int p4), .val (.long v1), .second, .val (.long v10), .second, .val (.int v3), .val (.int v12), .val (.int v14), .val (.int v15), .unset, .unset, .unset, .unset, .unset, .unset, .unset, .unset] [(.int (v12 + (1 : Int32)))])) t
          refine XS.istore X13.here hx rfl (hb hby at_144) rfl (l' := #[.val (.long p0), .second, .val (.long p1), .second, .val (.int p2), .val (.int p3), .val (.int p4), .val (.long v1), .second, .val (.long v10), .second, .val (.int v3), .val (.int v12), .val (.int (v12 + (1 : Int32))), .val (.int v15), .unset, .unset, .unset, .unset, .unset, .unset, .unset, .unset]) rfl ?_
          show Steps p.tables e below (T13.setTop (mkF m 146 #[.val (.long p0), .second, .val (.long p1), .second, .val (.int p2), .val (.int p3), .val (.int p4), .val (.long v1), .second, .val (.long v10), .second, .val (.int v3), .val (.int v12), .val (.int (v12 + (1 : Int32))), .val (.int v15), .unset, .unset, .unset, .unset, .unset, .unset, .unset, .unset] [])) t
          refine XS.goto X13.here hx rfl (pc0 := 146) (pc' := 174) rfl (hb hby at_146) (by decide) (by decide) ?_
          show Steps p.tables e below (T13.setTop (mkF m 174 #[.val (.long p0), .second, .val (.long p1), .second, .val (.int p2), .val (.int p3), .val (.int p4), .val (.long v1), .second, .val (.long v10), .second, .val (.int v3), .val (.int v12), .val (.int (v12 + (1 : Int32))), .val (.int v15), .unset, .unset, .unset, .unset, .unset, .unset, .unset, .unset] [])) t
          simp only [if_neg hq17, if_pos hq18, if_pos hq19] at k
          exact k
        · refine XS.icmpYes X13.here hx rfl (pc0 := 130) (pc' := 140) rfl (hb hby at_130) rfl (Jvm.Free.XT.ii_ge_t hq19) (by decide) (by decide) ?_
          show Steps p.tables e below (T13.setTop (mkF m 140 #[.val (.long p0), .second, .val (.long p1), .second, .val (.int p2), .val (.int p3), .val (.int p4), .val (.long v1), .second, .val (.long v10), .second, .val (.int v3), .val (.int v12), .val (.int v14), .val (.int v15), .unset, .unset, .unset, .unset, .unset, .unset, .unset, .unset] [])) t
          refine XS.iload X13.here hx rfl (hb hby at_140) rfl ?_
          show Steps p.tables e below (T13.setTop (mkF m 142 #[.val (.long p0), .second, .val (.long p1), .second, .val (.int p2), .val (.int p3), .val (.int p4), .val (.long v1), .second, .val (.long v10), .second, .val (.int v3), .val (.int v12), .val (.int v14), .val (.int v15), .unset, .unset, .unset, .unset, .unset, .unset, .unset, .unset] [(.int v12)])) t
          refine XS.iconst X13.here hx rfl (hb hby at_142) ?_
          show Steps p.tables e below (T13.setTop (mkF m 143 #[.val (.long p0), .second, .val (.long p1), .second, .val (.int p2), .val (.int p3), .val (.int p4), .val (.long v1), .second, .val (.long v10), .second, .val (.int v3), .val (.int v12), .val (.int v14), .val (.int v15), .unset, .unset, .unset, .unset, .unset, .unset, .unset, .unset] [(.int (1 : Int32)), (.int v12)])) t
          refine XS.isub X13.here hx rfl (hb hby at_143) rfl ?_
          show Steps p.tables e below (T13.setTop (mkF m 144 #[.val (.long p0), .second, .val (.long p1), .second, .val (.int p2), .val (.int p3), .val (.int p4), .val (.long v1), .second, .val (.long v10), .second, .val (.int v3), .val (.int v12), .val (.int v14), .val (.int v15), .unset, .unset, .unset, .unset, .unset, .unset, .unset, .unset] [(.int (v12 - (1 : Int32)))])) t
          refine XS.istore X13.here hx rfl (hb hby at_144) rfl (l' := #[.val (.long p0), .second, .val (.long p1), .second, .val (.int p2), .val (.int p3), .val (.int p4), .val (.long v1), .second, .val (.long v10), .second, .val (.int v3), .val (.int v12), .val (.int (v12 - (1 : Int32))), .val (.int v15), .unset, .unset, .unset, .unset, .unset, .unset, .unset, .unset]) rfl ?_
          show Steps p.tables e below (T13.setTop (mkF m 146 #[.val (.long p0), .second, .val (.long p1), .second, .val (.int p2), .val (.int p3), .val (.int p4), .val (.long v1), .second, .val (.long v10), .second, .val (.int v3), .val (.int v12), .val (.int (v12 - (1 : Int32))), .val (.int v15), .unset, .unset, .unset, .unset, .unset, .unset, .unset, .unset] [])) t
          refine XS.goto X13.here hx rfl (pc0 := 146) (pc' := 174) rfl (hb hby at_146) (by decide) (by decide) ?_
          show Steps p.tables e below (T13.setTop (mkF m 174 #[.val (.long p0), .second, .val (.long p1), .second, .val (.int p2), .val (.int p3), .val (.int p4), .val (.long v1), .second, .val (.long v10), .second, .val (.int v3), .val (.int v12), .val (.int (v12 - (1 : Int32))), .val (.int v15), .unset, .unset, .unset, .unset, .unset, .unset, .unset, .unset] [])) t
          simp only [if_neg hq17, if_pos hq18, if_neg hq19] at k
          exact k
      · refine XS.icmpYes X13.here hx rfl (pc0 := 123) (pc' := 149) rfl (hb hby at_123) rfl (Jvm.Free.XT.ii_ne_t hq18) (by decide) (by decide) ?_
        show Steps p.tables e below (T13.setTop (mkF m 149 #[.val (.long p0), .second, .val (.long p1), .second, .val (.int p2), .val (.int p3), .val (.int p4), .val (.long v1), .second, .val (.long v10), .second, .val (.int v3), .val (.int v12), .val (.int v14), .val (.int v15), .unset, .unset, .unset, .unset, .unset, .unset, .unset, .unset] [])) t
        refine XS.iload X13.here hx rfl (hb hby at_149) rfl ?_
        show Steps p.tables e below (T13.setTop (mkF m 151 #[.val (.long p0), .second, .val (.long p1), .second, .val (.int p2), .val (.int p3), .val (.int p4), .val (.long v1), .second, .val (.long v10), .second, .val (.int v3), .val (.int v12), .val (.int v14), .val (.int v15), .unset, .unset, .unset, .unset, .unset, .unset, .unset, .unset] [(.int v15)])) t
        refine XS.iconst X13.here hx rfl (hb hby at_151) ?_
        show Steps p.tables e below (T13.setTop (mkF m 152 #[.val (.long p0), .second, .val (.long p1), .second, .val (.int p2), .val (.int p3), .val (.int p4), .val (.long v1), .second, .val (.long v10), .second, .val (.int v3), .val (.int v12), .val (.int v14), .val (.int v15), .unset, .unset, .unset, .unset, .unset, .unset, .unset, .unset] [(.int (3 : Int32)), (.int v15)])) t
        by_cases hq20 : v15 = (3 : Int32)
        · refine XS.icmpNo X13.here hx rfl (hb hby at_152) rfl (Jvm.Free.XT.ii_ne_f hq20) ?_
          show Steps p.tables e below (T13.setTop (mkF m 155 #[.val (.long p0), .second, .val (.long p1), .second, .val (.int p2), .val (.int p3), .val (.int p4), .val (.long v1), .second, .val (.long v10), .second, .val (.int v3), .val (.int v12), .val (.int v14), .val (.int v15), .unset, .unset, .unset, .unset, .unset, .unset, .unset, .unset] [])) t
          refine XS.iload X13.here hx rfl (hb hby at_155) rfl ?_
          show Steps p.tables e below (T13.setTop (mkF m 157 #[.val (.long p0), .second, .val (.long p1), .second, .val (.int p2), .val (.int p3), .val (.int p4), .val (.long v1), .second, .val (.long v10), .second, .val (.int v3), .val (.int v12), .val (.int v14), .val (.int v15), .unset, .unset, .unset, .unset, .unset, .unset, .unset, .unset] [(.int v12)])) t
          refine XS.iconst X13.here hx rfl (hb hby at_157) ?_
          show Steps p.tables e below (T13.setTop (mkF m 158 #[.val (.long p0), .second, .val (.long p1), .second, .val (.int p2), .val (.int p3), .val (.int p4), .val (.long v1), .second, .val (.long v10), .second, .val (.int v3), .val (.int v12), .val (.int v14), .val (.int v15), .unset, .unset, .unset, .unset, .unset, .unset, .unset, .unset] [(.int (1 : Int32)), (.int v12)])) t
          by_cases hq21 : (1 : Int32) < v12
          · refine XS.icmpNo X13.here hx rfl (hb hby at_158) rfl (Jvm.Free.XT.ii_le_f hq21) ?_
            show Steps p.tables e below (T13.setTop (mkF m 161 #[.val (.long p0), .second, .val (.long p1), .second, .val (.int p2), .val (.int p3), .val (.int p4), .val (.long v1), .second, .val (.long v10), .second, .val (.int v3), .val (.int v12), .val (.int v14), .val (.int v15), .unset, .unset, .unset, .unset, .unset, .unset, .unset, .unset] [])) t
            refine XS.iload X13.here hx rfl (hb hby at_161) rfl ?_
            show Steps p.tables e below (T13.setTop (mkF m 163 #[.val (.long p0), .second, .val (.long p1), .second, .val (.int p2), .val (.int p3), .val (.int p4), .val (.long v1), .second, .val (.long v10), .second, .val (.int v3), .val (.int v12), .val (.int v14), .val (.int v15), .unset, .unset, .unset, .unset, .unset, .unset, .unset, .unset] [(.int v12)])) t
            refine XS.iconst X13.here hx rfl (hb hby at_163) ?_
            show Steps p.tables e below (T13.setTop (mkF m 164 #[.val (.long p0), .second, .val (.long p1), .second, .val (.int p2), .val (.int p3), .val (.int p4), .val (.long v1), .second, .val (.long v10), .second, .val (.int v3), .val (.int v12), .val (.int v14), .val (.int v15), .unset, .unset, .unset, .unset, .unset, .unset, .unset, .unset] [(.int (1 : Int32)), (.int v12)])) t
            refine XS.isub X13.here hx rfl (hb hby at_164) rfl ?_
            show Steps p.tables e below (T13.setTop (mkF m 165 #[.val (.long p0), .second, .val (.long p1), .second, .val (.int p2), .val (.int p3), .val (.int p4), .val (.long v1), .second, .val (.long v10), .second, .val (.int v3), .val (.int v12), .val (.int v14), .val (.int v15), .unset, .unset, .unset, .unset, .unset, .unset, .unset, .unset] [(.int (v12 - (1 : Int32)))])) t
            refine XS.goto X13.here hx rfl (pc0 := 165) (pc' := 172) rfl (hb hby at_165) (by decide) (by decide) ?_
            show Steps p.tables e below (T13.setTop (mkF m 172 #[.val (.long p0), .second, .val (.long p1), .second, .val (.int p2), .val (.int p3), .val (.int p4), .val (.long v1), .second, .val (.long v10), .second, .val (.int v3), .val (.int v12), .val (.int v14), .val (.int v15), .unset, .unset, .unset, .unset, .unset, .unset, .unset, .unset] [(.int (v12 - (1 : Int32)))])) t
            refine XS.istore X13.here hx rfl (hb hby at_172) rfl (l' := #[.val (.long p0), .second, .val (.long p1), .second, .val (.int p2), .val (.int p3), .val (.int p4), .val (.long v1), .second, .val (.long v10), .second, .val (.int v3), .val (.int v12), .val (.int (v12 - (1 : Int32))), .val (.int v15), .unset, .unset, .unset, .unset, .unset, .unset, .unset, .unset]) rfl ?_
            show Steps p.tables e below (T13.setTop (mkF m 174 #[.val (.long p0), .second, .val (.long p1), .second, .val (.int p2), .val (.int p3), .val (.int p4), .val (.long v1), .second, .val (.long v10), .second, .val (.int v3), .val (.int v12), .val (.int (v12 - (1 : Int32))), .val (.int v15), .unset, .unset, .unset, .unset, .unset, .unset, .unset, .unset] [])) t
            simp only [if_neg hq17, if_neg hq18, if_pos hq20, if_pos hq21] at k
            exact k
          · refine XS.icmpYes X13.here hx rfl (pc0 := 158) (pc' := 168) rfl (hb hby at_158) rfl (Jvm.Free.XT.ii_le_t hq21) (by decide) (by decide) ?_
            show Steps p.tables e below (T13.setTop (mkF m 168 #[.val (.long p0), .second, .val (.long p1), .second, .val (.int p2), .val (.int p3), .val (.int p4), .val (.long v1), .second, .val (.long v10), .second, .val (.int v3), .val (.int v12), .val (.int v14), .val (.int v15), .unset, .unset, .unset, .unset, .unset, .unset, .unset, .unset] [])) t
            refine XS.iload X13.here hx rfl (hb hby at_168) rfl ?_
            show Steps p.tables e below (T13.setTop (mkF m 170 #[.val (.long p0), .second, .val (.long p1), .second, .val (.int p2), .val (.int p3), .val (.int p4), .val (.long v1), .second, .val (.long v10), .second, .val (.int v3), .val (.int v12), .val (.int v14), .val (.int v15), .unset, .unset, .unset, .unset, .unset, .unset, .unset, .unset] [(.int v12)])) t
            refine XS.iconst X13.here hx rfl (hb hby at_170) ?_
            show Steps p.tables e below (T13.setTop (mkF m 171 #[.val (.long p0), .second, .val (.long p1), .second, .val (.int p2), .val (.int p3), .val (.int p4), .val (.long v1), .second, .val (.long v10), .second, .val (.int v3), .val (.int v12), .val (.int v14), .val (.int v15), .unset, .unset, .unset, .unset, .unset, .unset, .unset, .unset] [(.int (1 : Int32)), (.int v12)])) t
            refine XS.iadd X13.here hx rfl (hb hby at_171) rfl ?_
            show Steps p.tables e below (T13.setTop (mkF m 172 #[.val (.long p0), .second, .val (.long p1), .second, .val (.int p2), .val (.int p3), .val (.int p4), .val (.long v1), .second, .val (.long v10), .second, .val (.int v3), .val (.int v12), .val (.int v14), .val (.int v15), .unset, .unset, .unset, .unset, .unset, .unset, .unset, .unset] [(.int (v12 + (1 : Int32)))])) t
            refine XS.istore X13.here hx rfl (hb hby at_172) rfl (l' := #[.val (.long p0), .second, .val (.long p1), .second, .val (.int p2), .val (.int p3), .val (.int p4), .val (.long v1), .second, .val (.long v10), .second, .val (.int v3), .val (.int v12), .val (.int (v12 + (1 : Int32))), .val (.int v15), .unset, .unset, .unset, .unset, .unset, .unset, .unset, .unset]) rfl ?_
            show Steps p.tables e below (T13.setTop (mkF m 174 #[.val (.long p0), .second, .val (.long p1), .second, .val (.int p2), .val (.int p3), .val (.int p4), .val (.long v1), .second, .val (.long v10), .second, .val (.int v3), .val (.int v12), .val (.int (v12 + (1 : Int32))), .val (.int v15), .unset, .unset, .unset, .unset, .unset, .unset, .unset, .unset] [])) t
            simp only [if_neg hq17, if_neg hq18, if_pos hq20, if_neg hq21] at k
            exact k
        · refine XS.icmpYes X13.here hx rfl (pc0 := 152) (pc' := 174) rfl (hb hby at_152) rfl (Jvm.Free.XT.ii_ne_t hq20) (by decide) (by decide) ?_
          show Steps p.tables e below (T13.setTop (mkF m 174 #[.val (.long p0), .second, .val (.long p1), .second, .val (.int p2), .val (.int p3), .val (.int p4), .val (.long v1), .second, .val (.long v10), .second, .val (.int v3), .val (.int v12), .val (.int v14), .val (.int v15), .unset, .unset, .unset, .unset, .unset, .unset, .unset, .unset] [])) t
          simp only [if_neg hq17, if_neg hq18, if_neg hq20] at k
          exact k
  refine own_via st16 ?_
  show own_Go p e below s _ _ _ (T13.setTop (mkF m 174 #[.val (.long p0), .second, .val (.long p1), .second, .val (.int p2), .val (.int p3), .val (.int p4), .val (.long v1), .second, .val (.long v10), .second, .val (.int v3), .val (.int v12), .val (.int (if v15 = (0 : Int32) then v12 else (if v15 = (2 : Int32) then (if v12 < (2147483647 : Int32) then (v12 + (1 : Int32)) else (v12 - (1 : Int32))) else (if v15 = (3 : Int32) then (if (1 : Int32) < v12 then (v12 - (1 : Int32)) else (v12 + (1 : Int32))) else v14)))), .val (.int v15), .unset, .unset, .unset, .unset, .unset, .unset, .unset, .unset] []))
  generalize hv22 : (if v15 = (0 : Int32) then v12 else (if v15 = (2 : Int32) then (if v12 < (2147483647 : Int32) then (v12 + (1 : Int32)) else (v12 - (1 : Int32))) else (if v15 = (3 : Int32) then (if (1 : Int32) < v12 then (v12 - (1 : Int32)) else (v12 + (1 : Int32))) else v14))) = v22
  show own_Go p e below s _ _ _ (T13.setTop (mkF m 174 #[.val (.long p0), .second, .val (.long p1), .second, .val (.int p2), .val (.int p3), .val (.int p4), .val (.long v1), .second, .val (.long v10), .second, .val (.int v3), .val (.int v12), .val (.int v22), .val (.int v15), .unset, .unset, .unset, .unset, .unset, .unset, .unset, .unset] []))
  obtain ⟨T23, h23, X23, e23, E23, A23, D23, -, st23⟩ := newO X13 hx hZ hown (hw _ (List.mem_of_getElem? (i := 6) rfl)) (hw _ (List.mem_of_getElem? (i := 7) rfl)) (hw _ (List.mem_of_getElem? (i := 8) rfl)) e13 (g := (mkF m 174 #[.val (.long p0), .second, .val (.long p1), .second, .val (.int p2), .val (.int p3), .val (.int p4), .val (.long v1), .second, .val (.long v10), .second, .val (.int v3), .val (.int v12), .val (.int v22), .val (.int v15), .unset, .unset, .unset, .unset, .unset, .unset, .unset, .unset] [])) rfl (hb hby at_174) (by decide) (by decide)
  obtain ⟨b23, gg23⟩ : ∃ z, z = h0.size := ⟨_, rfl⟩
  rw [← gg23] at A23 D23 st23
  have g_b23 : n0 ≤ b23 := Nat.le_trans Z0 (Nat.le_of_eq gg23.symm)
  have Z23 : n0 ≤ h23.size := Nat.le_trans Z0 E23.1
  have F24 : Fld Z h23 b23 "com/example/greenbelt/greenbelt/model/RequestId" "timestamp" "J" (.long (0 : Int64)) := D23 (Or.inr (hw _ (List.mem_of_getElem? (i := 21) rfl))) (ty := .long) (by decide)
  have F25 : Fld Z h23 b23 "com/example/greenbelt/greenbelt/model/RequestId" "member" "I" (.int (0 : Int32)) := D23 (Or.inr (hw _ (List.mem_of_getElem? (i := 23) rfl))) (ty := .int) (by decide)
  refine own_via st23 ?_
  show own_Go p e below s _ _ _ (T23.setTop (mkF m 177 #[.val (.long p0), .second, .val (.long p1), .second, .val (.int p2), .val (.int p3), .val (.int p4), .val (.long v1), .second, .val (.long v10), .second, .val (.int v3), .val (.int v12), .val (.int v22), .val (.int v15), .unset, .unset, .unset, .unset, .unset, .unset, .unset, .unset] [(.ref b23)]))
  refine own_via (fun _ k => XS.dup X23.here hx rfl (hb hby at_177) rfl rfl k) ?_
  show own_Go p e below s _ _ _ (T23.setTop (mkF m 178 #[.val (.long p0), .second, .val (.long p1), .second, .val (.int p2), .val (.int p3), .val (.int p4), .val (.long v1), .second, .val (.long v10), .second, .val (.int v3), .val (.int v12), .val (.int v22), .val (.int v15), .unset, .unset, .unset, .unset, .unset, .unset, .unset, .unset] [(.ref b23), (.ref b23)]))
  refine own_via (fun _ k => XS.lload X23.here hx rfl (hb hby at_178) rfl k) ?_
  show own_Go p e below s _ _ _ (T23.setTop (mkF m 180 #[.val (.long p0), .second, .val (.long p1), .second, .val (.int p2), .val (.int p3), .val (.int p4), .val (.long v1), .second, .val (.long v10), .second, .val (.int v3), .val (.int v12), .val (.int v22), .val (.int v15), .unset, .unset, .unset, .unset, .unset, .unset, .unset, .unset] [(.long v10), (.ref b23), (.ref b23)]))
  refine own_via (fun _ k => XS.iload X23.here hx rfl (hb hby at_180) rfl k) ?_
  show own_Go p e below s _ _ _ (T23.setTop (mkF m 182 #[.val (.long p0), .second, .val (.long p1), .second, .val (.int p2), .val (.int p3), .val (.int p4), .val (.long v1), .second, .val (.long v10), .second, .val (.int v3), .val (.int v12), .val (.int v22), .val (.int v15), .unset, .unset, .unset, .unset, .unset, .unset, .unset, .unset] [(.int v12), (.long v10), (.ref b23), (.ref b23)]))
  obtain ⟨_, _, ⟨T26, L26, k26, n26⟩, -, X26, ⟨Lc26, hQ26, l26, y26, z26⟩, st26⟩ := X23.specialBack hx (y := (⟨"com/example/greenbelt/greenbelt/model/RequestId", "<init>", "(JI)V"⟩ : MethodName)) rfl hown (mvT hZ (hw _ (List.mem_of_getElem? (i := 9) rfl))) (mvT hZ (hw _ (List.mem_of_getElem? (i := 10) rfl))) (mvT hZ (hw _ (List.mem_of_getElem? (i := 11) rfl))) (by decide) (backOf (W := 1) (rm2 l Z a0 hw [] b23 v10 v12 h23 n0 Z23 A23 F24 F25 g_b23 (by rw [← hv10]; exact own_tt (by rw [← hv1]; exact own_nn _) (by rw [← hv2]; exact own_nn _)) (by rw [← hv12]; exact own_mm _)) hZ (hw _ (List.mem_of_getElem? (i := 11) rfl)) (hw _ (List.mem_of_getElem? (i := 8) rfl)) (by decide) (by decide)) (g := (mkF m 182 #[.val (.long p0), .second, .val (.long p1), .second, .val (.int p2), .val (.int p3), .val (.int p4), .val (.long v1), .second, .val (.long v10), .second, .val (.int v3), .val (.int v12), .val (.int v22), .val (.int v15), .unset, .unset, .unset, .unset, .unset, .unset, .unset, .unset] [(.int v12), (.long v10), (.ref b23), (.ref b23)])) rfl (by rw [hml]; rfl) (Steps.refl _) (a := b23) (argsL := [(.long v10), (.int v12)]) (rest := [(.ref b23)]) (lenOf pd_2 rfl) rfl (by show 2 * 0 + _ ≤ _; exact Nat.le_of_eq rfl) (hb hby at_182) (fun _ _ => ⟨rfl, e23, (by decide : 1 + 0 ≤ _), (by decide : 2 + 0 ≤ _)⟩)
  dsimp only [Pt.U, Pt.locs, Pt.cells, Pt.slots] at X26 l26 y26 z26 st26 hQ26
  subst l26 y26 z26
  obtain ⟨h26, e26⟩ : ∃ h, T26.heap = h := ⟨_, rfl⟩
  rw [e26] at hQ26
  obtain ⟨rfl, N26q, Kq26, F27, F28, F29⟩ := hQ26
  have Z26 : n0 ≤ h26.size := Nat.le_trans Z23 Kq26.1
  have N26 := Fr.app N13 N26q
  refine own_viaT st26 ?_
  show own_Go p e below s _ _ _ (T26.setTop (mkF m 185 #[.val (.long p0), .second, .val (.long p1), .second, .val (.int p2), .val (.int p3), .val (.int p4), .val (.long v1), .second, .val (.long v10), .second, .val (.int v3), .val (.int v12), .val (.int v22), .val (.int v15), .unset, .unset, .unset, .unset, .unset, .unset, .unset, .unset] [(.ref b23)]))
  refine own_via (fun _ k => XS.astore X26.here hx rfl (hb hby at_185) rfl rfl (l' := #[.val (.long p0), .second, .val (.long p1), .second, .val (.int p2), .val (.int p3), .val (.int p4), .val (.long v1), .second, .val (.long v10), .second, .val (.int v3), .val (.int v12), .val (.int v22), .val (.int v15), .val (.ref b23), .unset, .unset, .unset, .unset, .unset, .unset, .unset]) rfl k) ?_
  show own_Go p e below s _ _ _ (T26.setTop (mkF m 187 #[.val (.long p0), .second, .val (.long p1), .second, .val (.int p2), .val (.int p3), .val (.int p4), .val (.long v1), .second, .val (.long v10), .second, .val (.int v3), .val (.int v12), .val (.int v22), .val (.int v15), .val (.ref b23), .unset, .unset, .unset, .unset, .unset, .unset, .unset] []))
  obtain ⟨T30, h30, X30, e30, E30, A30, D30, -, st30⟩ := newO X26 hx hZ hown (hw _ (List.mem_of_getElem? (i := 6) rfl)) (hw _ (List.mem_of_getElem? (i := 7) rfl)) (hw _ (List.mem_of_getElem? (i := 8) rfl)) e26 (g := (mkF m 187 #[.val (.long p0), .second, .val (.long p1), .second, .val (.int p2), .val (.int p3), .val (.int p4), .val (.long v1), .second, .val (.long v10), .second, .val (.int v3), .val (.int v12), .val (.int v22), .val (.int v15), .val (.ref b23), .unset, .unset, .unset, .unset, .unset, .unset, .unset] [])) rfl (hb hby at_187) (by decide) (by decide)
  obtain ⟨b30, gg30⟩ : ∃ z, z = h26.size := ⟨_, rfl⟩
  rw [← gg30] at A30 D30 st30
  have ne_b23_b30 : b23 ≠ b30 := Nat.ne_of_lt (Nat.lt_of_lt_of_le F27.lt (Nat.le_of_eq gg30.symm))
  have g_b30 : n0 ≤ b30 := Nat.le_trans Z26 (Nat.le_of_eq gg30.symm)
  have Z30 : n0 ≤ h30.size := Nat.le_trans Z26 E30.1
  have F31 : Fld Z h30 b30 "com/example/greenbelt/greenbelt/model/RequestId" "timestamp" "J" (.long (0 : Int64)) := D30 (Or.inr (hw _ (List.mem_of_getElem? (i := 21) rfl))) (ty := .long) (by decide)
  have F32 : Fld Z h30 b30 "com/example/greenbelt/greenbelt/model/RequestId" "member" "I" (.int (0 : Int32)) := D30 (Or.inr (hw _ (List.mem_of_getElem? (i := 23) rfl))) (ty := .int) (by decide)
  refine own_via st30 ?_
  show own_Go p e below s _ _ _ (T30.setTop (mkF m 190 #[.val (.long p0), .second, .val (.long p1), .second, .val (.int p2), .val (.int p3), .val (.int p4), .val (.long v1), .second, .val (.long v10), .second, .val (.int v3), .val (.int v12), .val (.int v22), .val (.int v15), .val (.ref b23), .unset, .unset, .unset, .unset, .unset, .unset, .unset] [(.ref b30)]))
  refine own_via (fun _ k => XS.dup X30.here hx rfl (hb hby at_190) rfl rfl k) ?_
  show own_Go p e below s _ _ _ (T30.setTop (mkF m 191 #[.val (.long p0), .second, .val (.long p1), .second, .val (.int p2), .val (.int p3), .val (.int p4), .val (.long v1), .second, .val (.long v10), .second, .val (.int v3), .val (.int v12), .val (.int v22), .val (.int v15), .val (.ref b23), .unset, .unset, .unset, .unset, .unset, .unset, .unset] [(.ref b30), (.ref b30)]))
  refine own_via (fun _ k => XS.lload X30.here hx rfl (hb hby at_191) rfl k) ?_
  show own_Go p e below s _ _ _ (T30.setTop (mkF m 193 #[.val (.long p0), .second, .val (.long p1), .second, .val (.int p2), .val (.int p3), .val (.int p4), .val (.long v1), .second, .val (.long v10), .second, .val (.int v3), .val (.int v12), .val (.int v22), .val (.int v15), .val (.ref b23), .unset, .unset, .unset, .unset, .unset, .unset, .unset] [(.long v1), (.ref b30), (.ref b30)]))
  refine own_via (fun _ k => XS.iload X30.here hx rfl (hb hby at_193) rfl k) ?_
  show own_Go p e below s _ _ _ (T30.setTop (mkF m 195 #[.val (.long p0), .second, .val (.long p1), .second, .val (.int p2), .val (.int p3), .val (.int p4), .val (.long v1), .second, .val (.long v10), .second, .val (.int v3), .val (.int v12), .val (.int v22), .val (.int v15), .val (.ref b23), .unset, .unset, .unset, .unset, .unset, .unset, .unset] [(.int v22), (.long v1), (.ref b30), (.ref b30)]))
  obtain ⟨_, _, ⟨T33, L33, k33, n33⟩, -, X33, ⟨Lc33, hQ33, l33, y33, z33⟩, st33⟩ := X30.specialBack hx (y := (⟨"com/example/greenbelt/greenbelt/model/RequestId", "<init>", "(JI)V"⟩ : MethodName)) rfl hown (mvT hZ (hw _ (List.mem_of_getElem? (i := 9) rfl))) (mvT hZ (hw _ (List.mem_of_getElem? (i := 10) rfl))) (mvT hZ (hw _ (List.mem_of_getElem? (i := 11) rfl))) (by decide) (backOf (W := 1) (rm2 l Z a0 hw [] b30 v1 v22 h30 n0 Z30 A30 F31 F32 g_b30 (by rw [← hv1]; exact own_nn _) (by rw [← hv22]; exact own_m2 (by rw [← hv12]; exact own_mm _) (by rw [← hv14]; exact own_mm _))) hZ (hw _ (List.mem_of_getElem? (i := 11) rfl)) (hw _ (List.mem_of_getElem? (i := 8) rfl)) (by decide) (by decide)) (g := (mkF m 195 #[.val (.long p0), .second, .val (.long p1), .second, .val (.int p2), .val (.int p3), .val (.int p4), .val (.long v1), .second, .val (.long v10), .second, .val (.int v3), .val (.int v12), .val (.int v22), .val (.int v15), .val (.ref b23), .unset, .unset, .unset, .unset, .unset, .unset, .unset] [(.int v22), (.long v1), (.ref b30), (.ref b30)])) rfl (by rw [hml]; rfl) (Steps.refl _) (a := b30) (argsL := [(.long v1), (.int v22)]) (rest := [(.ref b30)]) (lenOf pd_2 rfl) rfl (by show 2 * 0 + _ ≤ _; exact Nat.le_of_eq rfl) (hb hby at_195) (fun _ _ => ⟨rfl, e30, (by decide : 2 + 0 ≤ _), (by decide : 4 + 0 ≤ _)⟩)
  dsimp only [Pt.U, Pt.locs, Pt.cells, Pt.slots] at X33 l33 y33 z33 st33 hQ33
  subst l33 y33 z33
  obtain ⟨h33, e33⟩ : ∃ h, T33.heap = h := ⟨_, rfl⟩
  rw [e33] at hQ33
  obtain ⟨rfl, N33q, Kq33, F34, F35, F36⟩ := hQ33
  have Z33 : n0 ≤ h33.size := Nat.le_trans Z30 Kq33.1
  have N33 := Fr.app N26 N33q
  refine own_viaT st33 ?_
  show own_Go p e below s _ _ _ (T33.setTop (mkF m 198 #[.val (.long p0), .second, .val (.long p1), .second, .val (.int p2), .val (.int p3), .val (.int p4), .val (.long v1), .second, .val (.long v10), .second, .val (.int v3), .val (.int v12), .val (.int v22), .val (.int v15), .val (.ref b23), .unset, .unset, .unset, .unset, .unset, .unset, .unset] [(.ref b30)]))
  refine own_via (fun _ k => XS.astore X33.here hx rfl (hb hby at_198) rfl rfl (l' := #[.val (.long p0), .second, .val (.long p1), .second, .val (.int p2), .val (.int p3), .val (.int p4), .val (.long v1), .second, .val (.long v10), .second, .val (.int v3), .val (.int v12), .val (.int v22), .val (.int v15), .val (.ref b23), .val (.ref b30), .unset, .unset, .unset, .unset, .unset, .unset]) rfl k) ?_
  show own_Go p e below s _ _ _ (T33.setTop (mkF m 200 #[.val (.long p0), .second, .val (.long p1), .second, .val (.int p2), .val (.int p3), .val (.int p4), .val (.long v1), .second, .val (.long v10), .second, .val (.int v3), .val (.int v12), .val (.int v22), .val (.int v15), .val (.ref b23), .val (.ref b30), .unset, .unset, .unset, .unset, .unset, .unset] []))
  refine own_via (fun _ k => XS.aload X33.here hx rfl (hb hby at_200) rfl rfl k) ?_
  show own_Go p e below s _ _ _ (T33.setTop (mkF m 202 #[.val (.long p0), .second, .val (.long p1), .second, .val (.int p2), .val (.int p3), .val (.int p4), .val (.long v1), .second, .val (.long v10), .second, .val (.int v3), .val (.int v12), .val (.int v22), .val (.int v15), .val (.ref b23), .val (.ref b30), .unset, .unset, .unset, .unset, .unset, .unset] [(.ref b23)]))
  refine own_via (fun _ k => XS.aload X33.here hx rfl (hb hby at_202) rfl rfl k) ?_
  show own_Go p e below s _ _ _ (T33.setTop (mkF m 204 #[.val (.long p0), .second, .val (.long p1), .second, .val (.int p2), .val (.int p3), .val (.int p4), .val (.long v1), .second, .val (.long v10), .second, .val (.int v3), .val (.int v12), .val (.int v22), .val (.int v15), .val (.ref b23), .val (.ref b30), .unset, .unset, .unset, .unset, .unset, .unset] [(.ref b30), (.ref b23)]))
  have F38 := ((F29.ext E30).keep Kq33 (ninS ne_b23_b30 nin0))
  have F39 := ((F28.ext E30).keep Kq33 (ninS ne_b23_b30 nin0))
  have F40 := ((F27.ext E30).keep Kq33)
  obtain ⟨cq37, kq37, qa37, qb37, qc37⟩ := isOf hZ e33 F40
  obtain ⟨_, _, ⟨T37, L37, k37, n37⟩, -, X37, ⟨Lc37, hQ37, l37, y37, z37⟩, st37⟩ := X33.virtualBack hx (y := (⟨"com/example/greenbelt/greenbelt/model/RequestId", "outdates", "(Lcom/example/greenbelt/greenbelt/model/RequestId;)Z"⟩ : MethodName)) (z := (⟨"com/example/greenbelt/greenbelt/model/RequestId", "outdates", "(Lcom/example/greenbelt/greenbelt/model/RequestId;)Z"⟩ : MethodName)) hown (mvT hZ (hw _ (List.mem_of_getElem? (i := 24) rfl))) (mvT hZ (hw _ (List.mem_of_getElem? (i := 25) rfl))) (notFace_of_selects (args := #[]) (mvT hZ (hw _ (List.mem_of_getElem? (i := 27) rfl)))) (mvT hZ (hw _ (List.mem_of_getElem? (i := 27) rfl))) (mvT hZ (hw _ (List.mem_of_getElem? (i := 26) rfl))) (by decide) (backOf (W := 0) (rm5 l Z a0 hw [] b23 b30 v12 v10 v22 v1 h33 n0 Z33 F38 F39 F36 F35) hZ (hw _ (List.mem_of_getElem? (i := 28) rfl)) (hw _ (List.mem_of_getElem? (i := 8) rfl)) (by decide) (by decide)) qa37 qc37 (g := (mkF m 204 #[.val (.long p0), .second, .val (.long p1), .second, .val (.int p2), .val (.int p3), .val (.int p4), .val (.long v1), .second, .val (.long v10), .second, .val (.int v3), .val (.int v12), .val (.int v22), .val (.int v15), .val (.ref b23), .val (.ref b30), .unset, .unset, .unset, .unset, .unset, .unset] [(.ref b30), (.ref b23)])) rfl (by rw [hml]; rfl) (Steps.refl _) (argsL := [(.ref b30)]) (rest := []) (lenOf pd_3 rfl) rfl (by show 2 * 0 + _ ≤ _; exact Nat.le_of_eq rfl) (hb hby at_204) (fun _ _ => ⟨rfl, e33, (by decide : 2 + 0 ≤ _), (by decide : 4 + 0 ≤ _)⟩)
  dsimp only [Pt.U, Pt.locs, Pt.cells, Pt.slots] at X37 l37 y37 z37 st37 hQ37
  subst l37 y37 z37
  obtain ⟨rfl, N37q, e37⟩ := hQ37
  have N37 := Fr.app N33 N37q
  refine own_viaT st37 ?_
  show own_Go p e below s _ _ _ (T37.setTop (mkF m 207 #[.val (.long p0), .second, .val (.long p1), .second, .val (.int p2), .val (.int p3), .val (.int p4), .val (.long v1), .second, .val (.long v10), .second, .val (.int v3), .val (.int v12), .val (.int v22), .val (.int v15), .val (.ref b23), .val (.ref b30), .unset, .unset, .unset, .unset, .unset, .unset] [(.int (own_o v12 v10 v22 v1))]))
  refine own_via (fun _ k => XS.istore X37.here hx rfl (hb hby at_207) rfl (l' := #[.val (.long p0), .second, .val (.long p1), .second, .val (.int p2), .val (.int p3), .val (.int p4), .val (.long v1), .second, .val (.long v10), .second, .val (.int v3), .val (.int v12), .val (.int v22), .val (.int v15), .val (.ref b23), .val (.ref b30), .val (.int (own_o v12 v10 v22 v1)), .unset, .unset, .unset, .unset, .unset]) rfl k) ?_
  show own_Go p e below s _ _ _ (T37.setTop (mkF m 209 #[.val (.long p0), .second, .val (.long p1), .second, .val (.int p2), .val (.int p3), .val (.int p4), .val (.long v1), .second, .val (.long v10), .second, .val (.int v3), .val (.int v12), .val (.int v22), .val (.int v15), .val (.ref b23), .val (.ref b30), .val (.int (own_o v12 v10 v22 v1)), .unset, .unset, .unset, .unset, .unset] []))
  generalize hv41 : (own_o v12 v10 v22 v1) = v41
  show own_Go p e below s _ _ _ (T37.setTop (mkF m 209 #[.val (.long p0), .second, .val (.long p1), .second, .val (.int p2), .val (.int p3), .val (.int p4), .val (.long v1), .second, .val (.long v10), .second, .val (.int v3), .val (.int v12), .val (.int v22), .val (.int v15), .val (.ref b23), .val (.ref b30), .val (.int v41), .unset, .unset, .unset, .unset, .unset] []))
  refine own_via (fun _ k => XS.aload X37.here hx rfl (hb hby at_209) rfl rfl k) ?_
  show own_Go p e below s _ _ _ (T37.setTop (mkF m 211 #[.val (.long p0), .second, .val (.long p1), .second, .val (.int p2), .val (.int p3), .val (.int p4), .val (.long v1), .second, .val (.long v10), .second, .val (.int v3), .val (.int v12), .val (.int v22), .val (.int v15), .val (.ref b23), .val (.ref b30), .val (.int v41), .unset, .unset, .unset, .unset, .unset] [(.ref b30)]))
  refine own_via (fun _ k => XS.aload X37.here hx rfl (hb hby at_211) rfl rfl k) ?_
  show own_Go p e below s _ _ _ (T37.setTop (mkF m 213 #[.val (.long p0), .second, .val (.long p1), .second, .val (.int p2), .val (.int p3), .val (.int p4), .val (.long v1), .second, .val (.long v10), .second, .val (.int v3), .val (.int v12), .val (.int v22), .val (.int v15), .val (.ref b23), .val (.ref b30), .val (.int v41), .unset, .unset, .unset, .unset, .unset] [(.ref b23), (.ref b30)]))
  obtain ⟨cq42, kq42, qa42, qb42, qc42⟩ := isOf hZ e37 F34
  obtain ⟨_, _, ⟨T42, L42, k42, n42⟩, -, X42, ⟨Lc42, hQ42, l42, y42, z42⟩, st42⟩ := X37.virtualBack hx (y := (⟨"com/example/greenbelt/greenbelt/model/RequestId", "outdates", "(Lcom/example/greenbelt/greenbelt/model/RequestId;)Z"⟩ : MethodName)) (z := (⟨"com/example/greenbelt/greenbelt/model/RequestId", "outdates", "(Lcom/example/greenbelt/greenbelt/model/RequestId;)Z"⟩ : MethodName)) hown (mvT hZ (hw _ (List.mem_of_getElem? (i := 24) rfl))) (mvT hZ (hw _ (List.mem_of_getElem? (i := 25) rfl))) (notFace_of_selects (args := #[]) (mvT hZ (hw _ (List.mem_of_getElem? (i := 27) rfl)))) (mvT hZ (hw _ (List.mem_of_getElem? (i := 27) rfl))) (mvT hZ (hw _ (List.mem_of_getElem? (i := 26) rfl))) (by decide) (backOf (W := 0) (rm5 l Z a0 hw [] b30 b23 v22 v1 v12 v10 h33 n0 Z33 F36 F35 F38 F39) hZ (hw _ (List.mem_of_getElem? (i := 28) rfl)) (hw _ (List.mem_of_getElem? (i := 8) rfl)) (by decide) (by decide)) qa42 qc42 (g := (mkF m 213 #[.val (.long p0), .second, .val (.long p1), .second, .val (.int p2), .val (.int p3), .val (.int p4), .val (.long v1), .second, .val (.long v10), .second, .val (.int v3), .val (.int v12), .val (.int v22), .val (.int v15), .val (.ref b23), .val (.ref b30), .val (.int v41), .unset, .unset, .unset, .unset, .unset] [(.ref b23), (.ref b30)])) rfl (by rw [hml]; rfl) (Steps.refl _) (argsL := [(.ref b23)]) (rest := []) (lenOf pd_3 rfl) rfl (by show 2 * 0 + _ ≤ _; exact Nat.le_of_eq rfl) (hb hby at_213) (fun _ _ => ⟨rfl, e37, (by decide : 2 + 0 ≤ _), (by decide : 4 + 0 ≤ _)⟩)
  dsimp only [Pt.U, Pt.locs, Pt.cells, Pt.slots] at X42 l42 y42 z42 st42 hQ42
  subst l42 y42 z42
  obtain ⟨rfl, N42q, e42⟩ := hQ42
  have N42 := Fr.app N37 N42q
  refine own_viaT st42 ?_
  show own_Go p e below s _ _ _ (T42.setTop (mkF m 216 #[.val (.long p0), .second, .val (.long p1), .second, .val (.int p2), .val (.int p3), .val (.int p4), .val (.long v1), .second, .val (.long v10), .second, .val (.int v3), .val (.int v12), .val (.int v22), .val (.int v15), .val (.ref b23), .val (.ref b30), .val (.int v41), .unset, .unset, .unset, .unset, .unset] [(.int (own_o v22 v1 v12 v10))]))
  refine own_via (fun _ k => XS.istore X42.here hx rfl (hb hby at_216) rfl (l' := #[.val (.long p0), .second, .val (.long p1), .second, .val (.int p2), .val (.int p3), .val (.int p4), .val (.long v1), .second, .val (.long v10), .second, .val (.int v3), .val (.int v12), .val (.int v22), .val (.int v15), .val (.ref b23), .val (.ref b30), .val (.int v41), .val (.int (own_o v22 v1 v12 v10)), .unset, .unset, .unset, .unset]) rfl k) ?_
  show own_Go p e below s _ _ _ (T42.setTop (mkF m 218 #[.val (.long p0), .second, .val (.long p1), .second, .val (.int p2), .val (.int p3), .val (.int p4), .val (.long v1), .second, .val (.long v10), .second, .val (.int v3), .val (.int v12), .val (.int v22), .val (.int v15), .val (.ref b23), .val (.ref b30), .val (.int v41), .val (.int (own_o v22 v1 v12 v10)), .unset, .unset, .unset, .unset] []))
  generalize hv43 : (own_o v22 v1 v12 v10) = v43
  show own_Go p e below s _ _ _ (T42.setTop (mkF m 218 #[.val (.long p0), .second, .val (.long p1), .second, .val (.int p2), .val (.int p3), .val (.int p4), .val (.long v1), .second, .val (.long v10), .second, .val (.int v3), .val (.int v12), .val (.int v22), .val (.int v15), .val (.ref b23), .val (.ref b30), .val (.int v41), .val (.int v43), .unset, .unset, .unset, .unset] []))
  refine own_via (fun _ k => XS.aload X42.here hx rfl (hb hby at_218) rfl rfl k) ?_
  show own_Go p e below s _ _ _ (T42.setTop (mkF m 220 #[.val (.long p0), .second, .val (.long p1), .second, .val (.int p2), .val (.int p3), .val (.int p4), .val (.long v1), .second, .val (.long v10), .second, .val (.int v3), .val (.int v12), .val (.int v22), .val (.int v15), .val (.ref b23), .val (.ref b30), .val (.int v41), .val (.int v43), .unset, .unset, .unset, .unset] [(.ref b23)]))
  refine own_via (fun _ k => XS.aload X42.here hx rfl (hb hby at_220) rfl rfl k) ?_
  show own_Go p e below s _ _ _ (T42.setTop (mkF m 222 #[.val (.long p0), .second, .val (.long p1), .second, .val (.int p2), .val (.int p3), .val (.int p4), .val (.long v1), .second, .val (.long v10), .second, .val (.int v3), .val (.int v12), .val (.int v22), .val (.int v15), .val (.ref b23), .val (.ref b30), .val (.int v41), .val (.int v43), .unset, .unset, .unset, .unset] [(.ref b23), (.ref b23)]))
  obtain ⟨cq44, kq44, qa44, qb44, qc44⟩ := isOf hZ e42 F40
  obtain ⟨_, _, ⟨T44, L44, k44, n44⟩, -, X44, ⟨Lc44, hQ44, l44, y44, z44⟩, st44⟩ := X42.virtualBack hx (y := (⟨"com/example/greenbelt/greenbelt/model/RequestId", "outdates", "(Lcom/example/greenbelt/greenbelt/model/RequestId;)Z"⟩ : MethodName)) (z := (⟨"com/example/greenbelt/greenbelt/model/RequestId", "outdates", "(Lcom/example/greenbelt/greenbelt/model/RequestId;)Z"⟩ : MethodName)) hown (mvT hZ (hw _ (List.mem_of_getElem? (i := 24) rfl))) (mvT hZ (hw _ (List.mem_of_getElem? (i := 25) rfl))) (notFace_of_selects (args := #[]) (mvT hZ (hw _ (List.mem_of_getElem? (i := 27) rfl)))) (mvT hZ (hw _ (List.mem_of_getElem? (i := 27) rfl))) (mvT hZ (hw _ (List.mem_of_getElem? (i := 26) rfl))) (by decide) (backOf (W := 0) (rm5 l Z a0 hw [] b23 b23 v12 v10 v12 v10 h33 n0 Z33 F38 F39 F38 F39) hZ (hw _ (List.mem_of_getElem? (i := 28) rfl)) (hw _ (List.mem_of_getElem? (i := 8) rfl)) (by decide) (by decide)) qa44 qc44 (g := (mkF m 222 #[.val (.long p0), .second, .val (.long p1), .second, .val (.int p2), .val (.int p3), .val (.int p4), .val (.long v1), .second, .val (.long v10), .second, .val (.int v3), .val (.int v12), .val (.int v22), .val (.int v15), .val (.ref b23), .val (.ref b30), .val (.int v41), .val (.int v43), .unset, .unset, .unset, .unset] [(.ref b23), (.ref b23)])) rfl (by rw [hml]; rfl) (Steps.refl _) (argsL := [(.ref b23)]) (rest := []) (lenOf pd_3 rfl) rfl (by show 2 * 0 + _ ≤ _; exact Nat.le_of_eq rfl) (hb hby at_222) (fun _ _ => ⟨rfl, e42, (by decide : 2 + 0 ≤ _), (by decide : 4 + 0 ≤ _)⟩)
  dsimp only [Pt.U, Pt.locs, Pt.cells, Pt.slots] at X44 l44 y44 z44 st44 hQ44
  subst l44 y44 z44
  obtain ⟨rfl, N44q, e44⟩ := hQ44
  have N44 := Fr.app N42 N44q
  refine own_viaT st44 ?_
  show own_Go p e below s _ _ _ (T44.setTop (mkF m 225 #[.val (.long p0), .second, .val (.long p1), .second, .val (.int p2), .val (.int p3), .val (.int p4), .val (.long v1), .second, .val (.long v10), .second, .val (.int v3), .val (.int v12), .val (.int v22), .val (.int v15), .val (.ref b23), .val (.ref b30), .val (.int v41), .val (.int v43), .unset, .unset, .unset, .unset] [(.int (own_o v12 v10 v12 v10))]))
  refine own_via (fun _ k => XS.istore X44.here hx rfl (hb hby at_225) rfl (l' := #[.val (.long p0), .second, .val (.long p1), .second, .val (.int p2), .val (.int p3), .val (.int p4), .val (.long v1), .second, .val (.long v10), .second, .val (.int v3), .val (.int v12), .val (.int v22), .val (.int v15), .val (.ref b23), .val (.ref b30), .val (.int v41), .val (.int v43), .val (.int (own_o v12 v10 v12 v10)), .unset, .unset, .unset]) rfl k) ?_
  show own_Go p e below s _ _ _ (T44.setTop (mkF m 227 #[.val (.long p0), .second, .val (.long p1), .second, .val (.int p2), .val (.int p3), .val (.int p4), .val (.long v1), .second, .val (.long v10), .second, .val (.int v3), .val (.int v12), .val (.int v22), .val (.int v15), .val (.ref b23), .val (.ref b30), .val (.int v41), .val (.int v43), .val (.int (own_o v12 v10 v12 v10)), .unset, .unset, .unset] []))
  generalize hv45 : (own_o v12 v10 v12 v10) = v45
  show own_Go p e below s _ _ _ (T44.setTop (mkF m 227 #[.val (.long p0), .second, .val (.long p1), .second, .val (.int p2), .val (.int p3), .val (.int p4), .val (.long v1), .second, .val (.long v10), .second, .val (.int v3), .val (.int v12), .val (.int v22), .val (.int v15), .val (.ref b23), .val (.ref b30), .val (.int v41), .val (.int v43), .val (.int v45), .unset, .unset, .unset] []))
  have st46 : ∀ t, Steps p.tables e below (T44.setTop (mkF m 239 #[.val (.long p0), .second, .val (.long p1), .second, .val (.int p2), .val (.int p3), .val (.int p4), .val (.long v1), .second, .val (.long v10), .second, .val (.int v3), .val (.int v12), .val (.int v22), .val (.int v15), .val (.ref b23), .val (.ref b30), .val (.int v41), .val (.int v43), .val (.int v45), .unset, .unset, .unset] [(.int (if v12 = v22 then (1 : Int32) else (0 : Int32)))])) t → Steps p.tables e below (T44.setTop (mkF m 227 #[.val (.long p0), .second, .val (.long p1), .second, .val (.int p2), .val (.int p3), .val (.int p4), .val (.long v1), .second, .val (.long v10), .second, .val (.int v3), .val (.int v12), .val (.int v22), .val (.int v15), .val (.ref b23), .val (.ref b30), .val (.int v41), .val (.int v43), .val (.int v45), .unset, .unset, .unset] [])) t := by
    intro t k
    refine XS.iload X44.here hx rfl (hb hby at_227) rfl ?_
    show Steps p.tables e below (T44.setTop (mkF m 229 #[.val (.long p0), .second, .val (.long p1), .second, .val (.int p2), .val (.int p3), .val (.int p4), .val (.long v1), .second, .val (.long v10), .second, .val (.int v3), .val (.int v12), .val (.int v22), .val (.int v15), .val (.ref b23), .val (.ref b30), .val (.int v41), .val (.int v43), .val (.int v45), .unset, .unset, .unset] [(.int v12)])) t
    refine XS.iload X44.here hx rfl (hb hby at_229) rfl ?_
    show Steps p.tables e below (T44.setTop (mkF m 231 #[.val (.long p0), .second, .val (.long p1), .second, .val (.int p2), .val (.int p3), .val (.int p4), .val (.long v1), .second, .val (.long v10), .second, .val (.int v3), .val (.int v12), .val (.int v22), .val (.int v15), .val (.ref b23), .val (.ref b30), .val (.int v41), .val (.int v43), .val (.int v45), .unset, .unset, .unset] [(.int v22), (.int v12)])) t
    by_cases hq47 : v12 = v22
    · refine XS.icmpNo X44.here hx rfl (hb hby at_231) rfl (Jvm.Free.XT.ii_ne_f hq47) ?_
      show Steps p.tables e below (T44.setTop (mkF m 234 #[.val (.long p0), .second, .val (.long p1), .second, .val (.int p2), .val (.int p3), .val (.int p4), .val (.long v1), .second, .val (.long v10), .second, .val (.int v3), .val (.int v12), .val (.int v22), .val (.int v15), .val (.ref b23), .val (.ref b30), .val (.int v41), .val (.int v43), .val (.int v45), .unset, .unset, .unset] [])) t
      refine XS.iconst X44.here hx rfl (hb hby at_234) ?_
      show Steps p.tables e below (T44.setTop (mkF m 235 #[.val (.long p0), .second, .val (.long p1), .second, .val (.int p2), .val (.int p3), .val (.int p4), .val (.long v1), .second, .val (.long v10), .second, .val (.int v3), .val (.int v12), .val (.int v22), .val (.int v15), .val (.ref b23), .val (.ref b30), .val (.int v41), .val (.int v43), .val (.int v45), .unset, .unset, .unset] [(.int (1 : Int32))])) t
      refine XS.goto X44.here hx rfl (pc0 := 235) (pc' := 239) rfl (hb hby at_235) (by decide) (by decide) ?_
      show Steps p.tables e below (T44.setTop (mkF m 239 #[.val (.long p0), .second, .val (.long p1), .second, .val (.int p2), .val (.int p3), .val (.int p4), .val (.long v1), .second, .val (.long v10), .second, .val (.int v3), .val (.int v12), .val (.int v22), .val (.int v15), .val (.ref b23), .val (.ref b30), .val (.int v41), .val (.int v43), .val (.int v45), .unset, .unset, .unset] [(.int (1 : Int32))])) t
      simp only [if_pos hq47] at k
      exact k
    · refine XS.icmpYes X44.here hx rfl (pc0 := 231) (pc' := 238) rfl (hb hby at_231) rfl (Jvm.Free.XT.ii_ne_t hq47) (by decide) (by decide) ?_
      show Steps p.tables e below (T44.setTop (mkF m 238 #[.val (.long p0), .second, .val (.long p1), .second, .val (.int p2), .val (.int p3), .val (.int p4), .val (.long v1), .second, .val (.long v10), .second, .val (.int v3), .val (.int v12), .val (.int v22), .val (.int v15), .val (.ref b23), .val (.ref b30), .val (.int v41), .val (.int v43), .val (.int v45), .unset, .unset, .unset] [])) t
      refine XS.iconst X44.here hx rfl (hb hby at_238) ?_
      show Steps p.tables e below (T44.setTop (mkF m 239 #[.val (.long p0), .second, .val (.long p1), .second, .val (.int p2), .val (.int p3), .val (.int p4), .val (.long v1), .second, .val (.long v10), .second, .val (.int v3), .val (.int v12), .val (.int v22), .val (.int v15), .val (.ref b23), .val (.ref b30), .val (.int v41), .val (.int v43), .val (.int v45), .unset, .unset, .unset] [(.int (0 : Int32))])) t
      simp only [if_neg hq47] at k
      exact k
  refine own_via st46 ?_
  show own_Go p e below s _ _ _ (T44.setTop (mkF m 239 #[.val (.long p0), .second, .val (.long p1), .second, .val (.int p2), .val (.int p3), .val (.int p4), .val (.long v1), .second, .val (.long v10), .second, .val (.int v3), .val (.int v12), .val (.int v22), .val (.int v15), .val (.ref b23), .val (.ref b30), .val (.int v41), .val (.int v43), .val (.int v45), .unset, .unset, .unset] [(.int (if v12 = v22 then (1 : Int32) else (0 : Int32)))]))
  refine own_via (fun _ k => XS.istore X44.here hx rfl (hb hby at_239) rfl (l' := #[.val (.long p0), .second, .val (.long p1), .second, .val (.int p2), .val (.int p3), .val (.int p4), .val (.long v1), .second, .val (.long v10), .second, .val (.int v3), .val (.int v12), .val (.int v22), .val (.int v15), .val (.ref b23), .val (.ref b30), .val (.int v41), .val (.int v43), .val (.int v45), .val (.int (if v12 = v22 then (1 : Int32) else (0 : Int32))), .unset, .unset]) rfl k) ?_
  show own_Go p e below s _ _ _ (T44.setTop (mkF m 241 #[.val (.long p0), .second, .val (.long p1), .second, .val (.int p2), .val (.int p3), .val (.int p4), .val (.long v1), .second, .val (.long v10), .second, .val (.int v3), .val (.int v12), .val (.int v22), .val (.int v15), .val (.ref b23), .val (.ref b30), .val (.int v41), .val (.int v43), .val (.int v45), .val (.int (if v12 = v22 then (1 : Int32) else (0 : Int32))), .unset, .unset] []))
  generalize hv48 : (if v12 = v22 then (1 : Int32) else (0 : Int32)) = v48
  show own_Go p e below s _ _ _ (T44.setTop (mkF m 241 #[.val (.long p0), .second, .val (.long p1), .second, .val (.int p2), .val (.int p3), .val (.int p4), .val (.long v1), .second, .val (.long v10), .second, .val (.int v3), .val (.int v12), .val (.int v22), .val (.int v15), .val (.ref b23), .val (.ref b30), .val (.int v41), .val (.int v43), .val (.int v45), .val (.int v48), .unset, .unset] []))
  have st49 : ∀ t, Steps p.tables e below (T44.setTop (mkF m 259 #[.val (.long p0), .second, .val (.long p1), .second, .val (.int p2), .val (.int p3), .val (.int p4), .val (.long v1), .second, .val (.long v10), .second, .val (.int v3), .val (.int v12), .val (.int v22), .val (.int v15), .val (.ref b23), .val (.ref b30), .val (.int v41), .val (.int v43), .val (.int v45), .val (.int v48), .unset, .unset] [(.int (if v48 = (0 : Int32) then (0 : Int32) else (if v1 < v10 then (1 : Int32) else (0 : Int32))))])) t → Steps p.tables e below (T44.setTop (mkF m 241 #[.val (.long p0), .second, .val (.long p1), .second, .val (.int p2), .val (.int p3), .val (.int p4), .val (.long v1), .second, .val (.long v10), .second, .val (.int v3), .val (.int v12), .val (.int v22), .val (.int v15), .val (.ref b23), .val (.ref b30), .val (.int v41), .val (.int v43), .val (.int v45), .val (.int v48), .unset, .unset] [])) t := by
    intro t k
    refine XS.iload X44.here hx rfl (hb hby at_241) rfl ?_
    show Steps p.tables e below (T44.setTop (mkF m 243 #[.val (.long p0), .second, .val (.long p1), .second, .val (.int p2), .val (.int p3), .val (.int p4), .val (.long v1), .second, .val (.long v10), .second, .val (.int v3), .val (.int v12), .val (.int v22), .val (.int v15), .val (.ref b23), .val (.ref b30), .val (.int v41), .val (.int v43), .val (.int v45), .val (.int v48), .unset, .unset] [(.int v48)])) t
    by_cases hq50 : v48 = (0 : Int32)
    · refine XS.ifYes X44.here hx rfl (pc0 := 243) (pc' := 258) rfl (hb hby at_243) rfl (Jvm.Free.XT.i0_eq_t hq50) (by decide) (by decide) ?_
      show Steps p.tables e below (T44.setTop (mkF m 258 #[.val (.long p0), .second, .val (.long p1), .second, .val (.int p2), .val (.int p3), .val (.int p4), .val (.long v1), .second, .val (.long v10), .second, .val (.int v3), .val (.int v12), .val (.int v22), .val (.int v15), .val (.ref b23), .val (.ref b30), .val (.int v41), .val (.int v43), .val (.int v45), .val (.int v48), .unset, .unset] [])) t
      refine XS.iconst X44.here hx rfl (hb hby at_258) ?_
      show Steps p.tables e below (T44.setTop (mkF m 259 #[.val (.long p0), .second, .val (.long p1), .second, .val (.int p2), .val (.int p3), .val (.int p4), .val (.long v1), .second, .val (.long v10), .second, .val (.int v3), .val (.int v12), .val (.int v22), .val (.int v15), .val (.ref b23), .val (.ref b30), .val (.int v41), .val (.int v43), .val (.int v45), .val (.int v48), .unset, .unset] [(.int (0 : Int32))])) t
      simp only [if_pos hq50] at k
      exact k
    · refine XS.ifNo X44.here hx rfl (hb hby at_243) rfl (Jvm.Free.XT.i0_eq_f hq50) ?_
      show Steps p.tables e below (T44.setTop (mkF m 246 #[.val (.long p0), .second, .val (.long p1), .second, .val (.int p2), .val (.int p3), .val (.int p4), .val (.long v1), .second, .val (.long v10), .second, .val (.int v3), .val (.int v12), .val (.int v22), .val (.int v15), .val (.ref b23), .val (.ref b30), .val (.int v41), .val (.int v43), .val (.int v45), .val (.int v48), .unset, .unset] [])) t
      refine XS.lload X44.here hx rfl (hb hby at_246) rfl ?_
      show Steps p.tables e below (T44.setTop (mkF m 248 #[.val (.long p0), .second, .val (.long p1), .second, .val (.int p2), .val (.int p3), .val (.int p4), .val (.long v1), .second, .val (.long v10), .second, .val (.int v3), .val (.int v12), .val (.int v22), .val (.int v15), .val (.ref b23), .val (.ref b30), .val (.int v41), .val (.int v43), .val (.int v45), .val (.int v48), .unset, .unset] [(.long v10)])) t
      refine XS.lload X44.here hx rfl (hb hby at_248) rfl ?_
      show Steps p.tables e below (T44.setTop (mkF m 250 #[.val (.long p0), .second, .val (.long p1), .second, .val (.int p2), .val (.int p3), .val (.int p4), .val (.long v1), .second, .val (.long v10), .second, .val (.int v3), .val (.int v12), .val (.int v22), .val (.int v15), .val (.ref b23), .val (.ref b30), .val (.int v41), .val (.int v43), .val (.int v45), .val (.int v48), .unset, .unset] [(.long v1), (.long v10)])) t
      refine XS.lcmp X44.here hx rfl (hb hby at_250) rfl ?_
      show Steps p.tables e below (T44.setTop (mkF m 251 #[.val (.long p0), .second, .val (.long p1), .second, .val (.int p2), .val (.int p3), .val (.int p4), .val (.long v1), .second, .val (.long v10), .second, .val (.int v3), .val (.int v12), .val (.int v22), .val (.int v15), .val (.ref b23), .val (.ref b30), .val (.int v41), .val (.int v43), .val (.int v45), .val (.int v48), .unset, .unset] [(.int (lcmpW v10 v1))])) t
      by_cases hq51 : v1 < v10
      · refine XS.ifNo X44.here hx rfl (hb hby at_251) rfl (Jvm.Free.XT.ll_le_f hq51) ?_
        show Steps p.tables e below (T44.setTop (mkF m 254 #[.val (.long p0), .second, .val (.long p1), .second, .val (.int p2), .val (.int p3), .val (.int p4), .val (.long v1), .second, .val (.long v10), .second, .val (.int v3), .val (.int v12), .val (.int v22), .val (.int v15), .val (.ref b23), .val (.ref b30), .val (.int v41), .val (.int v43), .val (.int v45), .val (.int v48), .unset, .unset] [])) t
        refine XS.iconst X44.here hx rfl (hb hby at_254) ?_
        show Steps p.tables e below (T44.setTop (mkF m 255 #[.val (.long p0), .second, .val (.long p1), .second, .val (.int p2), .val (.int p3), .val (.int p4), .val (.long v1), .second, .val (.long v10), .second, .val (.int v3), .val (.int v12), .val (.int v22), .val (.int v15), .val (.ref b23), .val (.ref b30), .val (.int v41), .val (.int v43), .val (.int v45), .val (.int v48), .unset, .unset] [(.int (1 : Int32))])) t
        refine XS.goto X44.here hx rfl (pc0 := 255) (pc' := 259) rfl (hb hby at_255) (by decide) (by decide) ?_
        show Steps p.tables e below (T44.setTop (mkF m 259 #[.val (.long p0), .second, .val (.long p1), .second, .val (.int p2), .val (.int p3), .val (.int p4), .val (.long v1), .second, .val (.long v10), .second, .val (.int v3), .val (.int v12), .val (.int v22), .val (.int v15), .val (.ref b23), .val (.ref b30), .val (.int v41), .val (.int v43), .val (.int v45), .val (.int v48), .unset, .unset] [(.int (1 : Int32))])) t
        simp only [if_neg hq50, if_pos hq51] at k
        exact k
      · refine XS.ifYes X44.here hx rfl (pc0 := 251) (pc' := 258) rfl (hb hby at_251) rfl (Jvm.Free.XT.ll_le_t hq51) (by decide) (by decide) ?_
        show Steps p.tables e below (T44.setTop (mkF m 258 #[.val (.long p0), .second, .val (.long p1), .second, .val (.int p2), .val (.int p3), .val (.int p4), .val (.long v1), .second, .val (.long v10), .second, .val (.int v3), .val (.int v12), .val (.int v22), .val (.int v15), .val (.ref b23), .val (.ref b30), .val (.int v41), .val (.int v43), .val (.int v45), .val (.int v48), .unset, .unset] [])) t
        refine XS.iconst X44.here hx rfl (hb hby at_258) ?_
        show Steps p.tables e below (T44.setTop (mkF m 259 #[.val (.long p0), .second, .val (.long p1), .second, .val (.int p2), .val (.int p3), .val (.int p4), .val (.long v1), .second, .val (.long v10), .second, .val (.int v3), .val (.int v12), .val (.int v22), .val (.int v15), .val (.ref b23), .val (.ref b30), .val (.int v41), .val (.int v43), .val (.int v45), .val (.int v48), .unset, .unset] [(.int (0 : Int32))])) t
        simp only [if_neg hq50, if_neg hq51] at k
        exact k
  refine own_via st49 ?_
  show own_Go p e below s _ _ _ (T44.setTop (mkF m 259 #[.val (.long p0), .second, .val (.long p1), .second, .val (.int p2), .val (.int p3), .val (.int p4), .val (.long v1), .second, .val (.long v10), .second, .val (.int v3), .val (.int v12), .val (.int v22), .val (.int v15), .val (.ref b23), .val (.ref b30), .val (.int v41), .val (.int v43), .val (.int v45), .val (.int v48), .unset, .unset] [(.int (if v48 = (0 : Int32) then (0 : Int32) else (if v1 < v10 then (1 : Int32) else (0 : Int32))))]))
  refine own_via (fun _ k => XS.istore X44.here hx rfl (hb hby at_259) rfl (l' := #[.val (.long p0), .second, .val (.long p1), .second, .val (.int p2), .val (.int p3), .val (.int p4), .val (.long v1), .second, .val (.long v10), .second, .val (.int v3), .val (.int v12), .val (.int v22), .val (.int v15), .val (.ref b23), .val (.ref b30), .val (.int v41), .val (.int v43), .val (.int v45), .val (.int v48), .val (.int (if v48 = (0 : Int32) then (0 : Int32) else (if v1 < v10 then (1 : Int32) else (0 : Int32)))), .unset]) rfl k) ?_
  show own_Go p e below s _ _ _ (T44.setTop (mkF m 261 #[.val (.long p0), .second, .val (.long p1), .second, .val (.int p2), .val (.int p3), .val (.int p4), .val (.long v1), .second, .val (.long v10), .second, .val (.int v3), .val (.int v12), .val (.int v22), .val (.int v15), .val (.ref b23), .val (.ref b30), .val (.int v41), .val (.int v43), .val (.int v45), .val (.int v48), .val (.int (if v48 = (0 : Int32) then (0 : Int32) else (if v1 < v10 then (1 : Int32) else (0 : Int32)))), .unset] []))
  generalize hv52 : (if v48 = (0 : Int32) then (0 : Int32) else (if v1 < v10 then (1 : Int32) else (0 : Int32))) = v52
  show own_Go p e below s _ _ _ (T44.setTop (mkF m 261 #[.val (.long p0), .second, .val (.long p1), .second, .val (.int p2), .val (.int p3), .val (.int p4), .val (.long v1), .second, .val (.long v10), .second, .val (.int v3), .val (.int v12), .val (.int v22), .val (.int v15), .val (.ref b23), .val (.ref b30), .val (.int v41), .val (.int v43), .val (.int v45), .val (.int v48), .val (.int v52), .unset] []))
  have st53 : ∀ t, Steps p.tables e below (T44.setTop (mkF m 279 #[.val (.long p0), .second, .val (.long p1), .second, .val (.int p2), .val (.int p3), .val (.int p4), .val (.long v1), .second, .val (.long v10), .second, .val (.int v3), .val (.int v12), .val (.int v22), .val (.int v15), .val (.ref b23), .val (.ref b30), .val (.int v41), .val (.int v43), .val (.int v45), .val (.int v48), .val (.int v52), .unset] [(.int (if v48 = (0 : Int32) then (0 : Int32) else (if v10 < v1 then (1 : Int32) else (0 : Int32))))])) t → Steps p.tables e below (T44.setTop (mkF m 261 #[.val (.long p0), .second, .val (.long p1), .second, .val (.int p2), .val (.int p3), .val (.int p4), .val (.long v1), .second, .val (.long v10), .second, .val (.int v3), .val (.int v12), .val (.int v22), .val (.int v15), .val (.ref b23), .val (.ref b30), .val (.int v41), .val (.int v43), .val (.int v45), .val (.int v48), .val (.int v52), .unset] [])) t := by
    intro t k
    refine XS.iload X44.here hx rfl (hb hby at_261) rfl ?_
    show Steps p.tables e below (T44.setTop (mkF m 263 #[.val (.long p0), .second, .val (.long p1), .second, .val (.int p2), .val (.int p3), .val (.int p4), .val (.long v1), .second, .val (.long v10), .second, .val (.int v3), .val (.int v12), .val (.int v22), .val (.int v15), .val (.ref b23), .val (.ref b30), .val (.int v41), .val (.int v43), .val (.int v45), .val (.int v48), .val (.int v52), .unset] [(.int v48)])) t
    by_cases hq54 : v48 = (0 : Int32)
    · refine XS.ifYes X44.here hx rfl (pc0 := 263) (pc' := 278) rfl (hb hby at_263) rfl (Jvm.Free.XT.i0_eq_t hq54) (by decide) (by decide) ?_
      show Steps p.tables e below (T44.setTop (mkF m 278 #[.val (.long p0), .second, .val (.long p1), .second, .val (.int p2), .val (.int p3), .val (.int p4), .val (.long v1), .second, .val (.long v10), .second, .val (.int v3), .val (.int v12), .val (.int v22), .val (.int v15), .val (.ref b23), .val (.ref b30), .val (.int v41), .val (.int v43), .val (.int v45), .val (.int v48), .val (.int v52), .unset] [])) t
      refine XS.iconst X44.here hx rfl (hb hby at_278) ?_
      show Steps p.tables e below (T44.setTop (mkF m 279 #[.val (.long p0), .second, .val (.long p1), .second, .val (.int p2), .val (.int p3), .val (.int p4), .val (.long v1), .second, .val (.long v10), .second, .val (.int v3), .val (.int v12), .val (.int v22), .val (.int v15), .val (.ref b23), .val (.ref b30), .val (.int v41), .val (.int v43), .val (.int v45), .val (.int v48), .val (.int v52), .unset] [(.int (0 : Int32))])) t
      simp only [if_pos hq54] at k
      exact k
    · refine XS.ifNo X44.here hx rfl (hb hby at_263) rfl (Jvm.Free.XT.i0_eq_f hq54) ?_
      show Steps p.tables e below (T44.setTop (mkF m 266 #[.val (.long p0), .second, .val (.long p1), .second, .val (.int p2), .val (.int p3), .val (.int p4), .val (.long v1), .second, .val (.long v10), .second, .val (.int v3), .val (.int v12), .val (.int v22), .val (.int v15), .val (.ref b23), .val (.ref b30), .val (.int v41), .val (.int v43), .val (.int v45), .val (.int v48), .val (.int v52), .unset] [])) t
      refine XS.lload X44.here hx rfl (hb hby at_266) rfl ?_
      show Steps p.tables e below (T44.setTop (mkF m 268 #[.val (.long p0), .second, .val (.long p1), .second, .val (.int p2), .val (.int p3), .val (.int p4), .val (.long v1), .second, .val (.long v10), .second, .val (.int v3), .val (.int v12), .val (.int v22), .val (.int v15), .val (.ref b23), .val (.ref b30), .val (.int v41), .val (.int v43), .val (.int v45), .val (.int v48), .val (.int v52), .unset] [(.long v1)])) t
      refine XS.lload X44.here hx rfl (hb hby at_268) rfl ?_
      show Steps p.tables e below (T44.setTop (mkF m 270 #[.val (.long p0), .second, .val (.long p1), .second, .val (.int p2), .val (.int p3), .val (.int p4), .val (.long v1), .second, .val (.long v10), .second, .val (.int v3), .val (.int v12), .val (.int v22), .val (.int v15), .val (.ref b23), .val (.ref b30), .val (.int v41), .val (.int v43), .val (.int v45), .val (.int v48), .val (.int v52), .unset] [(.long v10), (.long v1)])) t
      refine XS.lcmp X44.here hx rfl (hb hby at_270) rfl ?_
      show Steps p.tables e below (T44.setTop (mkF m 271 #[.val (.long p0), .second, .val (.long p1), .second, .val (.int p2), .val (.int p3), .val (.int p4), .val (.long v1), .second, .val (.long v10), .second, .val (.int v3), .val (.int v12), .val (.int v22), .val (.int v15), .val (.ref b23), .val (.ref b30), .val (.int v41), .val (.int v43), .val (.int v45), .val (.int v48), .val (.int v52), .unset] [(.int (lcmpW v1 v10))])) t
      by_cases hq55 : v10 < v1
      · refine XS.ifNo X44.here hx rfl (hb hby at_271) rfl (Jvm.Free.XT.ll_le_f hq55) ?_
        show Steps p.tables e below (T44.setTop (mkF m 274 #[.val (.long p0), .second, .val (.long p1), .second, .val (.int p2), .val (.int p3), .val (.int p4), .val (.long v1), .second, .val (.long v10), .second, .val (.int v3), .val (.int v12), .val (.int v22), .val (.int v15), .val (.ref b23), .val (.ref b30), .val (.int v41), .val (.int v43), .val (.int v45), .val (.int v48), .val (.int v52), .unset] [])) t
        refine XS.iconst X44.here hx rfl (hb hby at_274) ?_
        show Steps p.tables e below (T44.setTop (mkF m 275 #[.val (.long p0), .second, .val (.long p1), .second, .val (.int p2), .val (.int p3), .val (.int p4), .val (.long v1), .second, .val (.long v10), .second, .val (.int v3), .val (.int v12), .val (.int v22), .val (.int v15), .val (.ref b23), .val (.ref b30), .val (.int v41), .val (.int v43), .val (.int v45), .val (.int v48), .val (.int v52), .unset] [(.int (1 : Int32))])) t
        refine XS.goto X44.here hx rfl (pc0 := 275) (pc' := 279) rfl (hb hby at_275) (by decide) (by decide) ?_
        show Steps p.tables e below (T44.setTop (mkF m 279 #[.val (.long p0), .second, .val (.long p1), .second, .val (.int p2), .val (.int p3), .val (.int p4), .val (.long v1), .second, .val (.long v10), .second, .val (.int v3), .val (.int v12), .val (.int v22), .val (.int v15), .val (.ref b23), .val (.ref b30), .val (.int v41), .val (.int v43), .val (.int v45), .val (.int v48), .val (.int v52), .unset] [(.int (1 : Int32))])) t
        simp only [if_neg hq54, if_pos hq55] at k
        exact k
      · refine XS.ifYes X44.here hx rfl (pc0 := 271) (pc' := 278) rfl (hb hby at_271) rfl (Jvm.Free.XT.ll_le_t hq55) (by decide) (by decide) ?_
        show Steps p.tables e below (T44.setTop (mkF m 278 #[.val (.long p0), .second, .val (.long p1), .second, .val (.int p2), .val (.int p3), .val (.int p4), .val (.long v1), .second, .val (.long v10), .second, .val (.int v3), .val (.int v12), .val (.int v22), .val (.int v15), .val (.ref b23), .val (.ref b30), .val (.int v41), .val (.int v43), .val (.int v45), .val (.int v48), .val (.int v52), .unset] [])) t
        refine XS.iconst X44.here hx rfl (hb hby at_278) ?_
        show Steps p.tables e below (T44.setTop (mkF m 279 #[.val (.long p0), .second, .val (.long p1), .second, .val (.int p2), .val (.int p3), .val (.int p4), .val (.long v1), .second, .val (.long v10), .second, .val (.int v3), .val (.int v12), .val (.int v22), .val (.int v15), .val (.ref b23), .val (.ref b30), .val (.int v41), .val (.int v43), .val (.int v45), .val (.int v48), .val (.int v52), .unset] [(.int (0 : Int32))])) t
        simp only [if_neg hq54, if_neg hq55] at k
        exact k
  refine own_via st53 ?_
  show own_Go p e below s _ _ _ (T44.setTop (mkF m 279 #[.val (.long p0), .second, .val (.long p1), .second, .val (.int p2), .val (.int p3), .val (.int p4), .val (.long v1), .second, .val (.long v10), .second, .val (.int v3), .val (.int v12), .val (.int v22), .val (.int v15), .val (.ref b23), .val (.ref b30), .val (.int v41), .val (.int v43), .val (.int v45), .val (.int v48), .val (.int v52), .unset] [(.int (if v48 = (0 : Int32) then (0 : Int32) else (if v10 < v1 then (1 : Int32) else (0 : Int32))))]))
  refine own_via (fun _ k => XS.istore X44.here hx rfl (hb hby at_279) rfl (l' := #[.val (.long p0), .second, .val (.long p1), .second, .val (.int p2), .val (.int p3), .val (.int p4), .val (.long v1), .second, .val (.long v10), .second, .val (.int v3), .val (.int v12), .val (.int v22), .val (.int v15), .val (.ref b23), .val (.ref b30), .val (.int v41), .val (.int v43), .val (.int v45), .val (.int v48), .val (.int v52), .val (.int (if v48 = (0 : Int32) then (0 : Int32) else (if v10 < v1 then (1 : Int32) else (0 : Int32))))]) rfl k) ?_
  show own_Go p e below s _ _ _ (T44.setTop (mkF m 281 #[.val (.long p0), .second, .val (.long p1), .second, .val (.int p2), .val (.int p3), .val (.int p4), .val (.long v1), .second, .val (.long v10), .second, .val (.int v3), .val (.int v12), .val (.int v22), .val (.int v15), .val (.ref b23), .val (.ref b30), .val (.int v41), .val (.int v43), .val (.int v45), .val (.int v48), .val (.int v52), .val (.int (if v48 = (0 : Int32) then (0 : Int32) else (if v10 < v1 then (1 : Int32) else (0 : Int32))))] []))
  generalize hv56 : (if v48 = (0 : Int32) then (0 : Int32) else (if v10 < v1 then (1 : Int32) else (0 : Int32))) = v56
  show own_Go p e below s _ _ _ (T44.setTop (mkF m 281 #[.val (.long p0), .second, .val (.long p1), .second, .val (.int p2), .val (.int p3), .val (.int p4), .val (.long v1), .second, .val (.long v10), .second, .val (.int v3), .val (.int v12), .val (.int v22), .val (.int v15), .val (.ref b23), .val (.ref b30), .val (.int v41), .val (.int v43), .val (.int v45), .val (.int v48), .val (.int v52), .val (.int v56)] []))
  refine own_via (fun _ k => XS.iload X44.here hx rfl (hb hby at_281) rfl k) ?_
  show own_Go p e below s _ _ _ (T44.setTop (mkF m 283 #[.val (.long p0), .second, .val (.long p1), .second, .val (.int p2), .val (.int p3), .val (.int p4), .val (.long v1), .second, .val (.long v10), .second, .val (.int v3), .val (.int v12), .val (.int v22), .val (.int v15), .val (.ref b23), .val (.ref b30), .val (.int v41), .val (.int v43), .val (.int v45), .val (.int v48), .val (.int v52), .val (.int v56)] [(.int v41)]))
  refine own_via (fun _ k => XS.iload X44.here hx rfl (hb hby at_283) rfl k) ?_
  show own_Go p e below s _ _ _ (T44.setTop (mkF m 285 #[.val (.long p0), .second, .val (.long p1), .second, .val (.int p2), .val (.int p3), .val (.int p4), .val (.long v1), .second, .val (.long v10), .second, .val (.int v3), .val (.int v12), .val (.int v22), .val (.int v15), .val (.ref b23), .val (.ref b30), .val (.int v41), .val (.int v43), .val (.int v45), .val (.int v48), .val (.int v52), .val (.int v56)] [(.int v52), (.int v41)]))
  have hc57 : v41 = v52 := own_p1 hv41 hv48 hv52
  refine own_via (fun _ k => XS.icmpNo X44.here hx rfl (hb hby at_285) rfl (Jvm.Free.XT.ii_ne_f hc57) k) ?_
  show own_Go p e below s _ _ _ (T44.setTop (mkF m 288 #[.val (.long p0), .second, .val (.long p1), .second, .val (.int p2), .val (.int p3), .val (.int p4), .val (.long v1), .second, .val (.long v10), .second, .val (.int v3), .val (.int v12), .val (.int v22), .val (.int v15), .val (.ref b23), .val (.ref b30), .val (.int v41), .val (.int v43), .val (.int v45), .val (.int v48), .val (.int v52), .val (.int v56)] []))
  refine own_via (fun _ k => XS.iload X44.here hx rfl (hb hby at_288) rfl k) ?_
  show own_Go p e below s _ _ _ (T44.setTop (mkF m 290 #[.val (.long p0), .second, .val (.long p1), .second, .val (.int p2), .val (.int p3), .val (.int p4), .val (.long v1), .second, .val (.long v10), .second, .val (.int v3), .val (.int v12), .val (.int v22), .val (.int v15), .val (.ref b23), .val (.ref b30), .val (.int v41), .val (.int v43), .val (.int v45), .val (.int v48), .val (.int v52), .val (.int v56)] [(.int v43)]))
  refine own_via (fun _ k => XS.iload X44.here hx rfl (hb hby at_290) rfl k) ?_
  show own_Go p e below s _ _ _ (T44.setTop (mkF m 292 #[.val (.long p0), .second, .val (.long p1), .second, .val (.int p2), .val (.int p3), .val (.int p4), .val (.long v1), .second, .val (.long v10), .second, .val (.int v3), .val (.int v12), .val (.int v22), .val (.int v15), .val (.ref b23), .val (.ref b30), .val (.int v41), .val (.int v43), .val (.int v45), .val (.int v48), .val (.int v52), .val (.int v56)] [(.int v56), (.int v43)]))
  have hc58 : v43 = v56 := own_p2 hv43 hv48 hv56
  refine own_via (fun _ k => XS.icmpNo X44.here hx rfl (hb hby at_292) rfl (Jvm.Free.XT.ii_ne_f hc58) k) ?_
  show own_Go p e below s _ _ _ (T44.setTop (mkF m 295 #[.val (.long p0), .second, .val (.long p1), .second, .val (.int p2), .val (.int p3), .val (.int p4), .val (.long v1), .second, .val (.long v10), .second, .val (.int v3), .val (.int v12), .val (.int v22), .val (.int v15), .val (.ref b23), .val (.ref b30), .val (.int v41), .val (.int v43), .val (.int v45), .val (.int v48), .val (.int v52), .val (.int v56)] []))
  refine own_via (fun _ k => XS.iload X44.here hx rfl (hb hby at_295) rfl k) ?_
  show own_Go p e below s _ _ _ (T44.setTop (mkF m 297 #[.val (.long p0), .second, .val (.long p1), .second, .val (.int p2), .val (.int p3), .val (.int p4), .val (.long v1), .second, .val (.long v10), .second, .val (.int v3), .val (.int v12), .val (.int v22), .val (.int v15), .val (.ref b23), .val (.ref b30), .val (.int v41), .val (.int v43), .val (.int v45), .val (.int v48), .val (.int v52), .val (.int v56)] [(.int v45)]))
  have hc59 : v45 = (0 : Int32) := own_p3 hv45
  refine own_via (fun _ k => XS.ifNo X44.here hx rfl (hb hby at_297) rfl (Jvm.Free.XT.i0_ne_f hc59) k) ?_
  show own_Go p e below s _ _ _ (T44.setTop (mkF m 300 #[.val (.long p0), .second, .val (.long p1), .second, .val (.int p2), .val (.int p3), .val (.int p4), .val (.long v1), .second, .val (.long v10), .second, .val (.int v3), .val (.int v12), .val (.int v22), .val (.int v15), .val (.ref b23), .val (.ref b30), .val (.int v41), .val (.int v43), .val (.int v45), .val (.int v48), .val (.int v52), .val (.int v56)] []))
  refine own_via (fun _ k => XS.iconst X44.here hx rfl (hb hby at_300) k) ?_
  show own_Go p e below s _ _ _ (T44.setTop (mkF m 301 #[.val (.long p0), .second, .val (.long p1), .second, .val (.int p2), .val (.int p3), .val (.int p4), .val (.long v1), .second, .val (.long v10), .second, .val (.int v3), .val (.int v12), .val (.int v22), .val (.int v15), .val (.ref b23), .val (.ref b30), .val (.int v41), .val (.int v43), .val (.int v45), .val (.int v48), .val (.int v52), .val (.int v56)] [(.int (1 : Int32))]))
  refine own_via (fun _ k => XS.goto X44.here hx rfl (pc0 := 301) (pc' := 305) rfl (hb hby at_301) (by decide) (by decide) k) ?_
  show own_Go p e below s _ _ _ (T44.setTop (mkF m 305 #[.val (.long p0), .second, .val (.long p1), .second, .val (.int p2), .val (.int p3), .val (.int p4), .val (.long v1), .second, .val (.long v10), .second, .val (.int v3), .val (.int v12), .val (.int v22), .val (.int v15), .val (.ref b23), .val (.ref b30), .val (.int v41), .val (.int v43), .val (.int v45), .val (.int v48), .val (.int v52), .val (.int v56)] [(.int (1 : Int32))]))
  exact own_goN X44 hx (t := .boolean) Bd.returns (by simp) (hb hby at_305) Bd.notSynchronized (by decide) (by decide) (by rw [e44]; exact ⟨rfl, N44⟩)
set_option maxRecDepth 65536 in
set_option maxHeartbeats 40000000 in
theorem comes_1 {Post : Tables → Env → Array Value → State → Outcome → State → Prop} (hpost : ∀ tb e args s v u, (limb_1_1.after args s (.returned v) u = true ∧ limb_1_2.after args s (.returned v) u = true ∧ True) → FrameEnd s (.returned v) u (Jvm.fieldLocs frame_1_writes args s ++ Jvm.arrayLocs frame_1_arrays args s ++ Jvm.staticLocs frame_1_statics s) 16 128 → Post tb e args s (.returned v) u) :
    ArmFor flags0 classFile x code maxLocals ret World_1 tables_1 room_1 Calls_1 rest_1 Pre_1 Post := by
  intro l hfl _ _ p e ha hc hk s m args below hf hA hF happ hP
  obtain ⟨hcalls, hrest, hpre⟩ := hP
  obtain ⟨-, -, -, hnamed, -, -, -, hat⟩ := (Spec.applies_iff hf).mp happ
  obtain ⟨hg, hn⟩ := and_e (Cond.before_iff.mp (show (Jvm.Cond.and given_1 narrow_1).before args s = true from hpre))
  obtain ⟨g1, g2⟩ := and_e hg
  obtain ⟨g3, g4⟩ := and_e g2
  obtain ⟨g5, g6⟩ := and_e g4
  obtain ⟨g7, g8⟩ := and_e g6
  obtain ⟨g9, g10⟩ := and_e g8
  obtain ⟨w0, w1, w2, w3, w4, rfl⟩ : ∃ w0 w1 w2 w3 w4 : Value, args = #[w0, w1, w2, w3, w4] := by
    have hs : args.size = 5 := by simpa [Cond.value, given_1] using g1
    obtain ⟨L⟩ := args
    match L, hs with
    | [w0, w1, w2, w3, w4], _ => exact ⟨w0, w1, w2, w3, w4, rfl⟩
  have hw := fun d (hd : d ∈ tables_1) => atoms_spec (ws := Jvm.Cond.code x code maxLocals ret :: tables_1) hat d (List.mem_cons_of_mem _ hd)
  have hfit : Fit s := fun {y c} hc i hi => by
    obtain ⟨ha, rfl⟩ := Array.getElem?_eq_some_iff.mp hc
    have q := List.all_eq_true.mp ((Array.all_eq_true_iff_forall_mem.mp hF) _ (Array.getElem_mem ha)) i (List.mem_range.mpr hi)
    simpa [Array.getElem?_eq_getElem hi] using q
  obtain ⟨i0, ei0⟩ := isL_v g3
  obtain rfl : w0 = (.long i0) := Option.some.inj ei0
  obtain ⟨i1, ei1⟩ := isL_v g5
  obtain rfl : w1 = (.long i1) := Option.some.inj ei1
  obtain ⟨i2, ei2⟩ := is_v g7
  obtain rfl : w2 = (.int i2) := Option.some.inj ei2
  obtain ⟨i3, ei3⟩ := is_v g9
  obtain rfl : w3 = (.int i3) := Option.some.inj ei3
  obtain ⟨i4, ei4⟩ := is_v g10
  obtain rfl : w4 = (.int i4) := Option.some.inj ei4
  obtain ⟨n, o, h1, h2, h3, _, L, rfl, ⟨rfl, N⟩, hq⟩ := rm0 l s _ hw tables_1 i0 i1 i2 i3 i4 s.heap s.heap.size (Nat.le_refl _)  p e ha hc hk s m _ below hf ((Spec.applies_iff_loose hf).mp happ).1 ⟨rfl, State.Warmed39.refl s, rfl⟩ trivial
  refine ⟨n, _, h1, h2, h3, hpost _ _ _ _ _ _ ⟨Cond.after_iff.mpr rfl, Cond.after_iff.mpr (eq_i res_at (Term.int_eval (1)) rfl), trivial⟩ ⟨hq.1, hq.2.1, (hq.2.2.sift fun y hy => Or.inr (N y hy)).mono (by decide) (by decide)⟩⟩
theorem main_1_1 : Claimed_1_1 := comes_1 fun _ _ _ _ _ _ h hF => ⟨h.1, hF⟩
theorem main_1_2 : Claimed_1_2 := comes_1 fun _ _ _ _ _ _ h hF => ⟨h.2.1, hF⟩
end Jvm.Pilot.@@N@@
namespace Jvm.Pilot.@@N@@
open Jvm Jvm.ClassFile Sem Op Lib Jvm.Free Jvm.Stand Jvm.Pilot.@@N@@.Jvm.D
/-! MADE BY PROGRAM (witnessworld.py) out of the Statement's table words and the real class files: 9 classes; the members and pool entries that the words name. The judged class is class 1, her method 2. -/
namespace start1
open Jvm.ClassFile
def u (s : String) : CpInfo := .utf8 (stringToUtf16 s)
/-- a pool by its gaps: so many unusable entries, then the entry; so many at the end -/
def gap : Nat → List CpInfo → List CpInfo
  | 0, r => r
  | n + 1, r => .unusable :: gap n r
def poolList (es : List (Nat × CpInfo)) (last : Nat) : List CpInfo := es.foldr (fun e r => gap e.1 (e.2 :: r)) (gap last [])
def pool (es : List (Nat × CpInfo)) (last : Nat) : Array CpInfo := ⟨poolList es last⟩
def fileOf (pool : Array CpInfo) (this : Nat) (attrs : Array Attribute := #[]) (ms : Array MethodInfo := #[]) (fl : Nat := 33) (sup : Nat := 0) (ifs : Array Nat := #[]) (fds : Array FieldInfo := #[]) : ClassFile where
  minorVersion := 0
  majorVersion := 65
  constantPool := pool
  accessFlags := fl
  thisClass := this
  superClass := sup
  interfaces := ifs
  fields := fds
  methods := ms
  attributes := attrs
def plain (name : String) (sup : Option ClassId) : Class where
  name := name
  kind := .ordinary
  loader := none
  accessFlags := 33
  super := sup
  interfaces := #[]
  cf := none
  fields := #[]
  methods := #[]
  instanceTypes := #[]
  staticTypes := #[]
  resolved := #[]
  callSites := []
  init := .initialized
  statics := none
  mirror := none

def pool0 : Array CpInfo := pool [(5, u "<init>"), (0, u "()V"), (1, .class_ 10), (1, u "java/lang/Object")] 113

def k0c0 : Code := { maxStack := 0, maxLocals := 1, code := object_method_1_code, exceptionTable := #[], attributes := #[] }
def k0m0 : Method := { name := "<init>", desc := "()V", sig := { parameters := [], returnType := none }, accessFlags := 1, code := some k0c0 }
/-- java/lang/Object -/
def k0 : Class := { plain "java/lang/Object" none with
  accessFlags := 33
  interfaces := #[]
  cf := some (fileOf pool0 8 #[] #[{ accessFlags := 1, nameIndex := 5, descriptorIndex := 6, attributes := #[] }] 33 0 #[] #[])
  fields := #[]
  methods := #[k0m0]
  instanceTypes := #[]
  staticTypes := #[]
  resolved := Array.replicate 124 none
  statics := none }

def pool1 : Array CpInfo := pool [(2, .class_ 4), (1, u "java/lang/Object"), (0, u "<init>"), (0, u "()V"), (0, .integer 2147483647), (2, .long 9223372036854775807), (1, .methodref 13 14), (0, .class_ 15), (0, .nameAndType 16 17), (0, u "com/example/greenbelt/greenbelt/model/RequestIdOutdatesPinLaw"), (0, u "member"), (0, u "(I)I"), (2, .class_ 21), (0, u "com/example/greenbelt/greenbelt/model/RequestId"), (0, .methodref 20 23), (0, .nameAndType 5 24), (0, u "(JI)V"), (0, .methodref 20 26), (0, .nameAndType 27 28), (0, u "outdates"), (0, u "(Lcom/example/greenbelt/greenbelt/model/RequestId;)Z"), (3, u "law"), (0, u "(JJIII)Z")] 2

def k1m0 : Method := { name := "<init>", desc := "()V", sig := { parameters := [], returnType := none }, accessFlags := 1, code := none }
def k1c1 : Code := { maxStack := 2, maxLocals := 2, code := method_2_code, exceptionTable := #[], attributes := #[] }
def k1m1 : Method := { name := "member", desc := "(I)I", sig := { parameters := [.int], returnType := some .int }, accessFlags := 10, code := some k1c1 }
def k1c2 : Code := { maxStack := 5, maxLocals := 23, code := code, exceptionTable := #[], attributes := #[] }
def k1m2 : Method := { name := "law", desc := "(JJIII)Z", sig := { parameters := [.long, .long, .int, .int, .int], returnType := some .boolean }, accessFlags := 9, code := some k1c2 }
/-- com/example/greenbelt/greenbelt/model/RequestIdOutdatesPinLaw -/
def k1 : Class := { plain "com/example/greenbelt/greenbelt/model/RequestIdOutdatesPinLaw" (some 0) with
  accessFlags := 49
  interfaces := #[]
  cf := some (fileOf pool1 13 #[] #[{ accessFlags := 1, nameIndex := 5, descriptorIndex := 6, attributes := #[] }, { accessFlags := 10, nameIndex := 16, descriptorIndex := 17, attributes := #[] }, { accessFlags := 9, nameIndex := 32, descriptorIndex := 33, attributes := #[] }] 49 2 #[] #[])
  fields := #[]
  methods := #[k1m0, k1m1, k1m2]
  instanceTypes := #[]
  staticTypes := #[]
  resolved := Array.replicate 36 none
  statics := none }

def pool2 : Array CpInfo := pool [(1, .methodref 2 3), (0, .class_ 4), (0, .nameAndType 5 6), (0, u "java/lang/Object"), (0, u "<init>"), (0, u "()V"), (0, .class_ 8), (0, u "java/lang/Record")] 13

def k2c0 : Code := { maxStack := 1, maxLocals := 1, code := jdk_30_method_1_code, exceptionTable := #[], attributes := #[] }
def k2m0 : Method := { name := "<init>", desc := "()V", sig := { parameters := [], returnType := none }, accessFlags := 4, code := some k2c0 }
/-- java/lang/Record -/
def k2 : Class := { plain "java/lang/Record" (some 0) with
  accessFlags := 1057
  interfaces := #[]
  cf := some (fileOf pool2 7 #[] #[{ accessFlags := 4, nameIndex := 5, descriptorIndex := 6, attributes := #[] }] 1057 2 #[] #[])
  fields := #[]
  methods := #[k2m0]
  instanceTypes := #[]
  staticTypes := #[]
  resolved := Array.replicate 22 none
  statics := none }

def pool3 : Array CpInfo := pool [(1, .class_ 2), (0, u "java/lang/Comparable"), (0, .class_ 4), (0, u "java/lang/Object")] 7

/-- java/lang/Comparable -/
def k3 : Class := { plain "java/lang/Comparable" (some 0) with
  accessFlags := 1537
  interfaces := #[]
  cf := some (fileOf pool3 1 #[] #[] 1537 3 #[] #[])
  fields := #[]
  methods := #[]
  instanceTypes := #[]
  staticTypes := #[]
  resolved := Array.replicate 12 none
  statics := none }

def pool4 : Array CpInfo := pool [(1, .methodref 2 3), (0, .class_ 4), (0, .nameAndType 5 6), (0, u "java/lang/Record"), (0, u "<init>"), (0, u "()V"), (12, .fieldref 20 21), (0, .class_ 22), (0, .nameAndType 23 24), (0, u "com/example/greenbelt/greenbelt/model/RequestId"), (0, u "timestamp"), (0, u "J"), (0, .fieldref 20 26), (0, .nameAndType 27 28), (0, u "member"), (0, u "I"), (26, .class_ 56), (0, u "java/lang/Comparable"), (0, u "(JI)V"), (4, u "outdates"), (0, u "(Lcom/example/greenbelt/greenbelt/model/RequestId;)Z")] 38

def k4c0 : Code := { maxStack := 4, maxLocals := 4, code := prog_76_method_1_code, exceptionTable := #[], attributes := #[] }
def k4m0 : Method := { name := "<init>", desc := "(JI)V", sig := { parameters := [.long, .int], returnType := none }, accessFlags := 1, code := some k4c0 }
def k4c1 : Code := { maxStack := 4, maxLocals := 2, code := prog_76_method_2_code, exceptionTable := #[], attributes := #[] }
def k4m1 : Method := { name := "outdates", desc := "(Lcom/example/greenbelt/greenbelt/model/RequestId;)Z", sig := { parameters := [(.object "com/example/greenbelt/greenbelt/model/RequestId")], returnType := some .boolean }, accessFlags := 1, code := some k4c1 }
/-- com/example/greenbelt/greenbelt/model/RequestId -/
def k4 : Class := { plain "com/example/greenbelt/greenbelt/model/RequestId" (some 2) with
  accessFlags := 49
  interfaces := #[3]
  cf := some (fileOf pool4 20 #[] #[{ accessFlags := 1, nameIndex := 5, descriptorIndex := 57, attributes := #[] }, { accessFlags := 1, nameIndex := 62, descriptorIndex := 63, attributes := #[] }] 49 2 #[55] #[{ accessFlags := 18, nameIndex := 23, descriptorIndex := 24, attributes := #[] }, { accessFlags := 18, nameIndex := 27, descriptorIndex := 28, attributes := #[] }])
  fields := #[{ name := "timestamp", type := .long, accessFlags := 18, slot := 0, constantValue := 0 }, { name := "member", type := .int, accessFlags := 18, slot := 1, constantValue := 0 }]
  methods := #[k4m0, k4m1]
  instanceTypes := #[.long, .int]
  staticTypes := #[]
  resolved := Array.replicate 102 none
  statics := none }

def pool5 : Array CpInfo := pool [(1, u "java/lang/Cloneable"), (0, .class_ 1), (0, u "java/lang/Object"), (0, .class_ 3)] 3

/-- java/lang/Cloneable -/
def k5 : Class := { plain "java/lang/Cloneable" (some 0) with
  accessFlags := 1537
  interfaces := #[]
  cf := some (fileOf pool5 2 #[] #[] 1537 4 #[] #[])
  fields := #[]
  methods := #[]
  instanceTypes := #[]
  staticTypes := #[]
  resolved := Array.replicate 8 none
  statics := none }

def pool6 : Array CpInfo := pool [(1, u "java/io/Serializable"), (0, .class_ 1), (0, u "java/lang/Object"), (0, .class_ 3)] 3

/-- java/io/Serializable -/
def k6 : Class := { plain "java/io/Serializable" (some 0) with
  accessFlags := 1537
  interfaces := #[]
  cf := some (fileOf pool6 2 #[] #[] 1537 4 #[] #[])
  fields := #[]
  methods := #[]
  instanceTypes := #[]
  staticTypes := #[]
  resolved := Array.replicate 8 none
  statics := none }

/-- the primitive byte -/
def k7 : Class := { plain "byte" none with kind := .primitive 'B', accessFlags := 0x411 }
/-- [B -/
def k8 : Class := { plain "[B" (some 0) with kind := .array 7 .byte, interfaces := #[5, 6], accessFlags := 1041 }

def heap : Heap := #[]
def classes : Array Class := #[k0, k1, k2, k3, k4, k5, k6, k7, k8]
def interned : List (Array UInt16 × Addr) := []
def slotsUsed : Nat := 0
def theMethod : MethodId := ⟨1, 2⟩
def args0 : Array Value := #[.long 5, .long 6, .int 7, .int 8, .int 3]
def aboutOver (below : List Frame) : State where
  vm := { classes := classes, interned := interned.toArray }
  heap := heap
  slotsUsed := slotsUsed
  threads := #[{ frames := .invoking theMethod args0 :: below }]
def below0 : List Frame := [.native { method := ⟨0, 0⟩, args := #[] }]
def about1 : State := aboutOver below0
def p0 : Program := .bare "" "" ""
def e0 : Env := launch0.env 0 0 0
theorem w_frames : about1.frames = Frame.invoking theMethod args0 :: below0 := rfl
set_option maxRecDepth 65536 in
theorem w_args : argsFit about1.vm theMethod args0 = true := by decide +kernel
set_option maxRecDepth 65536 in
theorem w_heap : heapFits about1 = true := by decide +kernel
set_option maxRecDepth 65536 in
theorem w_runnable : about1.curStatus? = some .runnable := by decide +kernel
set_option maxRecDepth 65536 in
theorem w_alone : about1.alone = true := by decide +kernel
set_option maxRecDepth 65536 in
theorem w_named : about1.methodNamed? x = some theMethod := by decide +kernel
set_option maxRecDepth 65536 in
theorem w_hears : about1.hears theMethod below0 = true := by decide +kernel
set_option maxRecDepth 65536 in
theorem w_ripe : about1.ripe theMethod args0 below0 = true := by decide +kernel
theorem w_running : about1.status = .running := rfl
set_option maxRecDepth 65536 in
theorem w_room : about1.hasRoom e0.platform room_1 = true :=
  launch0.hasRoom_least _ room_1 (by decide +kernel) (by decide +kernel) (by decide +kernel) (by decide +kernel) (by decide +kernel) (by decide +kernel)
theorem allAtoms_all (ts : List Jvm.Cond) (a : Array Jvm.Value) (st : Jvm.State) : (allAtoms ts).before a st = ts.all (fun c => c.before a st) := by
  induction ts with
  | nil => rfl
  | cons c t ih =>
    show (Jvm.Cond.and c (allAtoms t)).before a st = _
    rw [Jvm.Cond.before_and, ih, List.all_cons]
def words1 : List Jvm.Cond := Jvm.Cond.code x code maxLocals ret :: tables_1
/-- a 'code' word, met by the world's own term for the bytes: nothing is compared byte by byte -/
theorem code_word {y : MethodName} {bytes : ByteArray} {mx : Nat} {rt : Option FieldType} {a : Array Value} {s : State} {m : MethodId} {meth : Method} {c : Code} (h1 : s.methodNamed? y = some m) (h2 : s.vm.method? m = some meth) (h3 : meth.code = some c) (h4 : c.code = bytes)
    (h5 : (c.maxLocals == mx && c.exceptionTable.isEmpty && decide (c.maxStack ≤ mostOperands) && decide (meth.sig.returnType = rt) && !meth.locks && decide (parseMethodDescriptor y.desc = some meth.sig)) = true) : (Jvm.Cond.code y bytes mx rt).before a s = true := by
  simp only [Bool.and_eq_true, beq_iff_eq, Bool.not_eq_true', decide_eq_true_eq] at h5
  obtain ⟨⟨⟨⟨⟨g1, g2⟩, g3⟩, g4⟩, g5⟩, g6⟩ := h5
  simp [Cond.before, Cond.holds, Cond.value, h1, h2, h3, h4, g1, g2, g3, g4, g5, g6]
def isCode : Jvm.Cond → Bool
  | .code _ _ _ _ => true
  | _ => false
theorem all_split {L : List Jvm.Cond} {P : Jvm.Cond → Bool} (h1 : L.all (fun c => isCode c || P c) = true) (h2 : ∀ c ∈ L.filter isCode, P c = true) : L.all P = true := by
  refine List.all_eq_true.mpr fun c hc => ?_
  have h := List.all_eq_true.mp h1 c hc
  rcases Bool.eq_false_or_eq_true (isCode c) with hi | hi
  · exact h2 c (List.mem_filter.mpr ⟨hc, hi⟩)
  · simpa [hi] using h
set_option maxRecDepth 65536 in
theorem w_c0 : (Jvm.Cond.code x code maxLocals ret).before args0 about1 = true := code_word (m := ⟨1, 2⟩) (meth := k1m2) (c := k1c2) (by decide +kernel) rfl rfl rfl (by decide +kernel)
set_option maxRecDepth 65536 in
theorem w_c1 : (Jvm.Cond.code ({ cls := "com/example/greenbelt/greenbelt/model/RequestIdOutdatesPinLaw", name := "member", desc := "(I)I" } : Jvm.MethodName) method_2_code (2 : Nat) (Option.some Jvm.ClassFile.FieldType.int)).before args0 about1 = true := code_word (m := ⟨1, 1⟩) (meth := k1m1) (c := k1c1) (by decide +kernel) rfl rfl rfl (by decide +kernel)
set_option maxRecDepth 65536 in
theorem w_c2 : (Jvm.Cond.code ({ cls := "com/example/greenbelt/greenbelt/model/RequestId", name := "<init>", desc := "(JI)V" } : Jvm.MethodName) prog_76_method_1_code (4 : Nat) (Option.none : Option Jvm.ClassFile.FieldType)).before args0 about1 = true := code_word (m := ⟨4, 0⟩) (meth := k4m0) (c := k4c0) (by decide +kernel) rfl rfl rfl (by decide +kernel)
set_option maxRecDepth 65536 in
theorem w_c3 : (Jvm.Cond.code ({ cls := "java/lang/Record", name := "<init>", desc := "()V" } : Jvm.MethodName) jdk_30_method_1_code (1 : Nat) (Option.none : Option Jvm.ClassFile.FieldType)).before args0 about1 = true := code_word (m := ⟨2, 0⟩) (meth := k2m0) (c := k2c0) (by decide +kernel) rfl rfl rfl (by decide +kernel)
set_option maxRecDepth 65536 in
theorem w_c4 : (Jvm.Cond.code ({ cls := "java/lang/Object", name := "<init>", desc := "()V" } : Jvm.MethodName) object_method_1_code (1 : Nat) (Option.none : Option Jvm.ClassFile.FieldType)).before args0 about1 = true := code_word (m := ⟨0, 0⟩) (meth := k0m0) (c := k0c0) (by decide +kernel) rfl rfl rfl (by decide +kernel)
set_option maxRecDepth 65536 in
theorem w_c5 : (Jvm.Cond.code ({ cls := "com/example/greenbelt/greenbelt/model/RequestId", name := "outdates", desc := "(Lcom/example/greenbelt/greenbelt/model/RequestId;)Z" } : Jvm.MethodName) prog_76_method_2_code (2 : Nat) (Option.some Jvm.ClassFile.FieldType.boolean)).before args0 about1 = true := code_word (m := ⟨4, 1⟩) (meth := k4m1) (c := k4c1) (by decide +kernel) rfl rfl rfl (by decide +kernel)
def codes1 : List Jvm.Cond := [Jvm.Cond.code x code maxLocals ret, Jvm.Cond.code ({ cls := "com/example/greenbelt/greenbelt/model/RequestIdOutdatesPinLaw", name := "member", desc := "(I)I" } : Jvm.MethodName) method_2_code (2 : Nat) (Option.some Jvm.ClassFile.FieldType.int), Jvm.Cond.code ({ cls := "com/example/greenbelt/greenbelt/model/RequestId", name := "<init>", desc := "(JI)V" } : Jvm.MethodName) prog_76_method_1_code (4 : Nat) (Option.none : Option Jvm.ClassFile.FieldType), Jvm.Cond.code ({ cls := "java/lang/Record", name := "<init>", desc := "()V" } : Jvm.MethodName) jdk_30_method_1_code (1 : Nat) (Option.none : Option Jvm.ClassFile.FieldType), Jvm.Cond.code ({ cls := "java/lang/Object", name := "<init>", desc := "()V" } : Jvm.MethodName) object_method_1_code (1 : Nat) (Option.none : Option Jvm.ClassFile.FieldType), Jvm.Cond.code ({ cls := "com/example/greenbelt/greenbelt/model/RequestId", name := "outdates", desc := "(Lcom/example/greenbelt/greenbelt/model/RequestId;)Z" } : Jvm.MethodName) prog_76_method_2_code (2 : Nat) (Option.some Jvm.ClassFile.FieldType.boolean)]
set_option maxRecDepth 65536 in
theorem codes_eq : words1.filter isCode = codes1 := rfl
theorem w_codes : ∀ c ∈ words1.filter isCode, c.before args0 about1 = true := by
  rw [codes_eq]
  intro c hc
  simp only [codes1, List.mem_cons, List.not_mem_nil, or_false] at hc
  rcases hc with rfl | rfl | rfl | rfl | rfl | rfl
  · exact w_c0
  · exact w_c1
  · exact w_c2
  · exact w_c3
  · exact w_c4
  · exact w_c5
set_option maxRecDepth 65536 in
theorem w_t1 : (words1.take 24).all (fun c => isCode c || c.before args0 about1) = true := by decide +kernel
set_option maxRecDepth 65536 in
theorem w_t2 : (words1.drop 24).all (fun c => isCode c || c.before args0 about1) = true := by decide +kernel
theorem w_tables : (allAtoms (Jvm.Cond.code x code maxLocals ret :: tables_1)).before args0 about1 = true := by
  rw [allAtoms_all]
  show words1.all (fun c => c.before args0 about1) = true
  refine all_split ?_ w_codes
  rw [← List.take_append_drop 24 words1, List.all_append, w_t1, w_t2]
  rfl
set_option maxRecDepth 65536 in
theorem w_case : (Jvm.Cond.and given_1 narrow_1).before args0 about1 = true := by decide +kernel
theorem w_applies : (headSpec (Jvm.Cond.code x code maxLocals ret :: tables_1) room_1).applies x e0.platform about1 = true :=
  (Spec.applies_iff w_frames).mpr ⟨w_running, w_runnable, w_alone, w_named, w_hears, w_ripe, w_room, w_tables⟩
theorem atStart : AtStart classFile x code maxLocals ret World_1 tables_1 room_1 Calls_1 rest_1 Pre_1 launch0 p0 e0 about1 theMethod args0 below0 :=
  ⟨lists_1, trivial, launch0.admits_env _ _ _, launch0.least_env, fairChoices_fair.cas, fairChoices_fair.clock, w_frames, w_args, w_heap, w_applies, trivial, trivial, w_case⟩
end start1
theorem witness_1 : WitnessClaimed_1 := ⟨start1.p0, start1.e0, start1.about1, start1.theMethod, start1.args0, start1.below0, start1.atStart⟩
end Jvm.Pilot.@@N@@
